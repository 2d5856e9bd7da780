/-
  NARROWER THAN 'FOR EVERY INPUT', by the rows' own cells (each row's printed sentence says how): FnMaxDistance: laid.
  DERIVED. THE GIVEN ROWS OF THIS SEAT. 1 by the template 'for every input the law returns true; each argument reads behind the call as it read before'; 0 by the template 'total and deterministic' (their statements: YtnfagjemhbgfkaaDoorTotals.lean).
  GIVEN WITH THE SEED: the statements are not yours to turn. If you find one false, say at which input.
  Laid BY PROGRAM, IN A SANDBOX (cutbox-rows.mjs): the forced cells as the released guide's own fill.sh prints them over the translation 4526de780e947d0c… (all of the seat's roots in one cut). By AI agents, Wed Nov 11 2026. No macro, syntax, notation, axiom, sorry.
-/
import Derived.Test.YtnfagjemhbgfkaaDoorChecked
import GoSem.Claim
import GoSem.ClaimJoined
import GoSem.ClaimMapViews
import Derived.JoinedTies
import Derived.KernelRfl
namespace Go.Proofs.YtnfagjemhbgfkaaDoor
/- THE CELL 'sum', in the pinned program and in every row, IS THE sha256 OF THE DUMP (.gsa) THAT YtnfagjemhbgfkaaDoorProg.lean LOADS. Nothing in Lean hashes anything: it is a label: what it is worth is what the hold of that sum in a sandbox is worth. -/
noncomputable def Tryd.pinned : Pinned := { name := "ytnfagjemhbgfkaadoor", sum := "4526de780e947d0c46264e1a65a689880c1bfac8159eac33f842441a2bbb2759", checked := Tryd.checked }
namespace Rows
def none {H : Type} : Left H := { results := [], args := [] }

/- WHAT THE LISTED PACKAGE-LEVEL VARIABLES READ AS WHEN THE CALL BEGINS. Each datum BY PROGRAM (the guide's laid-datum.mjs) off the statement by which the dump's own 'gosem.cut.vars' lays the variable. In a bare row this is a premise. The card (YtnfagjemhbgfkaaDoorCards.lean) ties it to the program's text. -/
def laid_pub_traverser_pub_vellum_levenshtein_ErrTooManyStates {H : Type} : DataW H := .iface "*errors.errorString" (.ptr (.agg [.lit (.string [100, 102, 97, 32, 99, 111, 110, 116, 97, 105, 110, 115, 32, 109, 111, 114, 101, 32, 116, 104, 97, 110, 32, 49, 48, 48, 48, 48, 32, 115, 116, 97, 116, 101, 115])]))

/-- 'laws.FnMaxDistance': WHATEVER THE INPUT: true; the input reads as it did. -/
def fnMaxDistanceSpec : ChangeSpec := { name := "fnMaxDistance", fn := fun _ => fun
  | [d1, d2] => { results := [.lit (.bool true)], args := [d1, d2] }
  | _ => none }
def fnMaxDistanceRow : OpenClaim := { program := "ytnfagjemhbgfkaadoor", sum := "4526de780e947d0c46264e1a65a689880c1bfac8159eac33f842441a2bbb2759", func := "pub-traverser/laws.FnMaxDistance", spec := "fnMaxDistance", unfollowed := true, recurses := true, named := ["pub-traverser/pub/vellum/levenshtein.ErrTooManyStates"], plainKeys := false, apart := false, laid := [("pub-traverser/pub/vellum/levenshtein.ErrTooManyStates", laid_pub_traverser_pub_vellum_levenshtein_ErrTooManyStates)] }
def FnMaxDistanceSaid : Prop := fnMaxDistanceRow.holds Tryd.pinned (OpenSpec.ofChange fnMaxDistanceSpec)

/-- ITS FALSE NEIGHBOUR: 'it returns false'. Refute it at one input. -/
def fnMaxDistanceWrong : ChangeSpec := { name := "fnMaxDistance", fn := fun _ => fun
  | [d1, d2] => { results := [.lit (.bool false)], args := [d1, d2] }
  | _ => none }
def FnMaxDistanceWrongFalsely : Prop := fnMaxDistanceRow.holds Tryd.pinned (OpenSpec.ofChange fnMaxDistanceWrong)

/- THE SECOND FORM. 'bulk': how many values and letters a reading holds, each counted each time it is reached (what is shared counts as often as it is met; a slice's spare places count too). A statement '..UptoSaid' is the law's where the arguments, and the package variables that the reading takes, are together of bulk at most 1048576: NARROWER than '..Said'. Prove '..Said' where nothing that the law and all that it calls make is longer than what came in: it says more and counts as full. Else prove '..UptoSaid'. A law counts once. -/
mutual
def uptoBulk {H : Type} : DataW H → Nat
  | .lit (.string bytes) => bytes.length + 1
  | .lit _ => 1
  | .nil => 1
  | .ptr d => uptoBulk d + 1
  | .slice elems spare => uptoBulkAll elems + uptoBulkAll spare + 1
  | .agg parts => uptoBulkAll parts + 1
  | .iface _ d => uptoBulk d + 1
  | .map entries => uptoBulkEntries entries + 1
  | .held _ => 1
def uptoBulkAll {H : Type} : List (DataW H) → Nat
  | [] => 0
  | d :: r => uptoBulk d + uptoBulkAll r
def uptoBulkEntries {H : Type} : List (Lit × DataW H) → Nat
  | [] => 0
  | x :: r => uptoBulkEntry x + uptoBulkEntries r
def uptoBulkEntry {H : Type} : Lit × DataW H → Nat
  | (.string bytes, d) => bytes.length + uptoBulk d + 1
  | (_, d) => uptoBulk d + 1
 end
def uptoSmall : (H : Type) → List (DataW H) → Bool := fun _ ds => decide (uptoBulkAll ds ≤ 1048576)
def OpenSpec.upto (s : _root_.Go.ChangeSpec) : _root_.Go.OpenSpec := { _root_.Go.OpenSpec.ofChange s with cond := some uptoSmall }

/-- 'laws.FnMaxDistance', WHERE WHAT IT READS IS OF BULK AT MOST 1048576: true; the input reads as it did. -/
def fnMaxDistanceUptoRow : OpenClaim := { program := "ytnfagjemhbgfkaadoor", sum := "4526de780e947d0c46264e1a65a689880c1bfac8159eac33f842441a2bbb2759", func := "pub-traverser/laws.FnMaxDistance", spec := "fnMaxDistance", unfollowed := true, recurses := true, named := ["pub-traverser/pub/vellum/levenshtein.ErrTooManyStates"], plainKeys := false, apart := false, laid := [("pub-traverser/pub/vellum/levenshtein.ErrTooManyStates", laid_pub_traverser_pub_vellum_levenshtein_ErrTooManyStates)], narrowed := true }
def FnMaxDistanceUptoSaid : Prop := fnMaxDistanceUptoRow.holds Tryd.pinned (OpenSpec.upto fnMaxDistanceSpec)

end Rows
end Go.Proofs.YtnfagjemhbgfkaaDoor
