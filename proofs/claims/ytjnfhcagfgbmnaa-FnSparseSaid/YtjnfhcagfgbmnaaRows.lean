/-
  No cell of these rows narrows 'for every input' (looked for: loops, veiled, ifaces, maps, wideKeys, modest, calm, conditions, laid).
  DERIVED. THE GIVEN ROWS OF THIS SEAT. 8 by the template 'for every input the law returns true; each argument reads behind the call as it read before'; 0 by the template 'total and deterministic' (their statements: YtjnfhcagfgbmnaaTotals.lean).
  GIVEN WITH THE SEED: the statements are not yours to turn. If you find one false, say at which input.
  Laid BY PROGRAM, IN A SANDBOX (cutbox-rows.mjs): the forced cells as the released guide's own fill.sh prints them over the translation 99d23b2ec828f640… (all of the seat's roots in one cut). By AI agents, Wed Nov 11 2026. No macro, syntax, notation, axiom, sorry.
-/
import Derived.Test.YtjnfhcagfgbmnaaChecked
import GoSem.Claim
import GoSem.ClaimJoined
import GoSem.ClaimMapViews
import Derived.JoinedTies
import Derived.KernelRfl
namespace Go.Proofs.Ytjnfhcagfgbmnaa
/- THE CELL 'sum', in the pinned program and in every row, IS THE sha256 OF THE DUMP (.gsa) THAT YtjnfhcagfgbmnaaProg.lean LOADS. Nothing in Lean hashes anything: it is a label: what it is worth is what the hold of that sum in a sandbox is worth. -/
noncomputable def Try.pinned : Pinned := { name := "ytjnfhcagfgbmnaa", sum := "99d23b2ec828f640e3782bbce0e9ae2e2da95a0b0a6730c2e1a6db393649f033", checked := Try.checked }
namespace Rows
def none {H : Type} : Left H := { results := [], args := [] }

/-- 'laws.FnDist': WHATEVER THE INPUT: true; the input reads as it did. -/
def fnDistSpec : ChangeSpec := { name := "fnDist", fn := fun _ => fun
  | [d1, d2] => { results := [.lit (.bool true)], args := [d1, d2] }
  | _ => none }
def fnDistRow : OpenClaim := { program := "ytjnfhcagfgbmnaa", sum := "99d23b2ec828f640e3782bbce0e9ae2e2da95a0b0a6730c2e1a6db393649f033", func := "pub-traverser/laws.FnDist", spec := "fnDist", apart := false }
def FnDistSaid : Prop := fnDistRow.holds Try.pinned (OpenSpec.ofChange fnDistSpec)

/-- ITS FALSE NEIGHBOUR: 'it returns false'. Refute it at one input. -/
def fnDistWrong : ChangeSpec := { name := "fnDist", fn := fun _ => fun
  | [d1, d2] => { results := [.lit (.bool false)], args := [d1, d2] }
  | _ => none }
def FnDistWrongFalsely : Prop := fnDistRow.holds Try.pinned (OpenSpec.ofChange fnDistWrong)

/-- 'laws.FnNumTrans': WHATEVER THE INPUT: true; the input reads as it did. -/
def fnNumTransSpec : ChangeSpec := { name := "fnNumTrans", fn := fun _ => fun
  | [d] => { results := [.lit (.bool true)], args := [d] }
  | _ => none }
def fnNumTransRow : OpenClaim := { program := "ytjnfhcagfgbmnaa", sum := "99d23b2ec828f640e3782bbce0e9ae2e2da95a0b0a6730c2e1a6db393649f033", func := "pub-traverser/laws.FnNumTrans", spec := "fnNumTrans", apart := false }
def FnNumTransSaid : Prop := fnNumTransRow.holds Try.pinned (OpenSpec.ofChange fnNumTransSpec)

/-- ITS FALSE NEIGHBOUR: 'it returns false'. Refute it at one input. -/
def fnNumTransWrong : ChangeSpec := { name := "fnNumTrans", fn := fun _ => fun
  | [d] => { results := [.lit (.bool false)], args := [d] }
  | _ => none }
def FnNumTransWrongFalsely : Prop := fnNumTransRow.holds Try.pinned (OpenSpec.ofChange fnNumTransWrong)

/-- 'laws.FnCharacteristic': WHATEVER THE INPUT: true; the input reads as it did. -/
def fnCharacteristicSpec : ChangeSpec := { name := "fnCharacteristic", fn := fun _ => fun
  | [d1, d2] => { results := [.lit (.bool true)], args := [d1, d2] }
  | _ => none }
def fnCharacteristicRow : OpenClaim := { program := "ytjnfhcagfgbmnaa", sum := "99d23b2ec828f640e3782bbce0e9ae2e2da95a0b0a6730c2e1a6db393649f033", func := "pub-traverser/laws.FnCharacteristic", spec := "fnCharacteristic", apart := false }
def FnCharacteristicSaid : Prop := fnCharacteristicRow.holds Try.pinned (OpenSpec.ofChange fnCharacteristicSpec)

/-- ITS FALSE NEIGHBOUR: 'it returns false'. Refute it at one input. -/
def fnCharacteristicWrong : ChangeSpec := { name := "fnCharacteristic", fn := fun _ => fun
  | [d1, d2] => { results := [.lit (.bool false)], args := [d1, d2] }
  | _ => none }
def FnCharacteristicWrongFalsely : Prop := fnCharacteristicRow.holds Try.pinned (OpenSpec.ofChange fnCharacteristicWrong)

/-- 'laws.FnMaxScalar': WHATEVER THE INPUT: true; the input reads as it did. -/
def fnMaxScalarSpec : ChangeSpec := { name := "fnMaxScalar", fn := fun _ => fun
  | [d] => { results := [.lit (.bool true)], args := [d] }
  | _ => none }
def fnMaxScalarRow : OpenClaim := { program := "ytjnfhcagfgbmnaa", sum := "99d23b2ec828f640e3782bbce0e9ae2e2da95a0b0a6730c2e1a6db393649f033", func := "pub-traverser/laws.FnMaxScalar", spec := "fnMaxScalar", apart := false }
def FnMaxScalarSaid : Prop := fnMaxScalarRow.holds Try.pinned (OpenSpec.ofChange fnMaxScalarSpec)

/-- ITS FALSE NEIGHBOUR: 'it returns false'. Refute it at one input. -/
def fnMaxScalarWrong : ChangeSpec := { name := "fnMaxScalar", fn := fun _ => fun
  | [d] => { results := [.lit (.bool false)], args := [d] }
  | _ => none }
def FnMaxScalarWrongFalsely : Prop := fnMaxScalarRow.holds Try.pinned (OpenSpec.ofChange fnMaxScalarWrong)

/-- 'laws.FnPackSizes': WHATEVER THE INPUT: true; the input reads as it did. -/
def fnPackSizesSpec : ChangeSpec := { name := "fnPackSizes", fn := fun _ => fun
  | [d1, d2] => { results := [.lit (.bool true)], args := [d1, d2] }
  | _ => none }
def fnPackSizesRow : OpenClaim := { program := "ytjnfhcagfgbmnaa", sum := "99d23b2ec828f640e3782bbce0e9ae2e2da95a0b0a6730c2e1a6db393649f033", func := "pub-traverser/laws.FnPackSizes", spec := "fnPackSizes", apart := false }
def FnPackSizesSaid : Prop := fnPackSizesRow.holds Try.pinned (OpenSpec.ofChange fnPackSizesSpec)

/-- ITS FALSE NEIGHBOUR: 'it returns false'. Refute it at one input. -/
def fnPackSizesWrong : ChangeSpec := { name := "fnPackSizes", fn := fun _ => fun
  | [d1, d2] => { results := [.lit (.bool false)], args := [d1, d2] }
  | _ => none }
def FnPackSizesWrongFalsely : Prop := fnPackSizesRow.holds Try.pinned (OpenSpec.ofChange fnPackSizesWrong)

/-- 'laws.FnSequenceFurther': WHATEVER THE INPUT: true; the input reads as it did. -/
def fnSequenceFurtherSpec : ChangeSpec := { name := "fnSequenceFurther", fn := fun _ => fun
  | [d1, d2, d3] => { results := [.lit (.bool true)], args := [d1, d2, d3] }
  | _ => none }
def fnSequenceFurtherRow : OpenClaim := { program := "ytjnfhcagfgbmnaa", sum := "99d23b2ec828f640e3782bbce0e9ae2e2da95a0b0a6730c2e1a6db393649f033", func := "pub-traverser/laws.FnSequenceFurther", spec := "fnSequenceFurther", apart := false }
def FnSequenceFurtherSaid : Prop := fnSequenceFurtherRow.holds Try.pinned (OpenSpec.ofChange fnSequenceFurtherSpec)

/-- ITS FALSE NEIGHBOUR: 'it returns false'. Refute it at one input. -/
def fnSequenceFurtherWrong : ChangeSpec := { name := "fnSequenceFurther", fn := fun _ => fun
  | [d1, d2, d3] => { results := [.lit (.bool false)], args := [d1, d2, d3] }
  | _ => none }
def FnSequenceFurtherWrongFalsely : Prop := fnSequenceFurtherRow.holds Try.pinned (OpenSpec.ofChange fnSequenceFurtherWrong)

/-- 'laws.FnEquiv': WHATEVER THE INPUT: true; the input reads as it did. -/
def fnEquivSpec : ChangeSpec := { name := "fnEquiv", fn := fun _ => fun
  | [d1, d2] => { results := [.lit (.bool true)], args := [d1, d2] }
  | _ => none }
def fnEquivRow : OpenClaim := { program := "ytjnfhcagfgbmnaa", sum := "99d23b2ec828f640e3782bbce0e9ae2e2da95a0b0a6730c2e1a6db393649f033", func := "pub-traverser/laws.FnEquiv", spec := "fnEquiv", apart := false }
def FnEquivSaid : Prop := fnEquivRow.holds Try.pinned (OpenSpec.ofChange fnEquivSpec)

/-- ITS FALSE NEIGHBOUR: 'it returns false'. Refute it at one input. -/
def fnEquivWrong : ChangeSpec := { name := "fnEquiv", fn := fun _ => fun
  | [d1, d2] => { results := [.lit (.bool false)], args := [d1, d2] }
  | _ => none }
def FnEquivWrongFalsely : Prop := fnEquivRow.holds Try.pinned (OpenSpec.ofChange fnEquivWrong)

/-- 'laws.FnSparse': WHATEVER THE INPUT: true; the input reads as it did. -/
def fnSparseSpec : ChangeSpec := { name := "fnSparse", fn := fun _ => fun
  | [d1, d2] => { results := [.lit (.bool true)], args := [d1, d2] }
  | _ => none }
def fnSparseRow : OpenClaim := { program := "ytjnfhcagfgbmnaa", sum := "99d23b2ec828f640e3782bbce0e9ae2e2da95a0b0a6730c2e1a6db393649f033", func := "pub-traverser/laws.FnSparse", spec := "fnSparse", apart := false }
def FnSparseSaid : Prop := fnSparseRow.holds Try.pinned (OpenSpec.ofChange fnSparseSpec)

/-- ITS FALSE NEIGHBOUR: 'it returns false'. Refute it at one input. -/
def fnSparseWrong : ChangeSpec := { name := "fnSparse", fn := fun _ => fun
  | [d1, d2] => { results := [.lit (.bool false)], args := [d1, d2] }
  | _ => none }
def FnSparseWrongFalsely : Prop := fnSparseRow.holds Try.pinned (OpenSpec.ofChange fnSparseWrong)

/- THE SECOND FORM. 'bulk': how many values and letters a reading holds, each counted each time it is reached (what is shared counts as often as it is met; a slice's spare places count too). A statement '..UptoSaid' is the law's where the arguments, and the package variables that the reading takes, are together of bulk at most 1048576: NARROWER than '..Said'. Prove '..Said' where nothing that the law and all that it calls make is longer than what came in: it says more and counts as full. Else prove '..UptoSaid'. A law counts once. -/
mutual
def uptoBulk {H : Type} : DataW H → Nat
  | .lit (.string bytes) => bytes.length + 1
  | .lit _ => 1
  | .nil => 1
  | .ptr d => uptoBulk d + 1
  | .slice elems spare => uptoBulkAll elems + uptoBulkAll spare + 1
  | .agg parts => uptoBulkAll parts + 1
  | .iface _ d => uptoBulk d + 1
  | .map entries => uptoBulkEntries entries + 1
  | .held _ => 1
def uptoBulkAll {H : Type} : List (DataW H) → Nat
  | [] => 0
  | d :: r => uptoBulk d + uptoBulkAll r
def uptoBulkEntries {H : Type} : List (Lit × DataW H) → Nat
  | [] => 0
  | x :: r => uptoBulkEntry x + uptoBulkEntries r
def uptoBulkEntry {H : Type} : Lit × DataW H → Nat
  | (.string bytes, d) => bytes.length + uptoBulk d + 1
  | (_, d) => uptoBulk d + 1
 end
def uptoSmall : (H : Type) → List (DataW H) → Bool := fun _ ds => decide (uptoBulkAll ds ≤ 1048576)
def OpenSpec.upto (s : _root_.Go.ChangeSpec) : _root_.Go.OpenSpec := { _root_.Go.OpenSpec.ofChange s with cond := some uptoSmall }

/-- 'laws.FnDist', WHERE WHAT IT READS IS OF BULK AT MOST 1048576: true; the input reads as it did. -/
def fnDistUptoRow : OpenClaim := { program := "ytjnfhcagfgbmnaa", sum := "99d23b2ec828f640e3782bbce0e9ae2e2da95a0b0a6730c2e1a6db393649f033", func := "pub-traverser/laws.FnDist", spec := "fnDist", apart := false, narrowed := true }
def FnDistUptoSaid : Prop := fnDistUptoRow.holds Try.pinned (OpenSpec.upto fnDistSpec)

/-- 'laws.FnNumTrans', WHERE WHAT IT READS IS OF BULK AT MOST 1048576: true; the input reads as it did. -/
def fnNumTransUptoRow : OpenClaim := { program := "ytjnfhcagfgbmnaa", sum := "99d23b2ec828f640e3782bbce0e9ae2e2da95a0b0a6730c2e1a6db393649f033", func := "pub-traverser/laws.FnNumTrans", spec := "fnNumTrans", apart := false, narrowed := true }
def FnNumTransUptoSaid : Prop := fnNumTransUptoRow.holds Try.pinned (OpenSpec.upto fnNumTransSpec)

/-- 'laws.FnCharacteristic', WHERE WHAT IT READS IS OF BULK AT MOST 1048576: true; the input reads as it did. -/
def fnCharacteristicUptoRow : OpenClaim := { program := "ytjnfhcagfgbmnaa", sum := "99d23b2ec828f640e3782bbce0e9ae2e2da95a0b0a6730c2e1a6db393649f033", func := "pub-traverser/laws.FnCharacteristic", spec := "fnCharacteristic", apart := false, narrowed := true }
def FnCharacteristicUptoSaid : Prop := fnCharacteristicUptoRow.holds Try.pinned (OpenSpec.upto fnCharacteristicSpec)

/-- 'laws.FnMaxScalar', WHERE WHAT IT READS IS OF BULK AT MOST 1048576: true; the input reads as it did. -/
def fnMaxScalarUptoRow : OpenClaim := { program := "ytjnfhcagfgbmnaa", sum := "99d23b2ec828f640e3782bbce0e9ae2e2da95a0b0a6730c2e1a6db393649f033", func := "pub-traverser/laws.FnMaxScalar", spec := "fnMaxScalar", apart := false, narrowed := true }
def FnMaxScalarUptoSaid : Prop := fnMaxScalarUptoRow.holds Try.pinned (OpenSpec.upto fnMaxScalarSpec)

/-- 'laws.FnPackSizes', WHERE WHAT IT READS IS OF BULK AT MOST 1048576: true; the input reads as it did. -/
def fnPackSizesUptoRow : OpenClaim := { program := "ytjnfhcagfgbmnaa", sum := "99d23b2ec828f640e3782bbce0e9ae2e2da95a0b0a6730c2e1a6db393649f033", func := "pub-traverser/laws.FnPackSizes", spec := "fnPackSizes", apart := false, narrowed := true }
def FnPackSizesUptoSaid : Prop := fnPackSizesUptoRow.holds Try.pinned (OpenSpec.upto fnPackSizesSpec)

/-- 'laws.FnSequenceFurther', WHERE WHAT IT READS IS OF BULK AT MOST 1048576: true; the input reads as it did. -/
def fnSequenceFurtherUptoRow : OpenClaim := { program := "ytjnfhcagfgbmnaa", sum := "99d23b2ec828f640e3782bbce0e9ae2e2da95a0b0a6730c2e1a6db393649f033", func := "pub-traverser/laws.FnSequenceFurther", spec := "fnSequenceFurther", apart := false, narrowed := true }
def FnSequenceFurtherUptoSaid : Prop := fnSequenceFurtherUptoRow.holds Try.pinned (OpenSpec.upto fnSequenceFurtherSpec)

/-- 'laws.FnEquiv', WHERE WHAT IT READS IS OF BULK AT MOST 1048576: true; the input reads as it did. -/
def fnEquivUptoRow : OpenClaim := { program := "ytjnfhcagfgbmnaa", sum := "99d23b2ec828f640e3782bbce0e9ae2e2da95a0b0a6730c2e1a6db393649f033", func := "pub-traverser/laws.FnEquiv", spec := "fnEquiv", apart := false, narrowed := true }
def FnEquivUptoSaid : Prop := fnEquivUptoRow.holds Try.pinned (OpenSpec.upto fnEquivSpec)

/-- 'laws.FnSparse', WHERE WHAT IT READS IS OF BULK AT MOST 1048576: true; the input reads as it did. -/
def fnSparseUptoRow : OpenClaim := { program := "ytjnfhcagfgbmnaa", sum := "99d23b2ec828f640e3782bbce0e9ae2e2da95a0b0a6730c2e1a6db393649f033", func := "pub-traverser/laws.FnSparse", spec := "fnSparse", apart := false, narrowed := true }
def FnSparseUptoSaid : Prop := fnSparseUptoRow.holds Try.pinned (OpenSpec.upto fnSparseSpec)

end Rows
end Go.Proofs.Ytjnfhcagfgbmnaa
