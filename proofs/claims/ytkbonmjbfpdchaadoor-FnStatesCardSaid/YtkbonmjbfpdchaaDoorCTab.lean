/- The table of short codes, as it lies in memory; encodeCommon. -/
import Derived.Test.YtkbonmjbfpdchaaDoorRows
import Derived.Test.YtkbonmjbfpdchaaDoorLib
import Derived.Test.YtkbonmjbfpdchaaDoorFLib
import Derived.Deep.QuietTactic
import Derived.BigQuiet
import Derived.WalkLawsBesides
import Derived.WalkSpells
import Derived.LaidMore
import Derived.ChangeBears2
import Derived.Deep.Slices
namespace Go.Proofs.YtkbonmjbfpdchaaDoor.Common
open Go.ChangeShapes Go.WideShapes Go.ChangeAt Go.RowKit Go.Trav
set_option linter.unusedVariables false
set_option maxRecDepth 100000
def intsOf : DataW Unit → List Int
  | .slice l _ => l.map fun | .lit (.int _ n) => n | _ => 0
  | _ => []
def T0 : List Int := intsOf Rows.laid_pub_traverser_pub_vellum_commonInputs
/-- A listed slice of bytes. -/
def TabAt (w : World) (g : Nat) (T : List Int) : Prop := ∃ a cap, w.cell? ⟨g, 0, none⟩ = some (.slice (some a) T.length cap) ∧ ∀ i, i < T.length → w.cell? (a.add i) = some (.int .u8 (T[i]?.getD 0))
theorem tab_of {w : World} {g : Nat} {T : List Int} {f : Nat} {l : List (DataW Unit)} {cs : Array Value} {p : List MemPlace} {name : String} {enc : TypeId × Value → Unit} {spare : Nat → Bool} {held : Bool} (hT : T ≠ []) (hl : l = T.map fun n => .lit (.int .u8 n))
    (hg : Tryd.prog.globalNamed name = some g) (hv : w.var? Tryd.prog name = some cs) (hd : DataW.trod enc Tryd.prog w 0 spare held f 35 cs.toList = some (.slice l [], p)) : TabAt w g T := by
  rcases Deep.open_slice1 Tryd.underlying35 (by kernel_rfl) hd with ⟨_, hx⟩ | ⟨a, len, cap, m, n, V, D, Pl, hc, _, hle, _, hm, hx, hel⟩
  · simp at hx
  simp only [Prod.mk.injEq, DataW.slice.injEq] at hx
  obtain ⟨⟨h1, h2⟩, _⟩ := hx
  have hlen : len = T.length := by
    have := congrArg List.length h1
    rw [hl] at this
    simpa using this.symm
  subst hlen
  have hmm : T.length ≤ m := by rw [hm]; split <;> omega
  refine ⟨a, cap, ?_, fun i hi => ?_⟩
  · have := World.var?_cell hg hv 0
    rw [Array.eq_one_of_toList hc] at this
    simpa using this
  · obtain ⟨e1, e2⟩ := hel i (by omega)
    obtain ⟨z, e3, e4, _⟩ := DataW.trod_int Tryd.underlying5 e2
    simp only [List.cons.injEq, and_true] at e3
    simp only [Prod.mk.injEq] at e4
    have e5 : (List.range T.length |>.map D)[i]? = some (D i) := by simp [hi]
    rw [← h1, hl] at e5
    simp only [List.getElem?_map, List.getElem?_eq_getElem hi, Option.map_some, Option.some.injEq] at e5
    rw [e4.1] at e5
    simp only [DataW.lit.injEq, Lit.int.injEq, true_and] at e5
    rw [e1, e3, List.getElem?_eq_getElem hi, Option.getD_some, e5]
theorem T0_len : T0.length = 256 := by decide +kernel
theorem T0_all : ((List.range 256).all fun x => decide (0 ≤ T0[x]?.getD 0 ∧ T0[x]?.getD 0 ≤ 255)) = true := by decide +kernel
theorem T0_bound (x : Nat) (hx : x < 256) : 0 ≤ T0[x]?.getD 0 ∧ T0[x]?.getD 0 ≤ 255 := by
  have := List.all_eq_true.1 T0_all x (List.mem_range.2 hx)
  simpa using this
def codeI (x : Int) : Int := if 63 < (T0[x.toNat]?.getD 0 + 1) % 256 then 0 else (T0[x.toNat]?.getD 0 + 1) % 256
theorem codeI_bound (x : Nat) (hx : x < 256) : 0 ≤ codeI x ∧ codeI x ≤ 63 := by
  unfold codeI
  split <;> omega
/-- The short code of a byte (0: it has none). -/
def code (x : Nat) : Nat := (codeI x).toNat
theorem code_le (x : Nat) : code x ≤ 63 := by
  unfold code codeI
  split <;> omega
theorem TabAt.below {w w' : World} {g : Nat} {T : List Int} {K : Nat} (h : TabAt w g T) (hT : 0 < T.length) (hK : ∀ a c n, w.cell? ⟨g, 0, none⟩ = some (.slice (some a) n c) → a.block < K) (hg : g < K) (hb : Below K w w') : TabAt w' g T := by
  obtain ⟨a, cap, h1, h2⟩ := h
  refine ⟨a, cap, by rw [hb.cell hg]; exact h1, fun i hi => ?_⟩
  have ha := hK a cap _ h1
  have : (a.add i).block = a.block := by unfold Addr.add; split <;> rfl
  rw [hb.cell (by rw [this]; exact ha)]
  exact h2 i hi
theorem TabAt.same {w w' : World} {g : Nat} {T : List Int} (h : TabAt w g T) (hT : 0 < T.length) (hb : Below w.heap.size w w') : TabAt w' g T := by
  obtain ⟨a, cap, h1, h2⟩ := h
  have e := World.block_lt_of_cell? w _ (h2 0 hT)
  have : (a.add 0).block = a.block := by unfold Addr.add; split <;> rfl
  rw [this] at e
  refine TabAt.below ⟨a, cap, h1, h2⟩ hT (fun a' c' n' h' => ?_) (World.block_lt_of_cell? w _ h1) hb
  rw [h1] at h'
  cases h'
  exact e
theorem enc_any (x : Nat) (w : World) (h : TabAt w 2 T0) (hx : x < 256) :
    Calls Tryd.prog 61 #[.int .u8 (x : Int)] w fun e w' => e = .returned (.int .u8 (code x : Nat)) ∧ w = w' := by
  obtain ⟨a, cap, h0, h1⟩ := h
  rw [T0_len] at h0 h1
  have c0 := h1 x hx
  have hb := T0_bound x hx
  have hcb := codeI_bound x hx
  have hcode : codeI x = if 63 < ((T0[x]?.getD 0) + 1) % 256 then 0 else ((T0[x]?.getD 0) + 1) % 256 := by unfold codeI; simp
  have hcn : ((code x : Nat) : Int) = codeI x := by unfold code; omega
  rw [hcn]
  generalize T0[x]?.getD 0 = z at c0 hb hcode
  have HC := Lib.hid hcode
  clear hcode h1 hcb hcn
  have ht : (z + 1).tmod 256 = (z + 1) % 256 := Int.tmod_eq_emod_of_nonneg (by omega)
  by_cases hc : 63 < (z + 1) % 256
  · go_enter Tryd.func61, Tryd.ntmps61
    go_wp2
    go_ret
    exact ⟨by simp [HC.out, hc], rfl⟩
  · go_enter Tryd.func61, Tryd.ntmps61
    go_wp2
    go_ret
    refine ⟨?_, rfl⟩
    rw [HC.out, if_neg (by omega)]
    simp
theorem del_any (s t : Nat) (w : World) (h : t ≤ s) (hsb : s ≤ 4294967296) : Calls Tryd.prog 84 #[.int .u64 s, .int .u64 t] w fun e w' => e = .returned (.int .u64 (if t = 0 then 0 else s - t : Nat)) ∧ w = w' := by
  by_cases ht : t = 0
  · subst ht
    go_enter Tryd.func84, Tryd.ntmps84
    go_wp2_with fail
    go_ret
    exact ⟨rfl, rfl⟩
  · rw [if_neg ht]
    have h0 : ((t : Int) == 0) = false := beq_eq_false_iff_ne.2 (by omega)
    have e : ((s - t : Nat) : Int) = (s : Int) - t := by omega
    rw [e]
    have hs : (0 : Int) ≤ (s : Int) - t := by omega
    clear ht e
    go_enter Tryd.func84, Tryd.ntmps84
    go_wp2_with fail
    go_ret
    exact ⟨rfl, rfl⟩
theorem or_all : ∀ a : Fin 9, ∀ b : Fin 9, bits BinOp.or IntKind.u8 ((a.val * 16 : Nat) : Int) (b.val : Nat) = ((a.val * 16 + b.val : Nat) : Int) := by decide
theorem or_sizes (a b : Nat) (ha : a ≤ 8) (hb : b ≤ 8) : bits BinOp.or IntKind.u8 ((a : Int) * 16) b = ((a * 16 + b : Nat) : Int) := by
  have := or_all ⟨a, by omega⟩ ⟨b, by omega⟩
  simpa using this
theorem eps_any (a b : Nat) (w : World) (ha : a ≤ 8) (hb : b ≤ 8) : Calls Tryd.prog 87 #[.int .i64 a, .int .i64 b] w fun e w' => e = .returned (.int .u8 (a * 16 + b : Nat)) ∧ w = w' := by
  have HO := Lib.hid (or_sizes a b ha hb)
  rw [← HO.out]
  go_enter Tryd.func87, Tryd.ntmps87
  go_wp2_with fail
  go_ret
  exact ⟨rfl, rfl⟩
theorem ent_any (n : Nat) (w : World) (hn : n ≤ 100000) : Calls Tryd.prog 88 #[.int .i64 n] w fun e w' => e = .returned (.int .u8 (if n ≤ 63 then n else 0 : Nat)) ∧ w = w' := by
  by_cases h : n ≤ 63
  · rw [if_pos h]
    go_enter Tryd.func88, Tryd.ntmps88
    go_wp2_with fail
    go_ret
    exact ⟨rfl, rfl⟩
  · rw [if_neg h]
    go_enter Tryd.func88, Tryd.ntmps88
    go_wp2_with fail
    go_ret
    exact ⟨rfl, rfl⟩
end Go.Proofs.YtkbonmjbfpdchaaDoor.Common
