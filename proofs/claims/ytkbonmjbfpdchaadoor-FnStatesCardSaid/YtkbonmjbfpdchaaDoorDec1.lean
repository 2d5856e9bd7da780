/- The decoder: the methods of a state. -/
import Derived.Test.YtkbonmjbfpdchaaDoorDecP
import Derived.Test.YtkbonmjbfpdchaaDoorPkRead
import Derived.Deep.RegionHeld3
import Derived.StillTailTactics
import Derived.Lib.QuietBelow
namespace Go.Proofs.YtkbonmjbfpdchaaDoor.Dec
open Go.ChangeShapes Go.WideShapes Go.ChangeAt Go.RowKit Go.Trav Go.Pk Go.Dec Go.Proofs.YtkbonmjbfpdchaaDoor.PkS
set_option linter.unusedVariables false
set_option linter.unusedSimpArgs false
set_option maxRecDepth 100000
/-- A state's struct at (S, o), over data in the slice dv. -/
structure StAt (w : World) (S o : Nat) (dv : Value) (D : List Nat) (d : Desc) : Prop where
  cells : Cs w S o (d.cells dv)
  data : Reads w dv D.length 1 (D.map bN)
  small : D.length ≤ 4294967296
  bytes : ∀ x ∈ D, x < 256
theorem data_at {w : World} {dv : Value} {D : List Nat} (h : Reads w dv D.length 1 (D.map bN)) {i x : Nat} (hi : D[i]? = some x) : ∃ b off cap, dv = .slice (some ⟨b, off, none⟩) D.length cap ∧ w.cell? ⟨b, off + i, none⟩ = some (.int .u8 (x : Int)) ∧ i < D.length := by
  have hl := (List.getElem?_eq_some_iff.1 hi).1
  obtain ⟨b, off, cap, y, e, h1, h2⟩ := Reads.one bN h hl
  rw [hi] at h1
  cases h1
  exact ⟨b, off, cap, e, h2, hl⟩
/-- Bytes from a on. -/
theorem reads_slc {w : World} {b off cap a n c' : Nat} {D : List Nat} (h : Reads w (.slice (some ⟨b, off, none⟩) D.length cap) D.length 1 (D.map bN)) (ha : a + n ≤ D.length) (hc : n ≤ c') (hm : c' ≤ cap) : Reads w (.slice (some ⟨b, off + a, none⟩) n c') n 1 ((slc D a n).map bN) := by
  obtain ⟨ao, cap', e, h1, h2, h3, h4, h5⟩ := h
  cases e
  refine ⟨_, _, rfl, hc, by omega, fun h => by simp at h, by simp [slc]; omega, fun hp => ⟨b, off + a, rfl, fun j u hj => ?_⟩⟩
  obtain ⟨b', off', e, hcell⟩ := h5 (by simp [slc] at hp ⊢; omega)
  cases e
  have hjn : j < n := by
    have := (List.getElem?_eq_some_iff.1 hj).1
    simp [slc] at this
    omega
  rw [Nat.add_assoc]
  refine hcell (a + j) u ?_
  rw [← hj]
  simp only [slc, List.getElem?_map, List.getElem?_take, List.getElem?_drop, hjn, if_true]
theorem slc_lt {D : List Nat} (h : ∀ x ∈ D, x < 256) (a n : Nat) : ∀ x ∈ slc D a n, x < 256 := fun x hx => h x (List.mem_of_mem_drop (List.mem_of_mem_take hx))
theorem isEnc_any (S o : Nat) (dv : Value) (D : List Nat) (d : Desc) (tv top : Nat) (w : World) (h : StAt w S o dv D d) (hd : d.cells dv = (d.cells dv)) (ht : (d.cells dv)[1]? = some (iI top)) (htv : D[top]? = some tv) :
    Calls Tryd.prog 76 #[.pointer (some ⟨S, o, none⟩)] w fun e w' => e = .returned (.bool (decide (128 ≤ tv))) ∧ ∃ k, w' = w.drewN k := by
  obtain ⟨b, off, cap, rfl, c0, hlt⟩ := data_at h.data htv
  have hlen := h.small
  have htb := h.bytes tv (List.mem_of_getElem? htv)
  have k0 := (h.cells 0 (.slice (some ⟨b, off, none⟩) D.length cap) (by cases d <;> rfl)).1
  have k1 := (h.cells 1 _ ht).1
  unfold iI at k1
  rw [Nat.add_zero] at k0
  have hI1 : (0 : Int) ≤ (top : Int) := by omega
  have hI2 : (top : Int) < (D.length : Int) := by omega
  clear h ht htv hd
  generalize D.length = n at *
  by_cases h128 : 128 ≤ tv
  · have e1 : decide (128 ≤ tv) = true := by simpa using h128
    rw [e1]
    go_enter Tryd.func76, Tryd.ntmps76
    go_wp2_with fail
    go_quiet (fail)
    go_wp2_with fail
    go_ret
    exact ⟨rfl, _, rfl⟩
  · have e1 : decide (128 ≤ tv) = false := by simpa using h128
    rw [e1]
    go_enter Tryd.func76, Tryd.ntmps76
    go_wp2_with fail
    go_quiet (fail)
    go_wp2_with fail
    go_ret
    exact ⟨rfl, _, rfl⟩
end Go.Proofs.YtkbonmjbfpdchaaDoor.Dec
