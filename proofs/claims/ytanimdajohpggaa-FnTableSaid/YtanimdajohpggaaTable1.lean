/- Automata as tables: the laws' tests of size; spec.at. -/
import Derived.Test.YtanimdajohpggaaRows
import Derived.Test.YtanimdajohpggaaLib2
import Derived.Test.YtanimdajohpggaaFLib
import Derived.Deep.QuietTactic
import Derived.BigQuiet
import Derived.WalkLawsBesides
import Derived.WalkSpells
import Derived.Lib.QuietBelow
import Derived.IntWalk
namespace Go.Proofs.Ytanimdajohpggaa.Table
open Go.ChangeShapes Go.WideShapes Go.ChangeAt Go.RowKit Go.Trav
set_option linter.unusedVariables false
set_option maxRecDepth 100000
def iV (z : Int) : Value := .int .i64 z
def I64 (z : Int) : Prop := -9223372036854775808 ≤ z ∧ z ≤ 9223372036854775807
/-- A list of lists of numbers that came in. -/
structure Rows2 (w : World) (v : Value) (n : Nat) (rvs : List Value) : Prop where
  cells : Reads w v n 1 rvs
  rows : ∀ (i : Nat) rv, rvs[i]? = some rv → ∃ (m : Nat) (zs : List Int), Reads w rv m 1 (zs.map iV) ∧ ∀ z ∈ zs, I64 z
theorem Rows2.below {w w' : World} {v : Value} {n : Nat} {rvs : List Value} (h : Rows2 w v n rvs) (hb : Below w.heap.size w w') : Rows2 w' v n rvs :=
  ⟨h.cells.below hb, fun i rv hi => by obtain ⟨m, zs, h1, h2⟩ := h.rows i rv hi; exact ⟨m, zs, h1.below hb, h2⟩⟩
theorem fits12_any (v : Value) (n : Nat) (rvs : List Value) (w : World) (h : Rows2 w v n rvs) :
    ∃ r : Bool, Calls Try.prog 33 #[v] w fun e w' => e = .returned (.bool r) ∧ ∃ k, w' = w.drewN k := by
  obtain ⟨ao, cap, rfl⟩ := h.cells.form
  have hbd := h.cells.bound
  have hlen : rvs.length = n := by have := h.cells.len; omega
  by_cases hn : n ≤ 2147483647
  · by_cases hall : ∀ (i : Nat) m ao' cap', rvs[i]? = some (.slice ao' m cap') → m ≤ 2147483647
    · refine ⟨true, ?_⟩
      have H := Lib.hid h
      have HA := Lib.hid hall
      clear h hall
      go_enter Try.func33, Try.ntmps33
      go_wp2_with fail
      go_loopw [10] (fun i wr => ∃ k : Nat, i = .int .i64 k ∧ k ≤ n ∧ ∃ q, wr = w.drewN q) (fun i _ => n - (intOf i).toNat)
      case atStart => exact ⟨0, rfl, Nat.zero_le _, 0, rfl⟩
      case round =>
        obtain ⟨k, rfl, hk, nq, rfl⟩ := hrel
        by_cases hlt : k < n
        · obtain ⟨b, off, _, rv, hx, hv, hc⟩ := Reads.one id (l := rvs) (by simpa using H.out.cells.drewN nq) hlt
          cases hx
          obtain ⟨m, zs, hr, _⟩ := H.out.rows k rv hv
          obtain ⟨ra, rc, rfl⟩ := hr.form
          have hm := HA.out k m ra rc hv
          simp only [id] at hc
          clear hr hv
          go_wp2_with fail
          go_roundw
          case rel => exact ⟨k + 1, by go_num, by omega, _, rfl⟩
          case measure => simp [intOf]; omega
        · go_wp2_with fail
          go_ret
          exact ⟨rfl, _, rfl⟩
    · refine ⟨false, ?_⟩
      obtain ⟨i0, hi0⟩ := Classical.not_forall.1 hall
      obtain ⟨m0, hm0⟩ := Classical.not_forall.1 hi0
      obtain ⟨ao0, ha0⟩ := Classical.not_forall.1 hm0
      obtain ⟨cap0, hc0⟩ := Classical.not_forall.1 ha0
      have hv0 : rvs[i0]? = some (.slice ao0 m0 cap0) := Classical.byContradiction fun h => hc0 fun h2 => absurd h2 h
      have hb0 : ¬ m0 ≤ 2147483647 := fun h => hc0 fun _ => h
      have hi : i0 < n := by have := (List.getElem?_eq_some_iff.1 hv0).1; omega
      have H := Lib.hid h
      have HV := Lib.hid hv0
      clear h hall hi0 hm0 ha0 hc0 hv0
      go_enter Try.func33, Try.ntmps33
      go_wp2_with fail
      go_loopw [10] (fun i wr => ∃ k : Nat, i = .int .i64 k ∧ k ≤ i0 ∧ ∃ q, wr = w.drewN q) (fun i _ => n - (intOf i).toNat)
      case atStart => exact ⟨0, rfl, Nat.zero_le _, 0, rfl⟩
      case round =>
        obtain ⟨k, rfl, hk, nq, rfl⟩ := hrel
        have hlt : k < n := by omega
        obtain ⟨b, off, _, rv, hx, hv, hc⟩ := Reads.one id (l := rvs) (by simpa using H.out.cells.drewN nq) hlt
        cases hx
        obtain ⟨m, zs, hr, _⟩ := H.out.rows k rv hv
        obtain ⟨ra, rc, rfl⟩ := hr.form
        simp only [id] at hc
        by_cases hm : m ≤ 2147483647
        · have hne : k ≠ i0 := by
            rintro rfl
            have := hv.symm.trans HV.out
            simp at this
            omega
          clear hr hv
          go_wp2_with fail
          go_roundw
          case rel => exact ⟨k + 1, by go_num, by omega, _, rfl⟩
          case measure => simp [intOf]; omega
        · clear hr hv
          go_wp2_with fail
          go_ret
          exact ⟨rfl, _, rfl⟩
  · refine ⟨false, ?_⟩
    go_enter Try.func33, Try.ntmps33
    go_wp2_with fail
    go_ret
    exact ⟨rfl, 0, rfl⟩
/-- A table that came in. -/
structure Raw (w : World) (st : Int) (cv nv mv av bv : Value) (nc nn nm : Nat) (zs : List Int) (rvs : List Value) (bs : List Bool) : Prop where
  st : I64 st
  cls : Reads w cv nc 1 (zs.map iV)
  cint : ∀ z ∈ zs, I64 z
  nxt : Rows2 w nv nn rvs
  mt : Reads w mv nm 1 (bs.map Value.bool)
  can : ∃ a l c, av = .slice a l c ∧ l ≤ 9223372036854775807
  alw : ∃ a l c, bv = .slice a l c ∧ l ≤ 9223372036854775807
theorem Raw.below {w w' : World} {st : Int} {cv nv mv av bv : Value} {nc nn nm : Nat} {zs : List Int} {rvs : List Value} {bs : List Bool} (h : Raw w st cv nv mv av bv nc nn nm zs rvs bs) (hb : Below w.heap.size w w') : Raw w' st cv nv mv av bv nc nn nm zs rvs bs :=
  ⟨h.st, h.cls.below hb, h.cint, h.nxt.below hb, h.mt.below hb, h.can, h.alw⟩
def RVal (st : Int) (cv nv mv av bv : Value) : Value := .agg #[.int .i64 st, cv, nv, mv, av, bv]
theorem fits11_any {st : Int} {cv nv mv av bv : Value} {nc nn nm : Nat} {zs : List Int} {rvs : List Value} {bs : List Bool} (w : World) (h : Raw w st cv nv mv av bv nc nn nm zs rvs bs) :
    ∃ r : Bool, Calls Try.prog 12 #[RVal st cv nv mv av bv] w fun e w' => e = .returned (.bool r) ∧ Below w.heap.size w w' := by
  have b1 := h.cls.bound
  have b2 := h.mt.bound
  obtain ⟨ca, cc, rfl⟩ := h.cls.form
  obtain ⟨na, nac, rfl⟩ := h.nxt.cells.form
  obtain ⟨ma, mc, rfl⟩ := h.mt.form
  obtain ⟨aa, al, ac, rfl, b3⟩ := h.can
  obtain ⟨ba, bl, bc, rfl, b4⟩ := h.alw
  unfold RVal
  by_cases h1 : nc ≤ 2147483647
  · have hw1 : Rows2 (w.alloc (.cells #[.int .i64 st, .slice ca nc cc, .slice na nn nac, .slice ma nm mc, .slice aa al ac, .slice ba bl bc] 36 (0, 0))) (.slice na nn nac) nn rvs := h.nxt.below ((Below.refl _ _).alloc (Nat.le_refl _) _)
    obtain ⟨r12, hr12⟩ := fits12_any _ _ _ _ hw1
    have H := Lib.hid hr12
    clear hw1 hr12 h
    cases r12 with
    | false =>
      refine ⟨false, ?_⟩
      go_enter Try.func12, Try.ntmps12
      go_wp2_with fail
      refine H.out.mono ?_
      rintro e w1 ⟨rfl, k, rfl⟩
      go_wp2_with fail
      go_ret
      exact ⟨rfl, below_drewN ((Below.refl _ _).alloc (Nat.le_refl _) _) _⟩
    | true =>
      by_cases h2 : nm ≤ 2147483647
      · by_cases h3 : al ≤ 2147483647
        · by_cases h4 : bl ≤ 2147483647
          · refine ⟨true, ?_⟩
            go_enter Try.func12, Try.ntmps12
            go_wp2_with fail
            refine H.out.mono ?_
            rintro e w1 ⟨rfl, k, rfl⟩
            go_wp2_with fail
            go_ret
            exact ⟨rfl, below_drewN ((Below.refl _ _).alloc (Nat.le_refl _) _) _⟩
          · refine ⟨false, ?_⟩
            go_enter Try.func12, Try.ntmps12
            go_wp2_with fail
            refine H.out.mono ?_
            rintro e w1 ⟨rfl, k, rfl⟩
            go_wp2_with fail
            go_ret
            exact ⟨rfl, below_drewN ((Below.refl _ _).alloc (Nat.le_refl _) _) _⟩
        · refine ⟨false, ?_⟩
          go_enter Try.func12, Try.ntmps12
          go_wp2_with fail
          refine H.out.mono ?_
          rintro e w1 ⟨rfl, k, rfl⟩
          go_wp2_with fail
          go_ret
          exact ⟨rfl, below_drewN ((Below.refl _ _).alloc (Nat.le_refl _) _) _⟩
      · refine ⟨false, ?_⟩
        go_enter Try.func12, Try.ntmps12
        go_wp2_with fail
        refine H.out.mono ?_
        rintro e w1 ⟨rfl, k, rfl⟩
        go_wp2_with fail
        go_ret
        exact ⟨rfl, below_drewN ((Below.refl _ _).alloc (Nat.le_refl _) _) _⟩
  · refine ⟨false, ?_⟩
    go_enter Try.func12, Try.ntmps12
    go_wp2_with fail
    go_ret
    exact ⟨rfl, (Below.refl _ _).alloc (Nat.le_refl _) _⟩
theorem small_any {st : Int} {cv nv mv av bv : Value} {nc nn nm : Nat} {zs : List Int} {rvs : List Value} {bs : List Bool} (w : World) (h : Raw w st cv nv mv av bv nc nn nm zs rvs bs) :
    Calls Try.prog 13 #[RVal st cv nv mv av bv] w fun e w' => e = .returned (.bool (decide (nn ≤ 65536 ∧ nc ≤ 65536))) ∧ Below w.heap.size w w' := by
  have b1 := h.cls.bound
  have b2 := h.nxt.cells.bound
  obtain ⟨ca, cc, rfl⟩ := h.cls.form
  obtain ⟨na, nac, rfl⟩ := h.nxt.cells.form
  unfold RVal
  by_cases h1 : nn ≤ 65536
  · by_cases h2 : nc ≤ 65536
    · rw [decide_eq_true (show nn ≤ 65536 ∧ nc ≤ 65536 from ⟨h1, h2⟩)]
      have h3 : decide ((nc : Int) ≤ 65536) = true := by simp; omega
      go_enter Try.func13, Try.ntmps13
      go_wp2_with fail
      go_ret
      exact ⟨rfl, (Below.refl _ _).alloc (Nat.le_refl _) _⟩
    · rw [decide_eq_false (show ¬ (nn ≤ 65536 ∧ nc ≤ 65536) from fun h => h2 h.2)]
      have h3 : decide ((nc : Int) ≤ 65536) = false := by simp; omega
      go_enter Try.func13, Try.ntmps13
      go_wp2_with fail
      go_ret
      exact ⟨rfl, (Below.refl _ _).alloc (Nat.le_refl _) _⟩
  · rw [decide_eq_false (show ¬ (nn ≤ 65536 ∧ nc ≤ 65536) from fun h => h1 h.1)]
    go_enter Try.func13, Try.ntmps13
    go_wp2_with fail
    go_ret
    exact ⟨rfl, (Below.refl _ _).alloc (Nat.le_refl _) _⟩
theorem at_any (x : Int) (n : Nat) (w : World) (hx : I64 x) (h1 : 1 ≤ n) (h2 : n ≤ 1000) :
    Calls Try.prog 34 #[.int .i64 x, .int .i64 n] w fun e w' => ∃ r : Nat, e = .returned (.int .i64 r) ∧ r < n ∧ w = w' := by
  unfold I64 at hx
  have hy : 0 ≤ IntKind.u64.wrap x := by
    simp only [IntKind.wrap, IntKind.bits, IntKind.signed]
    simp
    exact Int.emod_nonneg _ (by decide)
  have ht : 0 ≤ (IntKind.u64.wrap x).tmod n ∧ (IntKind.u64.wrap x).tmod n < n := by
    rw [Int.tmod_eq_emod_of_nonneg hy]
    exact ⟨Int.emod_nonneg _ (by omega), Int.emod_lt_of_pos _ (by omega)⟩
  have hw : wrap64 ((IntKind.u64.wrap x).tmod n) = ((IntKind.u64.wrap x).tmod n).toNat := by
    unfold wrap64
    omega
  have HT := Lib.hid ht
  have HW := Lib.hid hw
  clear ht hw hy
  go_enter Try.func34, Try.ntmps34
  go_wp2_with fail
  go_ret
  exact ⟨((IntKind.u64.wrap x).tmod n).toNat, by rw [← HW.out]; rfl, by have := HT.out; omega, rfl⟩
end Go.Proofs.Ytanimdajohpggaa.Table
