/- sort.order2, median, medianAdjacent, choosePivot, breakPatterns over records of any number of cells: they end, within their bounds; the row holds what swaps make of it. -/
import Derived.Test.YtnfagjemhbgfkaaDoorSrt1
import Derived.Test.YtnfagjemhbgfkaaDoorShX
namespace Go.Proofs.YtnfagjemhbgfkaaDoor.Srt
open Go.ChangeShapes Go.WideShapes Go.ChangeAt Go.RowKit Go.Trav Go.Sort
set_option linter.unusedVariables false
set_option linter.unusedSimpArgs false
set_option maxRecDepth 100000
variable {B : Nat} {R : Array Value → Prop} {T : TypeId} {U : TypeId} {rv : Value} {n : Nat}
/-- A counter that is at most k. -/
def Ctr (S k : Nat) (w : World) : Prop := ∃ s : Nat, s ≤ k ∧ w.cell? ⟨S, 0, none⟩ = some (.int .i64 s) ∧ w.frozen? ⟨S, 0, none⟩ = false
theorem Ctr.below {S k : Nat} {w w' : World} (h : Ctr S k w) (hb : Below w.heap.size w w') : Ctr S k w' := by
  obtain ⟨s, h1, h2, h3⟩ := h
  have hl := World.block_lt_of_cell? w _ h2
  refine ⟨s, h1, by rw [World.cell?_of_block (hb.block S hl)]; exact h2, ?_⟩
  simp only [World.frozen?, hb.block S hl] at h3 ⊢
  exact h3
theorem Ctr.mono {S k k' : Nat} {w : World} (h : Ctr S k w) (hk : k ≤ k') : Ctr S k' w := by
  obtain ⟨s, h1, h2⟩ := h
  exact ⟨s, by omega, h2⟩
theorem Row.mod {S : Nat} {w w' : World} (h : Row B R T w) (hm : Mod (fun k => k = S) w w') (hS : S ≠ B) : Row B R T w' := by
  obtain ⟨c, h1, h2⟩ := h
  exact ⟨c, h1, hm.heap h2 (fun e => hS e.symm)⟩
set_option maxHeartbeats 2000000 in
theorem ord_any (X : Meth U rv n B R T) (hn : n ≤ 1000000) (S k : Nat) (hS : S ≠ B) (hk : k ≤ 100) (lo hi a b : Int) (w : World) (hr : Row B R T w) (hc : Ctr S k w) (h0 : 0 ≤ lo) (h1 : hi ≤ n) (ha : lo ≤ a) (ha' : a < hi) (hb : lo ≤ b) (hb' : b < hi) :
    Calls Tryd.prog 54 #[.iface U rv, .int .i64 a, .int .i64 b, .pointer (some ⟨S, 0, none⟩)] w fun e w' => (∃ x y : Int, e = .returned (.tuple #[.int .i64 x, .int .i64 y]) ∧ lo ≤ x ∧ x < hi ∧ lo ≤ y ∧ y < hi) ∧ Mod (fun i => i = S) w w' ∧ Ctr S (k + 1) w' := by
  have mL := X.fL
  have eL := X.eL
  go_enter Tryd.func54, Tryd.ntmps54
  go_wp2_with fail
  refine (X.cL _ _ _ hr (by omega) (by omega) (by omega) (by omega)).mono ?_
  rintro e w2 ⟨⟨q, rfl⟩, hs⟩
  have hc2 := hc.below hs
  have HM := Lib.hid (Mod.of_below (F := fun i => i = S) hs)
  have HC := Lib.hid hc2
  obtain ⟨s, hs1, hcell, hfr⟩ := hc2
  clear hs hc hr
  cases q
  · go_wp2_with fail
    go_ret2
    exact ⟨⟨_, _, rfl, by omega, by omega, by omega, by omega⟩, HM.out, HC.out.mono (by omega)⟩
  · go_wp2_with fail
    go_ret2
    refine ⟨⟨_, _, rfl, by omega, by omega, by omega, by omega⟩, HM.out.trans ((Mod.refl (fun i => i = S) _).setCell (p := ⟨S, 0, none⟩) (fun _ => rfl) _), s + 1, by omega, ?_, ?_⟩
    · rw [World.cell?_setCell_same _ _ _ hcell]; congr 2
    · simpa using hfr
set_option maxHeartbeats 2000000 in
theorem med_any (X : Meth U rv n B R T) (hn : n ≤ 1000000) (S k : Nat) (hS : S ≠ B) (hk : k ≤ 90) (lo hi a b c : Int) (w : World) (hr : Row B R T w) (hc : Ctr S k w) (h0 : 0 ≤ lo) (h1 : hi ≤ n) (ha : lo ≤ a) (ha' : a < hi) (hb : lo ≤ b) (hb' : b < hi) (hcc : lo ≤ c) (hcc' : c < hi) :
    Calls Tryd.prog 51 #[.iface U rv, .int .i64 a, .int .i64 b, .int .i64 c, .pointer (some ⟨S, 0, none⟩)] w fun e w' => (∃ x : Int, e = .returned (.int .i64 x) ∧ lo ≤ x ∧ x < hi) ∧ Mod (fun i => i = S) w w' ∧ Ctr S (k + 3) w' := by
  have HR := Lib.hid hr
  have HC := Lib.hid hc
  clear hr hc
  go_enter Tryd.func51, Tryd.ntmps51
  go_wp2_with fail
  refine (ord_any X hn S k hS (by omega) lo hi a b w HR.out HC.out h0 h1 ha ha' hb hb').mono ?_
  rintro e w1 ⟨⟨x1, y1, rfl, p1, p2, p3, p4⟩, m1, c1⟩
  have HM1 := Lib.hid m1
  have HR1 := Lib.hid (HR.out.mod m1 hS)
  have HC1 := Lib.hid c1
  clear m1 c1
  go_wp2_with fail
  refine (ord_any X hn S (k + 1) hS (by omega) lo hi y1 c w1 HR1.out HC1.out h0 h1 p3 p4 hcc hcc').mono ?_
  rintro e w2 ⟨⟨x2, y2, rfl, q1, q2, q3, q4⟩, m2, c2⟩
  have HM2 := Lib.hid (HM1.out.trans m2)
  have HR2 := Lib.hid (HR1.out.mod m2 hS)
  have HC2 := Lib.hid c2
  clear m2 c2
  go_wp2_with fail
  refine (ord_any X hn S (k + 1 + 1) hS (by omega) lo hi x1 x2 w2 HR2.out HC2.out h0 h1 p1 p2 q1 q2).mono ?_
  rintro e w3 ⟨⟨x3, y3, rfl, r1, r2, r3, r4⟩, m3, c3⟩
  have HM3 := Lib.hid (HM2.out.trans m3)
  have HC3 := Lib.hid c3
  clear m3 c3
  go_wp2_with fail
  go_ret
  exact ⟨⟨_, rfl, r3, r4⟩, HM3.out, HC3.out⟩
set_option maxHeartbeats 2000000 in
theorem mad_any (X : Meth U rv n B R T) (hn : n ≤ 1000000) (S k : Nat) (hS : S ≠ B) (hk : k ≤ 90) (lo hi a : Int) (w : World) (hr : Row B R T w) (hc : Ctr S k w) (h0 : 0 ≤ lo) (h1 : hi ≤ n) (ha : lo < a) (ha' : a + 1 < hi) :
    Calls Tryd.prog 50 #[.iface U rv, .int .i64 a, .pointer (some ⟨S, 0, none⟩)] w fun e w' => (∃ x : Int, e = .returned (.int .i64 x) ∧ lo ≤ x ∧ x < hi) ∧ Mod (fun i => i = S) w w' ∧ Ctr S (k + 3) w' := by
  have HC := Lib.hid (med_any X hn S k hS hk lo hi (a - 1) a (a + 1) w hr hc h0 h1 (by omega) (by omega) (by omega) (by omega) (by omega) (by omega))
  clear hr hc
  go_enter Tryd.func50, Tryd.ntmps50
  go_wp2_with fail
  refine HC.out.mono ?_
  rintro e w1 ⟨⟨x1, rfl, p1, p2⟩, m1, c1⟩
  have HM1 := Lib.hid m1
  have HC1 := Lib.hid c1
  clear m1 c1
  go_wp2_with fail
  go_ret
  exact ⟨⟨_, rfl, p1, p2⟩, HM1.out, HC1.out⟩
theorem below_ctr {w w1 w2 : World} {S : Nat} (h : Below w.heap.size w w1) (hS : w.heap.size ≤ S) (hm : Mod (fun i => i = S) w1 w2) : Below w.heap.size w w2 := by
  refine ⟨hm.os.trans h.os, hm.tape.trans h.tape, hm.output.trans h.output, Nat.le_trans h.size hm.size, fun k hk => ?_⟩
  rw [hm.block k (Nat.lt_of_lt_of_le hk h.size) (by omega), h.block k hk]
/-- A place within bounds, and a hint. -/
def IsPH (a b : Nat) (e : Ending) : Prop := ∃ p h : Int, e = .returned (.tuple #[.int .i64 p, .int .i64 h]) ∧ a ≤ p ∧ p < b
set_option maxHeartbeats 4000000 in
theorem piv_any (X : Meth U rv n B R T) (hn : n ≤ 1000000) (a b : Nat) (w : World) (hr : Row B R T w) (hab : a < b) (hb : b ≤ n) :
    Calls Tryd.prog 40 #[.iface U rv, .int .i64 a, .int .i64 b] w fun e w' => IsPH a b e ∧ Below w.heap.size w w' := by
  have hB := hr.lt
  have hS : w.heap.size ≠ B := by omega
  have HR := Lib.hid (hr.alloc (.cells #[.int .i64 0] 3))
  have HC : Hid (Ctr w.heap.size 0 (w.alloc (.cells #[.int .i64 0] 3))) := Lib.hid ⟨0, Nat.le_refl _, by simp, by simp⟩
  have HB := Lib.hid ((Below.refl w.heap.size w).alloc (Nat.le_refl _) (.cells #[.int .i64 0] 3))
  clear hr hB
  obtain ⟨I, hI⟩ : ∃ I : Int, I = (a : Int) + ((b : Int) - (a : Int)) / 4 := ⟨_, rfl⟩
  obtain ⟨J, hJ⟩ : ∃ J : Int, J = (a : Int) + ((b : Int) - (a : Int)) / 4 * 2 := ⟨_, rfl⟩
  obtain ⟨K, hK⟩ : ∃ K : Int, K = (a : Int) + ((b : Int) - (a : Int)) / 4 * 3 := ⟨_, rfl⟩
  by_cases h8 : (8 : Int) ≤ (b : Int) - (a : Int)
  · by_cases h50 : (50 : Int) ≤ (b : Int) - (a : Int)
    · go_enter Tryd.func40, Tryd.ntmps40
      go_wp2_with fail
      refine (mad_any X hn _ 0 hS (by omega) a b _ _ HR.out HC.out (by omega) (by omega) (by omega) (by omega)).mono ?_
      rintro e w1 ⟨⟨i1, rfl, p1, p2⟩, m1, c1⟩
      have HB1 := Lib.hid (below_ctr HB.out (Nat.le_refl _) m1)
      have HR1 := Lib.hid (HR.out.mod m1 hS)
      have HC1 := Lib.hid c1
      clear m1 c1
      go_wp2_with fail
      refine (mad_any X hn _ _ hS (by omega) a b _ _ HR1.out HC1.out (by omega) (by omega) (by omega) (by omega)).mono ?_
      rintro e w2 ⟨⟨j1, rfl, q1, q2⟩, m2, c2⟩
      have HB2 := Lib.hid (below_ctr HB1.out (Nat.le_refl _) m2)
      have HR2 := Lib.hid (HR1.out.mod m2 hS)
      have HC2 := Lib.hid c2
      clear m2 c2
      go_wp2_with fail
      refine (mad_any X hn _ _ hS (by omega) a b _ _ HR2.out HC2.out (by omega) (by omega) (by omega) (by omega)).mono ?_
      rintro e w3 ⟨⟨k1, rfl, r1, r2⟩, m3, c3⟩
      have HB3 := Lib.hid (below_ctr HB2.out (Nat.le_refl _) m3)
      have HR3 := Lib.hid (HR2.out.mod m3 hS)
      have HC3 := Lib.hid c3
      clear m3 c3
      go_wp2_with fail
      refine (med_any X hn _ _ hS (by omega) a b _ _ _ _ HR3.out HC3.out (by omega) (by omega) p1 p2 q1 q2 r1 r2).mono ?_
      rintro e w4 ⟨⟨x, rfl, s1, s2⟩, m4, c4⟩
      have HB4 := Lib.hid (below_ctr HB3.out (Nat.le_refl _) m4)
      obtain ⟨s, hs1, hcell, hfr⟩ := c4
      clear m4
      go_wp2_with fail
      all_goals
        go_ret2
        exact ⟨⟨_, _, rfl, s1, s2⟩, HB4.out⟩
    · go_enter Tryd.func40, Tryd.ntmps40
      go_wp2_with fail
      refine (med_any X hn _ 0 hS (by omega) a b _ _ _ _ HR.out HC.out (by omega) (by omega) (by omega) (by omega) (by omega) (by omega) (by omega) (by omega)).mono ?_
      rintro e w4 ⟨⟨x, rfl, s1, s2⟩, m4, c4⟩
      have HB4 := Lib.hid (below_ctr HB.out (Nat.le_refl _) m4)
      obtain ⟨s, hs1, hcell, hfr⟩ := c4
      clear m4
      go_wp2_with fail
      all_goals
        go_ret2
        exact ⟨⟨_, _, rfl, s1, s2⟩, HB4.out⟩
  · obtain ⟨s, hs1, hcell, hfr⟩ := HC.out
    go_enter Tryd.func40, Tryd.ntmps40
    go_wp2_with fail
    all_goals
      go_ret2
      exact ⟨⟨_, _, rfl, by omega, by omega⟩, HB.out⟩
set_option maxHeartbeats 4000000 in
theorem brk_any (X : Meth U rv n B R T) (hn : n ≤ 1000000) (a b : Nat) (w : World) (hr : Row B R T w) (hab : a ≤ b) (hb : b ≤ n) :
    Calls Tryd.prog 39 #[.iface U rv, .int .i64 a, .int .i64 b] w fun e w' => e = .returned (.tuple #[]) ∧ St B R T w w' := by
  have mS := X.fS
  have eS := X.eS
  obtain ⟨L, rfl⟩ : ∃ L, b = a + L := ⟨b - a, by omega⟩
  have hLz : ((a : Int) + (L : Int) - (a : Int)) = (L : Int) := by omega
  have HR := Lib.hid (St.refl hr)
  have hB := hr.lt
  clear hr
  by_cases h8 : 8 ≤ L
  · have h8z : (8 : Int) ≤ (L : Int) := by omega
    obtain ⟨M, hM⟩ : ∃ M : Nat, M = 1 <<< bitsLen L := ⟨_, rfl⟩
    have hM1 : 1 ≤ M := by rw [hM, Nat.one_shiftLeft]; exact Nat.two_pow_pos _
    have hM2 : M ≤ 2 * L := by rw [hM, Nat.one_shiftLeft]; exact two_pow_bitsLen_le (by omega)
    have hNP : ∀ w, Calls Tryd.prog 48 #[.int .i64 (L : Int)] w fun e w' => e = .returned (.int .u64 (M : Int)) ∧ w' = w := by rw [hM]; exact fun w => Tryd.nextPowerOfTwo L (by omega) w
    clear hM
    go_enter Tryd.func39, Tryd.ntmps39
    go_wp2_with fail
    refine (hNP _).mono ?_
    rintro e w1 ⟨rfl, rfl⟩
    go_wp2_with fail
    go_loopw [9] (fun vi wr => ∃ i : Int, vi = .int .i64 i ∧ (a : Int) + (L : Int) / 4 * 2 - 1 ≤ i ∧ i ≤ (a : Int) + (L : Int) / 4 * 2 + 2 ∧ Hid (St B R T w wr) ∧
        ∃ r : Nat, r < 18446744073709551616 ∧ wr.cell? ⟨w.heap.size, 0, none⟩ = some (.int .u64 r) ∧ wr.frozen? ⟨w.heap.size, 0, none⟩ = false) (fun vi _ => ((a : Int) + (L : Int) / 4 * 2 + 3 - intOf vi).toNat)
    case atStart =>
      refine ⟨_, rfl, by omega, by omega, Lib.hid (HR.out.below ((Below.refl _ _).alloc (Nat.le_refl _) _)), L, by omega, by simp, by simp⟩
    case round =>
      obtain ⟨i, rfl, h1, h2, HW, r, hr, cR, fR⟩ := hrel
      by_cases hi : i ≤ (a : Int) + (L : Int) / 4 * 2 + 1
      · have hNext := Tryd.xorshift_Next w.heap.size 0 r hr wr cR fR
        obtain ⟨R', hR'⟩ : ∃ R' : Nat, R' = xorNextN r := ⟨_, rfl⟩
        have lR' : R' < 18446744073709551616 := by rw [hR']; exact xorNextN_lt r hr
        rw [← hR'] at hNext
        have HX := Lib.hid hNext
        clear hNext hR'
        obtain ⟨O, hO⟩ : ∃ O : Nat, O = R' &&& (M - 1) := ⟨_, rfl⟩
        have lO : O ≤ M - 1 := by rw [hO]; exact Nat.and_le_right
        have eAnd : bits .and .u64 (R' : Int) ((M : Int) - 1) = (O : Int) := by
          rw [show ((M : Int) - 1) = ((M - 1 : Nat) : Int) by omega, bits_and_u64_nat _ _ lR' (by omega), hO]
        clear hO
        go_wp2_with fail
        refine HX.out.mono ?_
        rintro e w2 ⟨rfl, hw2⟩
        have cR2 : w2.cell? ⟨w.heap.size, 0, none⟩ = some (.int .u64 R') := by rw [hw2, World.cell?_drewN]; exact World.cell?_setCell_same _ _ _ cR
        have fR2 : w2.frozen? ⟨w.heap.size, 0, none⟩ = false := by rw [hw2, World.frozen?_drewN]; simpa using fR
        have HS2 : Hid (St B R T w w2) := by
          refine Lib.hid ⟨?_, ?_⟩
          · rw [hw2]; exact (HW.out.row.set (by simp; omega) _).drewN _
          · rw [hw2]; exact (HW.out.mod.setCell (p := ⟨w.heap.size, 0, none⟩) (fun h => absurd h (Nat.lt_irrefl _)) _).drewN _
        clear hw2 cR fR
        by_cases hLO : (L : Int) ≤ (O : Int)
        all_goals
          go_wp2_with fail
          refine (X.cS _ _ _ HS2.out.row (by omega) (by omega) (by omega) (by omega)).mono ?_
          rintro e w3 ⟨rfl, hs3⟩
          have HS3 := Lib.hid (HS2.out.trans hs3)
          have cR3 : w3.cell? ⟨w.heap.size, 0, none⟩ = some (.int .u64 R') := hs3.mod.cell cR2 (by simp; omega)
          have fR3 : w3.frozen? ⟨w.heap.size, 0, none⟩ = false := by
            have := hs3.mod.block w.heap.size (World.block_lt_of_cell? _ _ cR2) (by omega)
            simp only [World.frozen?, this] at fR2 ⊢
            exact fR2
          clear hs3
          go_wp2_with fail
          go_roundw
          case rel => exact ⟨_, rfl, by omega, by omega, HS3, R', lR', cR3, fR3⟩
          case measure => simp [intOf] <;> omega
      · go_wp2_with fail
        go_end0
        exact ⟨rfl, HW.out⟩
  · have h8z : ¬ (8 : Int) ≤ (L : Int) := by omega
    go_enter Tryd.func39, Tryd.ntmps39
    go_wp2_with fail
    go_end0
    exact ⟨rfl, HR.out⟩
end Go.Proofs.YtnfagjemhbgfkaaDoor.Srt
