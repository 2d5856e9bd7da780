import Derived.Test.YtjnfhcagfgbmnaaRows
import Derived.WalkKit
import Derived.ProofKit
import Derived.OpenShut
import Derived.ShutString
import Derived.Below
import Derived.ChangeOld
import Derived.Lib.Hide
import Derived.Deep.QuietTactic
import Derived.BigQuiet
import Derived.Laws.BitsAllLaws
import Derived.WalkSmall
import Derived.WalkLawsBesides
import Derived.WalkSpells
import Derived.Test.YtjnfhcagfgbmnaaLib
import Derived.Lib.QuietBelow
namespace Go.Proofs.Ytjnfhcagfgbmnaa.SeqF
open Go.ChangeShapes Go.WideShapes Go.ChangeAt Go.RowKit
set_option linter.unusedVariables false
open Go.Trav Go.Sort
def covB (zs ys : List Int) (n : Nat) : Bool := decide (∀ k, k < n → zs[k*2]?.getD 0 ≤ ys[k]?.getD 0 ∧ ys[k]?.getD 0 ≤ zs[k*2+1]?.getD 0)
theorem covB_no {zs ys : List Int} {n k : Nat} (hk : k < n) (h : ¬ (zs[k*2]?.getD 0 ≤ ys[k]?.getD 0 ∧ ys[k]?.getD 0 ≤ zs[k*2+1]?.getD 0)) : covB zs ys n = false := by
  unfold covB
  rw [decide_eq_false_iff_not]
  exact fun H => h (H k hk)
theorem covB_yes {zs ys : List Int} {n : Nat} (h : ∀ k, k < n → zs[k*2]?.getD 0 ≤ ys[k]?.getD 0 ∧ ys[k]?.getD 0 ≤ zs[k*2+1]?.getD 0) : covB zs ys n = true := by
  unfold covB
  rw [decide_eq_true_iff]
  exact h
def Bytes (w : World) (v : Value) (n : Nat) (ys : List Int) : Prop := Reads w v n 1 (ys.map (Value.int .u8))
def Pairs (w : World) (v : Value) (n : Nat) (zs : List Int) : Prop := Reads w v n 2 (zs.map (Value.int .u8))
theorem Bytes.at {w : World} {v : Value} {n : Nat} {ys : List Int} (h : Bytes w v n ys) {k : Nat} (hk : k < n) :
    ∃ b off cap, v = .slice (some ⟨b, off, none⟩) n cap ∧ w.cell? ⟨b, off + k, none⟩ = some (.int .u8 (ys[k]?.getD 0)) := by
  obtain ⟨ao, cap, rfl, h1, h2, _, h3, h4⟩ := h
  simp only [List.length_map] at h3 h4
  obtain ⟨b, off, rfl, hc⟩ := h4 (by omega)
  exact ⟨b, off, cap, rfl, hc k _ (by simp [List.getElem?_eq_getElem (show k < ys.length by omega)])⟩
theorem Pairs.at {w : World} {v : Value} {n : Nat} {zs : List Int} (h : Pairs w v n zs) {k : Nat} (hk : k < n) :
    ∃ b off cap, v = .slice (some ⟨b, off, none⟩) n cap ∧ w.cell? ⟨b, off + k * 2, none⟩ = some (.int .u8 (zs[k*2]?.getD 0)) ∧ w.cell? ⟨b, off + k * 2 + 1, none⟩ = some (.int .u8 (zs[k*2+1]?.getD 0)) := by
  obtain ⟨ao, cap, rfl, h1, h2, _, h3, h4⟩ := h
  simp only [List.length_map] at h3 h4
  obtain ⟨b, off, rfl, hc⟩ := h4 (by omega)
  exact ⟨b, off, cap, rfl, hc (k*2) _ (by simp [List.getElem?_eq_getElem (show k*2 < zs.length by omega)]), hc (k*2+1) _ (by simp [List.getElem?_eq_getElem (show k*2+1 < zs.length by omega)])⟩
theorem Bytes.form {w : World} {v : Value} {n : Nat} {ys : List Int} (h : Bytes w v n ys) : ∃ ao cap, v = .slice ao n cap := by
  obtain ⟨ao, cap, rfl, _⟩ := h; exact ⟨ao, cap, rfl⟩
theorem Pairs.form {w : World} {v : Value} {n : Nat} {ys : List Int} (h : Pairs w v n ys) : ∃ ao cap, v = .slice ao n cap := by
  obtain ⟨ao, cap, rfl, _⟩ := h; exact ⟨ao, cap, rfl⟩
theorem covers_any (v1 v2 : Value) (n : Nat) (zs ys : List Int) (w : World) (h1 : Pairs w v1 n zs) (h2 : Bytes w v2 n ys) :
    Calls Try.prog 19 #[v1, v2] w fun e w' => e = .returned (.bool (covB zs ys n)) ∧ ∃ k, w' = w.drewN k := by
  have hb := h1.bound
  obtain ⟨ao, cap, rfl⟩ := h1.form
  obtain ⟨ao2, cap2, rfl⟩ := h2.form
  go_enter Try.func19, Try.ntmps19
  go_wp2
  go_loopw [5] (fun i wr => ∃ k : Nat, k ≤ n ∧ i = .int .i64 k ∧ (∃ q, wr = w.drewN q) ∧ Hid (∀ j, j < k → zs[j*2]?.getD 0 ≤ ys[j]?.getD 0 ∧ ys[j]?.getD 0 ≤ zs[j*2+1]?.getD 0)) (fun i _ => n - (intOf i).toNat)
  case atStart => exact ⟨0, Nat.zero_le _, rfl, ⟨0, rfl⟩, Lib.hid (fun j hj => by omega)⟩
  case round =>
    obtain ⟨k, hk, rfl, ⟨nq, rfl⟩, HJ⟩ := hrel
    by_cases hlt : k < n
    · obtain ⟨b, off, _, hx, hc1, hc2⟩ := h1.at hlt
      obtain ⟨b', off', _, hx', hc3⟩ := h2.at hlt
      cases hx; cases hx'
      by_cases c1 : ys[k]?.getD 0 < zs[k*2]?.getD 0
      · have HN : Hid (covB zs ys n = false) := Lib.hid (covB_no hlt (by omega))
        go_wp2
        go_quiet (fail)
        go_wp2
        go_ret
        exact ⟨by rw [HN.out]; rfl, _, World.drewN_drewN _ _ _⟩
      · have c1b : decide (ys[k]?.getD 0 < zs[k*2]?.getD 0) = false := by simpa using c1
        by_cases c2 : zs[k*2+1]?.getD 0 < ys[k]?.getD 0
        · have HN : Hid (covB zs ys n = false) := Lib.hid (covB_no hlt (by omega))
          go_wp2
          go_quiet (fail)
          go_wp2
          go_ret
          exact ⟨by rw [HN.out]; rfl, _, World.drewN_drewN _ _ _⟩
        · have c2b : decide (zs[k*2+1]?.getD 0 < ys[k]?.getD 0) = false := by simpa using c2
          have HK : Hid (∀ j, j < k + 1 → zs[j*2]?.getD 0 ≤ ys[j]?.getD 0 ∧ ys[j]?.getD 0 ≤ zs[j*2+1]?.getD 0) := Lib.hid (by
            intro j hj
            by_cases e : j = k
            · subst e; omega
            · exact HJ.out j (by omega))
          go_wp2
          go_quiet (fail)
          go_wp2
          go_roundw
          case rel => exact ⟨k + 1, by omega, by go_num, ⟨_, rfl⟩, HK⟩
          case measure => simp [intOf]; omega
    · have HN : Hid (covB zs ys n = true) := Lib.hid (covB_yes fun j hj => HJ.out j (by omega))
      go_wp2
      go_ret
      exact ⟨by rw [HN.out]; rfl, _, rfl⟩
def inB (s e b : Int) : Bool := decide (s ≤ b ∧ b ≤ e)
theorem rmatches (s e b : Int) (w : World) :
    Calls Try.prog 47 #[.agg #[.int .u8 s, .int .u8 e], .int .u8 b] w fun r w' => r = .returned (.bool (inB s e b)) ∧ Below w.heap.size w w' := by
  by_cases c1 : s ≤ b
  · by_cases c2 : b ≤ e
    · have H : Hid (inB s e b = true) := Lib.hid (by simp [inB]; omega)
      go_enter Try.func47, Try.ntmps47
      go_wp2
      go_ret
      exact ⟨by rw [H.out]; rfl, (Below.refl _ _).alloc (Nat.le_refl _) _⟩
    · have H : Hid (inB s e b = false) := Lib.hid (by simp [inB]; omega)
      go_enter Try.func47, Try.ntmps47
      go_wp2
      go_ret
      exact ⟨by rw [H.out]; rfl, (Below.refl _ _).alloc (Nat.le_refl _) _⟩
  · have H : Hid (inB s e b = false) := Lib.hid (by simp [inB]; omega)
    go_enter Try.func47, Try.ntmps47
    go_wp2
    go_ret
    exact ⟨by rw [H.out]; rfl, (Below.refl _ _).alloc (Nat.le_refl _) _⟩
theorem smatches (v1 v2 : Value) (n m : Nat) (zs ys : List Int) (w : World) (h1 : Pairs w v1 n zs) (h2 : Bytes w v2 m ys) (hnm : n ≤ m) :
    Calls Try.prog 31 #[v1, v2] w fun e w' => e = .returned (.bool (covB zs ys n)) ∧ Below w.heap.size w w' := by
  have hb := h1.bound
  obtain ⟨ao, cap, rfl⟩ := h1.form
  obtain ⟨ao2, cap2, rfl⟩ := h2.form
  have hb2 := h2.bound
  go_enter Try.func31, Try.ntmps31
  go_wp2
  go_loopw [5] (fun i wr => ∃ k : Nat, k ≤ n ∧ i = .int .i64 k ∧ (Below w.heap.size w wr) ∧ Hid (∀ j, j < k → zs[j*2]?.getD 0 ≤ ys[j]?.getD 0 ∧ ys[j]?.getD 0 ≤ zs[j*2+1]?.getD 0)) (fun i _ => n - (intOf i).toNat)
  case atStart => exact ⟨0, Nat.zero_le _, rfl, Below.refl _ _, Lib.hid (fun j hj => by omega)⟩
  case round =>
    obtain ⟨k, hk, rfl, hbw, HJ⟩ := hrel
    by_cases hlt : k < n
    · obtain ⟨b, off, _, hx, hc1, hc2⟩ := Pairs.at (h1.below hbw) hlt
      obtain ⟨b', off', _, hx', hc3⟩ := Bytes.at (h2.below hbw) (Nat.lt_of_lt_of_le hlt hnm)
      cases hx; cases hx'
      have hc1' := cell_regrown hc1
      have hc2' := cell_regrown hc2
      have hc3' := cell_regrown hc3
      clear hc1 hc2 hc3
      have hkm : k < m := by omega
      by_cases c : inB (zs[k*2]?.getD 0) (zs[k*2+1]?.getD 0) (ys[k]?.getD 0) = true
      · go_wp2
        refine wp_region_quiet_below (by kernel_rfl) (by kernel_rfl) ?_
        repeat (first | go_big_quiet_step (exact Calls.regrown_of (rmatches _ _ _ _)) | quiet_step (exact Calls.regrown_of (rmatches _ _ _ _)))
        refine wpQuiet_nil ?_
        intro _ hw'
        obtain ⟨⟨dq, osq⟩, hw''⟩ := hw'
        subst hw''
        go_wp2
        have HK : Hid (∀ j, j < k + 1 → zs[j*2]?.getD 0 ≤ ys[j]?.getD 0 ∧ ys[j]?.getD 0 ≤ zs[j*2+1]?.getD 0) := Lib.hid (by
          intro j hj
          by_cases e : j = k
          · subst e; simpa [inB] using c
          · exact HJ.out j (by omega))
        go_roundw
        case rel => exact ⟨k + 1, by omega, by go_num, hbw.trans ((below_regrown _ _ _).mono hbw.size), HK⟩
        case measure => simp [intOf]; omega
      · have HN : Hid (covB zs ys n = false) := Lib.hid (covB_no hlt (by simpa [inB] using c))
        have c' : inB (zs[k*2]?.getD 0) (zs[k*2+1]?.getD 0) (ys[k]?.getD 0) = false := by simpa using c
        clear c
        go_wp2
        refine wp_region_quiet_below (by kernel_rfl) (by kernel_rfl) ?_
        repeat (first | go_big_quiet_step (exact Calls.regrown_of (rmatches _ _ _ _)) | quiet_step (exact Calls.regrown_of (rmatches _ _ _ _)))
        refine wpQuiet_nil ?_
        intro _ hw'
        obtain ⟨⟨dq, osq⟩, hw''⟩ := hw'
        subst hw''
        go_wp2
        go_ret
        exact ⟨by rw [HN.out]; rfl, hbw.trans ((below_regrown _ _ _).mono hbw.size)⟩
    · have HN : Hid (covB zs ys n = true) := Lib.hid (covB_yes fun j hj => HJ.out j (by omega))
      go_wp2
      go_ret
      exact ⟨by rw [HN.out]; rfl, hbw⟩

theorem Try.info59 : (Try.prog.info? 59).map (fun i => (i.zero, i.size, i.bytes)) = some (some (.agg #[.int .u8 0, .int .u8 0]), 2, 2) := by kernel_rfl
theorem take2 {w : World} {base : Nat} {e : TypeId} {v : Value} {k : Nat} {zs : List Int} (hk : k * 2 + 1 < zs.length)
    (h : w.ownsRow base e 2 v (k + 1) ((zs.take (k*2)).map (Value.int .u8) ++ #[Value.int .u8 (zs[k*2]?.getD 0), Value.int .u8 (zs[k*2+1]?.getD 0)].toList)) : w.ownsRow base e 2 v (k + 1) ((zs.take ((k+1)*2)).map (Value.int .u8)) := by
  have e1 : zs.take ((k+1)*2) = zs.take (k*2) ++ [zs[k*2]?.getD 0, zs[k*2+1]?.getD 0] := by
    have e2 : (k+1)*2 = k*2+1+1 := by omega
    rw [e2, List.take_add_one, List.take_add_one]
    rw [List.getElem?_eq_getElem hk, List.getElem?_eq_getElem (show k*2 < zs.length by omega), List.append_assoc]
    rfl
  rw [e1]
  simpa using h
theorem seqMatches (v1 v2 : Value) (n m : Nat) (zs ys : List Int) (w : World) (h1 : Pairs w v1 n zs) (h2 : Bytes w v2 m ys) (hnm : n ≤ m) (hn : n ≤ 2147483647) :
    Calls Try.prog 18 #[v1, v2] w fun e w' => e = .returned (.bool (covB zs ys n)) ∧ Below w.heap.size w w' := by
  have hb := h1.bound
  have hzl : zs.length = n * 2 := by simpa using h1.len
  obtain ⟨ao, cap, rfl⟩ := h1.form
  obtain ⟨ao2, cap2, rfl⟩ := h2.form
  have hb2 := h2.bound
  obtain ⟨i0, hi, hz0, hz1, hz2⟩ := info_parts Try.info59
  go_enter Try.func18, Try.ntmps18
  go_wp2
  go_loopw [5, 10] (fun v i wr => ∃ k : Nat, k ≤ n ∧ i = .int .i64 k ∧ wr.ownsRow w.heap.size 59 2 v k ((zs.take (k*2)).map (Value.int .u8)) ∧ Below w.heap.size w wr) (fun _ i _ => n - (intOf i).toNat)
  case atStart => exact ⟨0, Nat.zero_le _, rfl, World.ownsRow_nil _ _ _ _, Below.refl _ _⟩
  case round =>
    obtain ⟨k, hk, rfl, hown, hbw⟩ := hrel
    by_cases hlt : k < n
    · obtain ⟨b, off, _, hx, hc1, hc2⟩ := Pairs.at (h1.below hbw) hlt
      cases hx
      have hzk : Hid (k * 2 + 1 < zs.length) := Lib.hid (by omega)
      have HZ := Lib.hid hzl
      clear hzl
      go_wp2_with (at_builtin; go_loud (refine wpList_append_one rfl _ _ 56 rfl w.heap.size 59 _ 2 2 Try.underlying56 Try.info59 rfl (by decide) (by decide) _ _ _ rfl (hown.alloc _) #[_, _] _ _ rfl (by simp) rfl (by simp [Value.oneCell']) (by omega) (by have := hbw.size; simp; omega) ?_); intro v' w1 hown' hgr)
      go_roundw
      case rel => exact ⟨k + 1, by omega, by go_num, take2 (zs := zs) hzk.out hown', below_own (hbw.alloc hbw.size _) (hown.alloc _) _ hgr (by have := hbw.size; simp; omega)⟩
      case measure => simp [intOf]; omega
    · obtain rfl : k = n := by omega
      have hp : Pairs wr u5 k zs := by
        have := reads_of_owns hown
        rw [List.take_of_length_le (by omega)] at this
        exact this
      go_wp2_with fail
      refine (smatches _ _ _ _ _ _ _ hp (h2.below hbw) hnm).mono ?_
      rintro e w1 ⟨rfl, hb1⟩
      go_wp2_with fail
      go_ret
      exact ⟨by rfl, hbw.trans (hb1.mono hbw.size)⟩

theorem law_big (v1 v2 v3 : Value) (a0 a1 a2 : Option Addr) (n m l c0 c1 c2 : Nat) (w : World) (h : 2147483647 < n ∨ 2147483647 < m ∨ 2147483647 < l) :
    Calls Try.prog 8 #[.slice a0 n c0, .slice a1 m c1, .slice a2 l c2] w fun e w' => e = .returned (.bool true) ∧ Below w.heap.size w w' := by
  by_cases h1 : 2147483647 < n
  · go_enter Try.func8, Try.ntmps8
    go_wp2
    go_ret
    exact ⟨by simp, Below.refl _ _⟩
  · have h1b : decide (2147483647 < (n : Int)) = false := by simp; omega
    by_cases h2 : 2147483647 < m
    · go_enter Try.func8, Try.ntmps8
      go_wp2
      go_ret
      exact ⟨by simp, Below.refl _ _⟩
    · have h2b : decide (2147483647 < (m : Int)) = false := by simp; omega
      have h3 : 2147483647 < l := by omega
      go_enter Try.func8, Try.ntmps8
      go_wp2
      go_ret
      exact ⟨by simp, Below.refl _ _⟩
theorem law_off (v1 v2 v3 : Value) (a0 a1 a2 : Option Addr) (n m l c0 c1 c2 : Nat) (w : World) (h1 : n ≤ 2147483647) (h2 : m ≤ 2147483647) (h3 : l ≤ 2147483647) (h : n = 0 ∨ n ≠ m) :
    Calls Try.prog 8 #[.slice a0 n c0, .slice a1 m c1, .slice a2 l c2] w fun e w' => e = .returned (.bool true) ∧ Below w.heap.size w w' := by
  have h1b : decide (2147483647 < (n : Int)) = false := by simp; omega
  have h2b : decide (2147483647 < (m : Int)) = false := by simp; omega
  by_cases h0 : n = 0
  · have h0b : ((n : Int) == 0) = true := by simp [h0]
    have H0 := Lib.hid h0
    clear h0
    go_enter Try.func8, Try.ntmps8
    go_wp2
    go_ret
    exact ⟨by simp, Below.refl _ _⟩
  · have h0b : ((n : Int) == 0) = false := by simp [h0]
    have h4 : ((m : Int) != (n : Int)) = true := by simp; omega
    go_enter Try.func8, Try.ntmps8
    go_wp2
    go_ret
    exact ⟨by simp, Below.refl _ _⟩
theorem Try.info5 : (Try.prog.info? 5).map (fun i => (i.zero, i.size, i.bytes)) = some (some (.int .u8 0), 1, 1) := by kernel_rfl
theorem law_on (v1 v2 v3 : Value) (n l : Nat) (zs ys xs : List Int) (w : World) (h1 : n ≤ 2147483647) (h3 : l ≤ 2147483647) (h0 : 0 < n)
    (r1 : Pairs w v1 n zs) (r2 : Bytes w v2 n ys) (r3 : Bytes w v3 l xs) :
    Calls Try.prog 8 #[v1, v2, v3] w fun e w' => e = .returned (.bool true) ∧ Below w.heap.size w w' := by
  obtain ⟨ao, cap, rfl⟩ := r1.form
  obtain ⟨ao2, cap2, rfl⟩ := r2.form
  obtain ⟨ao3, cap3, rfl⟩ := r3.form
  have h1b : decide (2147483647 < (n : Int)) = false := by simp; omega
  have h0b : ((n : Int) == 0) = false := by simp; omega
  have h4 : ((n : Int) != (n : Int)) = false := by simp
  go_enter Try.func8, Try.ntmps8
  go_wp2_with (first
    | (at_builtin; refine wpList_append_reads rfl (.tmp 31) (.tmp 32) 32 rfl w.heap.size 5 _ 1 1 Try.underlying32 Try.info5 rfl (by decide) (by decide) _ 0 [] rfl (World.ownsRow_made _ #[] 0 (Nat.le_refl _) (Nat.zero_le _) rfl) _ n _ rfl (Reads.alloc r2 _) (by simp [Value.oneCell']) (by omega) (by simp) ?_; intro v1 w1 hown1 hg1; have hb1 : Below w.heap.size w w1 := below_own' ((Below.refl _ _).alloc (Nat.le_refl _) _) (World.ownsRow_made (size := 1) w #[] 0 (Nat.le_refl _) (Nat.zero_le _) rfl) hg1 (by simp))
    | (at_builtin; refine wpList_append_reads rfl (.tmp 33) (.tmp 34) 32 rfl w.heap.size 5 _ 1 1 Try.underlying32 Try.info5 rfl (by decide) (by decide) _ _ _ rfl (by assumption) _ l _ rfl (Reads.below r3 (by assumption)) (by simp [Value.oneCell']) (by omega) (by have := hb1.size; omega) ?_; intro v2 w2 hown2 hg2; have hb2 : Below w.heap.size w w2 := below_own' hb1 hown1 hg2 (by have := hb1.size; omega)))
  have hr4 : Bytes w2 v2 (n + l) (ys ++ xs) := by
    have := reads_of_owns hown2
    simp only [List.nil_append, ← List.map_append, Nat.zero_add] at this
    exact this
  refine (seqMatches _ _ _ _ zs (ys ++ xs) _ (r1.below hb2) hr4 (by omega) h1).mono ?_
  rintro e w3 ⟨rfl, hb3⟩
  have hb4 : Below w.heap.size w w3 := hb2.trans (hb3.mono hb2.size)
  go_wp2_with fail
  refine (covers_any _ _ _ zs ys _ (r1.below hb4) (r2.below hb4)).mono ?_
  rintro e w4 ⟨rfl, nq, rfl⟩
  have he : covB zs (ys ++ xs) n = covB zs ys n := by
    have hyl : ys.length = n := by simpa using r2.len
    unfold covB
    rw [decide_eq_decide]
    refine ⟨fun H k hk => ?_, fun H k hk => ?_⟩
    · have := H k hk
      rwa [List.getElem?_append_left (by omega)] at this
    · rw [List.getElem?_append_left (by omega)]; exact H k hk
  rw [he]
  clear he
  go_wp2_with fail
  go_ret
  exact ⟨by simp, below_drewN hb4 _⟩
theorem law (v1 v2 v3 : Value) (n m l : Nat) (zs ys xs : List Int) (w : World) (r1 : Pairs w v1 n zs) (r2 : Bytes w v2 m ys) (r3 : Bytes w v3 l xs) :
    Calls Try.prog 8 #[v1, v2, v3] w fun e w' => e = .returned (.bool true) ∧ Below w.heap.size w w' := by
  by_cases h : 2147483647 < n ∨ 2147483647 < m ∨ 2147483647 < l
  · obtain ⟨ao, cap, rfl⟩ := r1.form
    obtain ⟨ao2, cap2, rfl⟩ := r2.form
    obtain ⟨ao3, cap3, rfl⟩ := r3.form
    exact law_big undef undef undef _ _ _ _ _ _ _ _ _ _ h
  · by_cases h2 : n = 0 ∨ n ≠ m
    · obtain ⟨ao, cap, rfl⟩ := r1.form
      obtain ⟨ao2, cap2, rfl⟩ := r2.form
      obtain ⟨ao3, cap3, rfl⟩ := r3.form
      exact law_off undef undef undef _ _ _ _ _ _ _ _ _ _ (by omega) (by omega) (by omega) h2
    · obtain rfl : n = m := by omega
      exact law_on _ _ _ _ _ zs ys xs _ (by omega) (by omega) (by omega) r1 r2 r3

end Go.Proofs.Ytjnfhcagfgbmnaa.SeqF
