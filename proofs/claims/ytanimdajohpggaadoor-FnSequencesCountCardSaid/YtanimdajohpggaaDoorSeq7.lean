/- The reference's functions of letters: ranged, IsLetter, Bytes, Covers, Covered, Many, Between. -/
import Derived.Test.YtanimdajohpggaaDoorSeq3
import Derived.Test.YtanimdajohpggaaDoorSeqMath2
import Derived.Lib.QuietBelow
namespace Go.Proofs.YtanimdajohpggaaDoor.Seq
open Go.ChangeShapes Go.WideShapes Go.ChangeAt Go.RowKit Go.Trav Go.Utf
set_option linter.unusedVariables false
set_option maxRecDepth 100000
theorem ranged_yes (a b : Int) (w : World) (h : Bd (a, b)) : Calls Tryd.prog 16 #[.int .i32 a, .int .i32 b] w fun e w' => e = .returned (.bool true) ∧ w = w' := by
  unfold Bd at h; simp only at h
  obtain ⟨h1, h2, h3, h4⟩ := h
  go_enter Tryd.func16, Tryd.ntmps16
  go_wp2_with fail
  go_ret
  exact ⟨rfl, rfl⟩
theorem ranged_no (a b : Int) (w : World) (h : ¬ Bd (a, b)) : Calls Tryd.prog 16 #[.int .i32 a, .int .i32 b] w fun e w' => e = .returned (.bool false) ∧ w = w' := by
  unfold Bd at h; simp only at h
  by_cases h1 : 0 ≤ a
  · by_cases h2 : a ≤ 1114111
    · by_cases h3 : 0 ≤ b
      · have h4 : ¬ b ≤ 1114111 := by omega
        clear h
        go_enter Tryd.func16, Tryd.ntmps16
        go_wp2_with fail
        go_ret
        exact ⟨rfl, rfl⟩
      · clear h
        go_enter Tryd.func16, Tryd.ntmps16
        go_wp2_with fail
        go_ret
        exact ⟨rfl, rfl⟩
    · clear h
      go_enter Tryd.func16, Tryd.ntmps16
      go_wp2_with fail
      go_ret
      exact ⟨rfl, rfl⟩
  · clear h
    go_enter Tryd.func16, Tryd.ntmps16
    go_wp2_with fail
    go_ret
    exact ⟨rfl, rfl⟩
theorem isl_yes (x : Int) (w : World) (h : Let x) : Calls Tryd.prog 17 #[.int .i64 x] w fun e w' => e = .returned (.bool true) ∧ w = w' := by
  unfold Let at h
  obtain ⟨h1, h2, h3⟩ := h
  by_cases h4 : x < 55296
  · clear h3
    go_enter Tryd.func17, Tryd.ntmps17
    go_wp2_with fail
    go_ret
    exact ⟨rfl, rfl⟩
  · have h5 : 57343 < x := by omega
    clear h3
    go_enter Tryd.func17, Tryd.ntmps17
    go_wp2_with fail
    go_ret
    exact ⟨rfl, rfl⟩
theorem isl_no (x : Int) (w : World) (h : ¬ Let x) : Calls Tryd.prog 17 #[.int .i64 x] w fun e w' => e = .returned (.bool false) ∧ w = w' := by
  unfold Let at h
  by_cases h1 : 0 ≤ x
  · by_cases h2 : x ≤ 1114111
    · have h3 : ¬ x < 55296 := by omega
      have h4 : ¬ 57343 < x := by omega
      clear h
      go_enter Tryd.func17, Tryd.ntmps17
      go_wp2_with fail
      go_ret
      exact ⟨rfl, rfl⟩
    · clear h
      go_enter Tryd.func17, Tryd.ntmps17
      go_wp2_with fail
      go_ret
      exact ⟨rfl, rfl⟩
  · clear h
    go_enter Tryd.func17, Tryd.ntmps17
    go_wp2_with fail
    go_ret
    exact ⟨rfl, rfl⟩
theorem reads_new (w : World) (l : List Value) (T : TypeId) (hl : l.length ≤ 1000) (n : Nat) (hn : l.length = n) (c : Array Value) (hc : c = l.toArray) :
    Reads (w.alloc (.cells c T)) (.slice (some ⟨w.heap.size, 0, none⟩) n n) n 1 l := by
  subst hc hn
  refine ⟨_, _, rfl, Nat.le_refl _, by unfold maxLen; omega, fun h => by simp at h, by omega, fun hp => ⟨_, 0, rfl, fun j u hj => ?_⟩⟩
  rw [Nat.zero_add]
  exact block_cell (heap_alloc_new _ _) (by simpa using hj)
theorem bytes_any (x : Int) (w : World) (h : Let x) : Calls Tryd.prog 20 #[.int .i64 x] w fun e w' => ∃ ov, e = .returned ov ∧ Reads w' ov (wid x) 1 ((ubytes x).map bV) ∧ Below w.heap.size w w' := by
  have h0 : 0 ≤ x := h.1
  have h9 : x ≤ 1114111 := h.2.1
  clear h
  rcases wid_cases x with ⟨e1, a1⟩ | ⟨e1, a1, a2⟩ | ⟨e1, a1, a2, a3⟩ | ⟨e1, a1, a2, a3⟩
  · have E := Lib.hid e1
    have B := Lib.hid (bytes1 a1)
    clear e1
    go_enter Tryd.func20, Tryd.ntmps20
    go_wp2_with fail
    go_ret
    rw [E.out, B.out]
    exact ⟨_, rfl, reads_new _ _ _ (by simp) _ rfl _ rfl, (Below.refl _ _).alloc (Nat.le_refl _) _⟩
  · have E := Lib.hid e1
    have B := Lib.hid (bytes2 a1 a2)
    have d1 : 0 ≤ x / 64 ∧ x / 64 ≤ 31 := by omega
    have d2 : 0 ≤ x % 64 ∧ x % 64 ≤ 63 := by omega
    clear e1
    go_enter Tryd.func20, Tryd.ntmps20
    go_wp2_with fail
    go_ret
    rw [E.out, B.out]
    exact ⟨_, rfl, reads_new _ _ _ (by simp) _ rfl _ rfl, (Below.refl _ _).alloc (Nat.le_refl _) _⟩
  · have E := Lib.hid e1
    have B := Lib.hid (bytes3 a1 a2 a3)
    have d1 : 0 ≤ x / 4096 ∧ x / 4096 ≤ 15 := by omega
    have d2 : 0 ≤ x / 64 % 64 ∧ x / 64 % 64 ≤ 63 := by omega
    have d3 : 0 ≤ x % 64 ∧ x % 64 ≤ 63 := by omega
    clear e1
    go_enter Tryd.func20, Tryd.ntmps20
    go_wp2_with fail
    go_ret
    rw [E.out, B.out]
    exact ⟨_, rfl, reads_new _ _ _ (by simp) _ rfl _ rfl, (Below.refl _ _).alloc (Nat.le_refl _) _⟩
  · have E := Lib.hid e1
    have B := Lib.hid (bytes4 a1 a2 a3)
    have d1 : 0 ≤ x / 262144 ∧ x / 262144 ≤ 4 := by omega
    have d2 : 0 ≤ x / 4096 % 64 ∧ x / 4096 % 64 ≤ 63 := by omega
    have d3 : 0 ≤ x / 64 % 64 ∧ x / 64 % 64 ≤ 63 := by omega
    have d4 : 0 ≤ x % 64 ∧ x % 64 ≤ 63 := by omega
    clear e1
    go_enter Tryd.func20, Tryd.ntmps20
    go_wp2_with fail
    go_ret
    rw [E.out, B.out]
    exact ⟨_, rfl, reads_new _ _ _ (by simp) _ rfl _ rfl, (Below.refl _ _).alloc (Nat.le_refl _) _⟩
/-- Bytes within ranges, as a Bool. -/
def covL (ls : List (Int × Int)) (ys : List Int) (n : Nat) : Bool := decide (∀ k, k < n → (ls[k]?.getD (0, 0)).1 ≤ ys[k]?.getD 0 ∧ ys[k]?.getD 0 ≤ (ls[k]?.getD (0, 0)).2)
theorem covL_no {ls : List (Int × Int)} {ys : List Int} {n k : Nat} (hk : k < n) (h : ¬ ((ls[k]?.getD (0, 0)).1 ≤ ys[k]?.getD 0 ∧ ys[k]?.getD 0 ≤ (ls[k]?.getD (0, 0)).2)) : covL ls ys n = false := by
  unfold covL
  rw [decide_eq_false_iff_not]
  exact fun H => h (H k hk)
theorem covL_yes {ls : List (Int × Int)} {ys : List Int} {n : Nat} (h : ∀ k, k < n → (ls[k]?.getD (0, 0)).1 ≤ ys[k]?.getD 0 ∧ ys[k]?.getD 0 ≤ (ls[k]?.getD (0, 0)).2) : covL ls ys n = true := by
  unfold covL
  rw [decide_eq_true_iff]
  exact h
theorem covL_cov {q : Int × Int} {x : Int} (hg : Utf.Good q.1 q.2) (hw : wid q.1 = wid x) : covL (seqOf q) (ubytes x) (wid x) = covB q x := by
  have hl : (seqOf q).length = wid x := by rw [← hw]; exact seqOf_len hg
  have hl2 := wid_len x
  rw [Bool.eq_iff_iff, covB_iff, ← good_covers (x := x) hg]
  unfold covL covers
  rw [decide_eq_true_iff]
  constructor
  · intro h
    refine ⟨by rw [show seqOf (q.1, q.2) = seqOf q from rfl, hl, hl2], fun i p y hp hy => ?_⟩
    have hi := (List.getElem?_eq_some_iff.1 hy).1
    have := h i (by omega)
    rw [show (seqOf q)[i]? = some p from hp, hy] at this
    simpa using this
  · rintro ⟨_, h⟩ k hk
    have h1 : (seqOf q)[k]? = some (seqOf q)[k] := List.getElem?_eq_getElem (by omega)
    have h2 : (ubytes x)[k]? = some (ubytes x)[k] := List.getElem?_eq_getElem (by omega)
    rw [h1, h2]
    exact h k _ _ h1 h2
theorem covB_ne {q : Int × Int} {x : Int} (hg : Utf.Good q.1 q.2) (hw : wid q.1 ≠ wid x) : covB q x = false := by
  rw [Bool.eq_false_iff]
  intro h
  have h := (covB_iff q x).1 h
  have := wid_mono h.1
  have := wid_mono h.2
  have := good_wid hg
  omega
theorem covers_ne (v1 v2 : Value) (n m : Nat) (ls ys : List Value) (w : World) (h1 : Reads w v1 n 2 ls) (h2 : Reads w v2 m 1 ys) (hn : n ≠ m) :
    Calls Tryd.prog 40 #[v1, v2] w fun e w' => e = .returned (.bool false) ∧ ∃ k, w' = w.drewN k := by
  have b1 := h1.bound
  have b2 := h2.bound
  obtain ⟨ao, cap, rfl⟩ := h1.form
  obtain ⟨ao2, cap2, rfl⟩ := h2.form
  go_enter Tryd.func40, Tryd.ntmps40
  go_wp2_with fail
  go_ret
  exact ⟨rfl, 0, rfl⟩
theorem covers_eq (v1 v2 : Value) (n : Nat) (ls : List (Int × Int)) (ys : List Int) (w : World) (h1 : Reads w v1 n 2 (ls.flatMap rgCells)) (h2 : Reads w v2 n 1 (ys.map bV)) :
    Calls Tryd.prog 40 #[v1, v2] w fun e w' => e = .returned (.bool (covL ls ys n)) ∧ ∃ k, w' = w.drewN k := by
  have hb := h1.bound
  obtain ⟨ao, cap, rfl⟩ := h1.form
  obtain ⟨ao2, cap2, rfl⟩ := h2.form
  go_enter Tryd.func40, Tryd.ntmps40
  go_wp2_with fail
  go_loopw [5] (fun i wr => ∃ k : Nat, k ≤ n ∧ i = .int .i64 k ∧ (∃ q, wr = w.drewN q) ∧ Hid (∀ j, j < k → (ls[j]?.getD (0, 0)).1 ≤ ys[j]?.getD 0 ∧ ys[j]?.getD 0 ≤ (ls[j]?.getD (0, 0)).2)) (fun i _ => n - (intOf i).toNat)
  case atStart => exact ⟨0, Nat.zero_le _, rfl, ⟨0, rfl⟩, Lib.hid (fun j hj => by omega)⟩
  case round =>
    obtain ⟨k, hk, rfl, ⟨nq, rfl⟩, HJ⟩ := hrel
    by_cases hlt : k < n
    · obtain ⟨b, off, _, p, hx, hp, hc⟩ := Reads.rec rgCells (fun _ => rfl) h1 (by omega) hlt
      obtain ⟨b', off', _, y, hx', hy, hc3⟩ := Reads.one bV h2 hlt
      have hc1 := hc 0 (.int .u8 p.1) rfl
      have hc2 := hc 1 (.int .u8 p.2) rfl
      simp only [Nat.add_zero] at hc1
      unfold bV at hc3
      cases hx; cases hx'
      have ep : ls[k]?.getD (0, 0) = p := by rw [hp]; rfl
      have ey : ys[k]?.getD 0 = y := by rw [hy]; rfl
      have EP := Lib.hid ep
      have EY := Lib.hid ey
      clear hc hp hy ep ey h1 h2
      by_cases c1 : y < p.1
      · have HN : Hid (covL ls ys n = false) := Lib.hid (covL_no hlt (by rw [EP.out, EY.out]; omega))
        go_wp2
        go_quiet (fail)
        go_wp2
        go_ret
        exact ⟨by rw [HN.out]; rfl, _, World.drewN_drewN _ _ _⟩
      · have c1b : decide (y < p.1) = false := by simpa using c1
        by_cases c2 : p.2 < y
        · have HN : Hid (covL ls ys n = false) := Lib.hid (covL_no hlt (by rw [EP.out, EY.out]; omega))
          go_wp2
          go_quiet (fail)
          go_wp2
          go_ret
          exact ⟨by rw [HN.out]; rfl, _, World.drewN_drewN _ _ _⟩
        · have c2b : decide (p.2 < y) = false := by simpa using c2
          have HK : Hid (∀ j, j < k + 1 → (ls[j]?.getD (0, 0)).1 ≤ ys[j]?.getD 0 ∧ ys[j]?.getD 0 ≤ (ls[j]?.getD (0, 0)).2) := Lib.hid (by
            intro j hj
            by_cases e : j = k
            · subst e; rw [EP.out, EY.out]; omega
            · exact HJ.out j (by omega))
          go_wp2
          go_quiet (fail)
          go_wp2
          go_roundw
          case rel => exact ⟨k + 1, by omega, by go_num, ⟨_, rfl⟩, HK⟩
          case measure => simp [intOf]; omega
    · have HN : Hid (covL ls ys n = true) := Lib.hid (covL_yes fun j hj => HJ.out j (by omega))
      go_wp2
      go_ret
      exact ⟨by rw [HN.out]; rfl, _, rfl⟩
theorem covers_q (v1 v2 : Value) (q : Int × Int) (x : Int) (r : Bool) (w : World) (hr : covB q x = r) (hg : Utf.Good q.1 q.2) (h1 : Reads w v1 (wid q.1) 2 ((seqOf q).flatMap rgCells)) (h2 : Reads w v2 (wid x) 1 ((ubytes x).map bV)) :
    Calls Tryd.prog 40 #[v1, v2] w fun e w' => e = .returned (.bool r) ∧ ∃ k, w' = w.drewN k := by
  subst hr
  by_cases hw : wid q.1 = wid x
  · rw [← covL_cov hg hw]
    rw [hw] at h1
    exact covers_eq _ _ _ _ _ _ h1 h2
  · rw [covB_ne hg hw]
    exact covers_ne _ _ _ _ _ _ _ h1 h2 hw
end Go.Proofs.YtanimdajohpggaaDoor.Seq
