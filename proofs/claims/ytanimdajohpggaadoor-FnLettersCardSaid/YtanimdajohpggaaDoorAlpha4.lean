/- levenshtein.sortRune: letters, rising. -/
import Derived.Test.YtanimdajohpggaaDoorUtf3
import Derived.Test.YtanimdajohpggaaDoorShS
import Derived.Shelf.GgSortMore.SortSort
namespace Go.Proofs.YtanimdajohpggaaDoor.Utf0
open Go.ChangeShapes Go.WideShapes Go.ChangeAt Go.RowKit Go.Trav Go.Utf Go.Sort
set_option linter.unusedVariables false
set_option maxRecDepth 100000
theorem len_reached (p : Option Addr) (n c : Nat) : Reaches Tryd.prog 169 (.slice p n c) "Len" 147 := ⟨fun _ => by kernel_rfl, enters_of Tryd.func147 (by kernel_rfl) rfl⟩
theorem less_reached (p : Option Addr) (n c : Nat) : Reaches Tryd.prog 169 (.slice p n c) "Less" 148 := ⟨fun _ => by kernel_rfl, enters_of Tryd.func148 (by kernel_rfl) rfl⟩
theorem swap_reached (p : Option Addr) (n c : Nat) : Reaches Tryd.prog 169 (.slice p n c) "Swap" 149 := ⟨fun _ => by kernel_rfl, enters_of Tryd.func149 (by kernel_rfl) rfl⟩
theorem len_m (p : Option Addr) (n c : Nat) (W : World) : LenM Tryd.prog 147 (.slice p n c) n W := by
  unfold LenM
  go_enter Tryd.func147, Tryd.ntmps147
  go_wp2
  go_ret
  exact ⟨rfl, 0, rfl⟩
set_option maxHeartbeats 2000000 in
theorem less_any (blk off c size : Nat) (W : World) (G : Nat → Int) (hc : ∀ t, t < size → W.cell? ⟨blk, off + t, none⟩ = some (rV (G t))) (i j : Nat) (hi : i < size) (hj : j < size) (_hsz : size < 4611686018427387904) :
    Calls Tryd.prog 148 #[.slice (some ⟨blk, off, none⟩) size c, .int .i64 i, .int .i64 j] W fun e w' => e = .returned (.bool (decide (G i < G j))) ∧ ∃ q, w' = W.drewN q := by
  have ci := hc i hi
  have cj := hc j hj
  unfold rV at ci cj
  clear hc
  go_enter Tryd.func148, Tryd.ntmps148
  go_wp2
  go_quiet (fail)
  go_wp2
  go_ret
  exact ⟨rfl, nq, rfl⟩
set_option maxHeartbeats 2000000 in
theorem swap_any (blk off c size : Nat) (W : World) (x y : Int) (i j : Nat) (hi : i < size) (hj : j < size) (_hsz : size < 4611686018427387904)
    (ci : W.cell? ⟨blk, off + i, none⟩ = some (.int .i32 x)) (cj : W.cell? ⟨blk, off + j, none⟩ = some (.int .i32 y)) (fi : W.frozen? ⟨blk, off + i, none⟩ = false) (fj : W.frozen? ⟨blk, off + j, none⟩ = false) :
    Calls Tryd.prog 149 #[.slice (some ⟨blk, off, none⟩) size c, .int .i64 i, .int .i64 j] W fun e w' => e = .returned (.tuple #[]) ∧ ∃ q, w' = ((W.setCell ⟨blk, off + i, none⟩ (.int .i32 y)).setCell ⟨blk, off + j, none⟩ (.int .i32 x)).drewN q := by
  obtain ⟨v', hy'⟩ := cell?_setCell_some (w := W) (p := ⟨blk, off + i, none⟩) (x := .int .i32 y) (q := ⟨blk, off + j, none⟩) cj
  go_enter Tryd.func149, Tryd.ntmps149
  go_wp2
  go_region
  all_goals (try go_wp2)
  all_goals go_end0
  all_goals exact ⟨rfl, 1, rfl⟩
theorem less_m (blk off c : Nat) (d : Array Int) (w : World) (hH : Holds rV w blk off d) (hblk : blk < w.heap.size) (hsz : d.size < 4611686018427387904) :
    LessM Tryd.prog 148 (.slice (some ⟨blk, off, none⟩) d.size c) rV ltInt blk off d.size w := fun m os dk hs i j hi hj =>
  less_any blk off c d.size _ (fun t => dk[t]!) (fun t ht => ((holds_sortWorld rV w blk off m d dk os hblk hH hs) t (by omega)).1) i j hi hj hsz
theorem swap_m (blk off c size : Nat) (hsz : size < 4611686018427387904) : SwapM Tryd.prog 149 (.slice (some ⟨blk, off, none⟩) size c) rV blk off size := fun W dk hH hs i j hi hj =>
  swap_any blk off c size W dk[i]! dk[j]! i j hi hj hsz (hH i (by omega)).1 (hH j (by omega)).1 (hH i (by omega)).2 (hH j (by omega)).2
theorem mod_sorted {w : World} {g n : Nat} {os : Array Obj} (d : Array Int) : Mod (fun k => k = g) w (grow (putRow rV (Sort.ahead w n) g 0 d) os) := by
  refine ⟨rfl, rfl, rfl, by simp, fun k hk hne => ?_⟩
  rw [heap_grow_old _ _ (by simpa using hk)]
  have : g ≠ k := fun e => hne e.symm
  simp [putRow, mapBlock, Sort.ahead, Array.getElem?_modify, this]
theorem sortRune_any (b n cap : Nat) (l : List Int) (w : World) (hn : n ≤ 1000000) (hb : b < w.heap.size) (hl : l.length = n) (hH : Holds rV w b 0 l.toArray) :
    Calls Tryd.prog 77 #[.slice (some ⟨b, 0, none⟩) n cap] w fun e w' => e = .returned (.slice (some ⟨b, 0, none⟩) n cap) ∧ ∃ l' : List Int, l'.Perm l ∧ l'.Pairwise (· ≤ ·) ∧ Holds rV w' b 0 l'.toArray ∧ Mod (fun k => k = b) w w' := by
  by_cases h1 : n ≤ 1
  · have hS := Tryd.sort_Sort_tiny (α := Int) 169 (.slice (some ⟨b, 0, none⟩) n cap) 147 (len_reached _ _ _) n h1 w (len_m _ _ _ _)
    have HH := Lib.hid hH
    have HL := Lib.hid hl
    have HN := Lib.hid h1
    clear hH hl h1
    go_enter Tryd.func77, Tryd.ntmps77
    go_wp2_with fail
    refine hS.mono ?_
    rintro e w' ⟨rfl, q, rfl⟩
    go_wp2_with fail
    go_ret
    refine ⟨rfl, l, List.Perm.refl _, ?_, fun j hj => ?_, Mod.of_below (below_draws w q)⟩
    · have h1 := HL.out
      have h2 := HN.out
      match l, h1 with
      | [], _ => exact List.Pairwise.nil
      | [x], _ => exact List.pairwise_singleton _ _
      | x :: y :: r, h1 => simp at h1; omega
    · have := HH.out j hj
      simpa using this
  · obtain rfl : n = l.toArray.size := by simp [hl]
    have hS := Tryd.sort_Sort_sorted 169 (.slice (some ⟨b, 0, none⟩) l.toArray.size cap) 147 148 149 (len_reached _ _ _) (less_reached _ _ _) (swap_reached _ _ _) rV ltInt swo_ltInt
      b 0 l.toArray (by omega) (by omega) w (len_m _ _ _ _) (less_m b 0 cap l.toArray w hH hb (by omega)) (swap_m b 0 cap l.toArray.size (by omega)) hH hb
    have HH := Lib.hid hH
    clear hH h1 hl
    go_enter Tryd.func77, Tryd.ntmps77
    go_wp2_with fail
    refine hS.mono ?_
    rintro e w' ⟨rfl, d', q, os, hP, hSo, rfl⟩
    have HP := Lib.hid hP
    have HS := Lib.hid hSo
    clear hP hSo hS
    go_wp2_with fail
    go_ret
    have hz := HP.out.1
    refine ⟨rfl, d'.toList, ?_, ?_, ?_, mod_sorted d'⟩
    · have h1 := HP.out.2.2
      rw [← hz, Array.extract_size] at h1
      rw [hz, Array.extract_size] at h1
      exact h1
    · rw [List.pairwise_iff_getElem]
      intro i j hi hj hij
      have h1 := HS.out i j (Nat.zero_le _) hij (by simpa [hz] using hj)
      rw [Array.length_toList] at hi hj
      rw [getElem!_pos d' j hj, getElem!_pos d' i hi] at h1
      unfold ltInt at h1
      rw [decide_eq_false_iff_not] at h1
      rw [Array.getElem_toList, Array.getElem_toList]
      omega
    · rw [Array.toArray_toList]
      exact holds_grow _ _ _ _ _ _ (by simpa using hb) (holds_putRow _ _ _ _ l.toArray d' HH.out hz)
end Go.Proofs.YtanimdajohpggaaDoor.Utf0
