/- builderNode.equiv, its contract. -/
import Derived.Test.YtanimdajohpggaaNode
namespace Go.Proofs.Ytanimdajohpggaa.Node
open Go.ChangeShapes Go.WideShapes Go.ChangeAt Go.RowKit Go.Trav Go.Sort
set_option linter.unusedVariables false
theorem equiv_any (B B' : Nat) (v v' : Value) (f f' : Bool) (o o' : Int) (l l' : List Arc) (w : World) (h : NodeAt w B v f o l) (h' : NodeAt w B' v' f' o' l') :
    Calls Try.prog 68 #[.pointer (some ⟨B, 0, none⟩), .pointer (some ⟨B', 0, none⟩)] w fun e w' => e = .returned (.bool (sameB f f' o o' l l')) ∧ Below w.heap.size w w' := by
  obtain ⟨nx, hb, hr⟩ := h.at
  obtain ⟨nx', hb', hr'⟩ := h'.at
  have hbd := hr.bound
  have hbd' := hr'.bound
  obtain ⟨ao, cap, rfl⟩ := hr.form
  obtain ⟨ao', cap', rfl⟩ := hr'.form
  have x0 : w.cell? ⟨B, 0, none⟩ = some (.int .u64 o) := block_cell hb rfl
  have x1 : w.cell? ⟨B, 1, none⟩ = some (.slice ao l.length cap) := block_cell hb rfl
  have x2 : w.cell? ⟨B, 2, none⟩ = some (.bool f) := block_cell hb rfl
  have y0 : w.cell? ⟨B', 0, none⟩ = some (.int .u64 o') := block_cell hb' rfl
  have y1 : w.cell? ⟨B', 1, none⟩ = some (.slice ao' l'.length cap') := block_cell hb' rfl
  have y2 : w.cell? ⟨B', 2, none⟩ = some (.bool f') := block_cell hb' rfl
  clear hb hb'
  by_cases c1 : f = f'
  · by_cases c2 : o = o'
    · by_cases c3 : l.length = l'.length
      · subst c1 c2
        have c1b : (!f == f) = false := by simp
        have c2b : (o != o) = false := by simp
        have c3b : ((l.length : Int) != l'.length) = false := by simp [c3]
        have C3 := Lib.hid c3
        clear c3
        go_enter Try.func68, Try.ntmps68
        go_wp2
        go_quiet (fail)
        go_wp2
        go_quiet (fail)
        go_wp2
        go_quiet (fail)
        go_wp2
        go_loopw [42] (fun i wr => ∃ k : Nat, i = .int .i64 k ∧ (k ≤ l.length) ∧ Below w.heap.size w wr ∧ Hid (l.take k = l'.take k)) (fun i _ => l.length - (intOf i).toNat)
        case atStart => exact ⟨0, rfl, by omega, below_draws _ _, Lib.hid (by simp)⟩
        case round =>
          obtain ⟨k, rfl, hk, hbw, HJ⟩ := hrel
          by_cases hlt : k < l.length
          · have hkl : k < l'.length := by have := C3.out; omega
            obtain ⟨b, off, _, i1, o1, t1, hx, e1, c10, c11, c12⟩ := trns_at (hr.below hbw) hlt
            obtain ⟨b', off', _, i0, o0, t0, hx', e0, c00, c01, c02⟩ := trns_at (hr'.below hbw) hkl
            cases hx; cases hx'
            have E1 := Lib.hid e1
            have E0 := Lib.hid e0
            clear e1 e0
            have z1 : wr.cell? ⟨B', 1, none⟩ = some (.slice (some ⟨b', off', none⟩) l'.length cap') := by rw [hbw.cell (World.block_lt_of_cell? w _ y1)]; exact y1
            have lt1 : B' < wr.heap.size := World.block_lt_of_cell? wr _ z1
            have lt2 : b' < wr.heap.size := World.block_lt_of_cell? wr _ c00
            have lt3 : b < wr.heap.size := World.block_lt_of_cell? wr _ c10
            by_cases d1 : i1 = i0
            · by_cases d2 : t1 = t0
              · by_cases d3 : o1 = o0
                · subst d1 d2 d3
                  have q1 : (i1 != i1) = false := by simp
                  have q2 : (o1 != o1) = false := by simp
                  have q3 : (t1 != t1) = false := by simp
                  have HK : Hid (l.take (k + 1) = l'.take (k + 1)) := Lib.hid (by rw [take_snoc' _ _ _ E1.out, take_snoc' _ _ _ E0.out, HJ.out])
                  go_wp2
                  go_roundw
                  case rel => exact ⟨k + 1, by go_num, by omega, (hbw.alloc hbw.size _).alloc (by have := hbw.size; simp; omega) _, HK⟩
                  case measure => simp [intOf]; omega
                · subst d1 d2
                  have q1 : (i1 != i1) = false := by simp
                  have q2 : (o1 != o0) = true := by simpa using d3
                  have q3 : (t1 != t1) = false := by simp
                  have HN : Hid (sameB f f o o l l' = false) := Lib.hid (by simp [sameB, take_ne E1.out E0.out (by simp [d3])])
                  clear d3
                  go_wp2
                  go_ret
                  exact ⟨by rw [HN.out]; rfl, (hbw.alloc hbw.size _).alloc (by have := hbw.size; simp; omega) _⟩
              · subst d1
                have q1 : (i1 != i1) = false := by simp
                have q2 : (t1 != t0) = true := by simpa using d2
                have HN : Hid (sameB f f o o l l' = false) := Lib.hid (by simp [sameB, take_ne E1.out E0.out (by simp [d2])])
                clear d2
                go_wp2
                go_ret
                exact ⟨by rw [HN.out]; rfl, (hbw.alloc hbw.size _).alloc (by have := hbw.size; simp; omega) _⟩
            · have q1 : (i1 != i0) = true := by simpa using d1
              have HN : Hid (sameB f f o o l l' = false) := Lib.hid (by simp [sameB, take_ne E1.out E0.out (by simp [d1])])
              clear d1
              go_wp2
              go_ret
              exact ⟨by rw [HN.out]; rfl, (hbw.alloc hbw.size _).alloc (by have := hbw.size; simp; omega) _⟩
          · have HN : Hid (sameB f f o o l l' = true) := Lib.hid (by
              have e := HJ.out
              rw [List.take_of_length_le (by omega), List.take_of_length_le (by have := C3.out; omega)] at e
              simp [sameB, e])
            go_wp2
            go_ret
            exact ⟨by rw [HN.out]; rfl, hbw⟩
      · subst c1 c2
        have c1b : (!f == f) = false := by simp
        have c2b : (o != o) = false := by simp
        have c3b : ((l.length : Int) != l'.length) = true := by simp; omega
        have HN : Hid (sameB f f o o l l' = false) := Lib.hid (by
          have : l ≠ l' := by intro e; apply c3; rw [e]
          simp [sameB, this])
        go_enter Try.func68, Try.ntmps68
        go_wp2
        go_quiet (fail)
        go_wp2
        go_quiet (fail)
        go_wp2
        go_quiet (fail)
        go_wp2
        go_ret
        exact ⟨by rw [HN.out]; rfl, by repeat (first | exact below_draws _ _ | apply below_drewN)⟩
    · subst c1
      have c1b : (!f == f) = false := by simp
      have c2b : (o != o') = true := by simpa using c2
      have HN : Hid (sameB f f o o' l l' = false) := Lib.hid (by simp [sameB, c2])
      clear c2
      go_enter Try.func68, Try.ntmps68
      go_wp2
      go_quiet (fail)
      go_wp2
      go_quiet (fail)
      go_wp2
      go_ret
      exact ⟨by rw [HN.out]; rfl, by repeat (first | exact below_draws _ _ | apply below_drewN)⟩
  · have HN : Hid (sameB f f' o o' l l' = false) := Lib.hid (by simp [sameB, c1])
    cases f <;> cases f' <;> simp at c1
    all_goals
      go_enter Try.func68, Try.ntmps68
      go_wp2
      go_quiet (fail)
      go_wp2
      go_ret
      exact ⟨by rw [HN.out]; rfl, below_draws _ _⟩
end Go.Proofs.Ytanimdajohpggaa.Node
