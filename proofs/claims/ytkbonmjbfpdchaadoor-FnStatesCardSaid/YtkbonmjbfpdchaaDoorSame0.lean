/- spec.SameState. -/
import Derived.Test.YtkbonmjbfpdchaaDoorArc0
import Derived.Test.YtkbonmjbfpdchaaDoorRows
import Derived.Test.YtkbonmjbfpdchaaDoorLib
import Derived.Deep.QuietTactic
import Derived.BigQuiet
import Derived.WalkLawsBesides
import Derived.WalkSpells
import Derived.Lib.QuietBelow
import Derived.Deep.RegionWith
namespace Go.Proofs.YtkbonmjbfpdchaaDoor.Node
open Go.ChangeShapes Go.WideShapes Go.ChangeAt Go.RowKit Go.Trav Go.Sort
set_option linter.unusedVariables false
set_option linter.unusedSimpArgs false

def sameB (f f' : Bool) (o o' : Int) (l l' : List Arc) : Bool := decide (f = f' ∧ o = o' ∧ l = l')
theorem take_ne {l l' : List Arc} {k : Nat} {x y : Arc} (h : l[k]? = some x) (h' : l'[k]? = some y) (hn : x ≠ y) : l ≠ l' := by
  intro e; subst e; rw [h] at h'; cases h'; exact hn rfl
theorem same_any (f f' : Bool) (o o' : Int) (v v' : Value) (n n' : Nat) (l l' : List Arc) (w : World) (h : Arcs w v n l) (h' : Arcs w v' n' l') :
    Calls Tryd.prog 8 #[.agg #[.bool f, .int .u64 o, v], .agg #[.bool f', .int .u64 o', v']] w fun e w' => e = .returned (.bool (sameB f f' o o' l l')) ∧ Below w.heap.size w w' := by
  have hbd := h.bound
  have hbd' := h'.bound
  have hlen : Hid (l.length = n) := Lib.hid (Reads.recs arcCells arcCells_len h (by omega))
  have hlen' : Hid (l'.length = n') := Lib.hid (Reads.recs arcCells arcCells_len h' (by omega))
  obtain ⟨ao, cap, rfl⟩ := h.form
  obtain ⟨ao', cap', rfl⟩ := h'.form
  by_cases c1 : f = f'
  · by_cases c2 : o = o'
    · by_cases c3 : n = n'
      · subst c1 c2 c3
        have c1b : (!f == f) = false := by simp
        have c2b : (o != o) = false := by simp
        have c3b : ((n : Int) != n) = false := by simp
        go_enter Tryd.func8, Tryd.ntmps8
        go_wp2
        go_loopw [5] (fun i wr => ∃ k : Nat, i = .int .i64 k ∧ (k ≤ n) ∧ Below w.heap.size w wr ∧ wr.cell? ⟨w.heap.size, 2, none⟩ = some (.slice ao n cap) ∧ wr.cell? ⟨w.heap.size + 1, 2, none⟩ = some (.slice ao' n cap') ∧ Hid (l.take k = l'.take k)) (fun i _ => n - (intOf i).toNat)
        case atStart => exact ⟨0, rfl, by omega, ((Below.refl _ _).alloc (Nat.le_refl _) _).alloc (by simp) _, by go_simp, by go_simp, Lib.hid (by simp)⟩
        case round =>
          obtain ⟨k, rfl, hk, hbw, hcell, hcell', HJ⟩ := hrel
          by_cases hlt : k < n
          · obtain ⟨b, off, _, i1, o1, t1, hx, e1, c10, c11, c12⟩ := Arcs.at (h.below hbw) hlt
            obtain ⟨b', off', _, i0, o0, t0, hx', e0, c00, c01, c02⟩ := Arcs.at (h'.below hbw) hlt
            cases hx; cases hx'
            have E1 := Lib.hid e1
            have E0 := Lib.hid e0
            clear e1 e0
            by_cases d1 : i1 = i0
            · by_cases d2 : o1 = o0
              · by_cases d3 : t1 = t0
                · subst d1 d2 d3
                  have q1 : (i1 != i1) = false := by simp
                  have q2 : (o1 != o1) = false := by simp
                  have q3 : (t1 != t1) = false := by simp
                  have HK : Hid (l.take (k + 1) = l'.take (k + 1)) := Lib.hid (by rw [take_snoc' _ _ _ E1.out, take_snoc' _ _ _ E0.out, HJ.out])
                  go_wp2
                  go_quiet (fail)
                  go_wp2
                  go_roundw
                  case rel => exact ⟨k + 1, by go_num, by omega, below_drewN hbw _, by go_simp, by go_simp, HK⟩
                  case measure => simp [intOf]; omega
                · subst d1 d2
                  have q1 : (i1 != i1) = false := by simp
                  have q2 : (o1 != o1) = false := by simp
                  have q3 : (t1 != t0) = true := by simpa using d3
                  have HN : Hid (sameB f f o o l l' = false) := Lib.hid (by simp [sameB, take_ne E1.out E0.out (by simp [d3])])
                  clear d3
                  go_wp2
                  go_quiet (fail)
                  go_wp2
                  go_ret
                  exact ⟨by rw [HN.out]; rfl, below_drewN hbw _⟩
              · subst d1
                have q1 : (i1 != i1) = false := by simp
                have q2 : (o1 != o0) = true := by simpa using d2
                have HN : Hid (sameB f f o o l l' = false) := Lib.hid (by simp [sameB, take_ne E1.out E0.out (by simp [d2])])
                clear d2
                go_wp2
                go_quiet (fail)
                go_wp2
                go_ret
                exact ⟨by rw [HN.out]; rfl, below_drewN hbw _⟩
            · have q1 : (i1 != i0) = true := by simpa using d1
              have HN : Hid (sameB f f o o l l' = false) := Lib.hid (by simp [sameB, take_ne E1.out E0.out (by simp [d1])])
              clear d1
              go_wp2
              go_quiet (fail)
              go_wp2
              go_ret
              exact ⟨by rw [HN.out]; rfl, below_drewN hbw _⟩
          · have HN : Hid (sameB f f o o l l' = true) := Lib.hid (by
              have e := HJ.out
              rw [List.take_of_length_le (by rw [hlen.out]; omega), List.take_of_length_le (by rw [hlen'.out]; omega)] at e
              simp [sameB, e])
            go_wp2
            go_ret
            exact ⟨by rw [HN.out]; rfl, hbw⟩
      · subst c1 c2
        have c1b : (!f == f) = false := by simp
        have c2b : (o != o) = false := by simp
        have c3b : ((n : Int) != n') = true := by simp; omega
        have HN : Hid (sameB f f o o l l' = false) := Lib.hid (by
          have : l ≠ l' := by intro e; apply c3; rw [← hlen.out, ← hlen'.out, e]
          simp [sameB, this])
        go_enter Tryd.func8, Tryd.ntmps8
        go_wp2
        go_ret
        exact ⟨by rw [HN.out]; rfl, ((Below.refl _ _).alloc (Nat.le_refl _) _).alloc (by simp) _⟩
    · subst c1
      have c1b : (!f == f) = false := by simp
      have c2b : (o != o') = true := by simpa using c2
      have HN : Hid (sameB f f o o' l l' = false) := Lib.hid (by simp [sameB, c2])
      clear c2
      go_enter Tryd.func8, Tryd.ntmps8
      go_wp2
      go_ret
      exact ⟨by rw [HN.out]; rfl, ((Below.refl _ _).alloc (Nat.le_refl _) _).alloc (by simp) _⟩
  · have HN : Hid (sameB f f' o o' l l' = false) := Lib.hid (by simp [sameB, c1])
    cases f <;> cases f' <;> simp at c1
    all_goals
      go_enter Tryd.func8, Tryd.ntmps8
      go_wp2
      go_ret
      exact ⟨by rw [HN.out]; rfl, ((Below.refl _ _).alloc (Nat.le_refl _) _).alloc (by simp) _⟩

end Go.Proofs.YtkbonmjbfpdchaaDoor.Node
