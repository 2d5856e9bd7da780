/- Nodes of the builder: made, given arcs, compared; and the same of plain states. Contracts of ZzNode, ZzArc, equiv, Equiv, SameState, RisingArcs. -/
import Derived.Test.YtanimdajohpggaaRows
import Derived.Test.YtanimdajohpggaaLib
import Derived.Deep.QuietTactic
import Derived.BigQuiet
import Derived.WalkLawsBesides
import Derived.WalkSpells
import Derived.Lib.QuietBelow
import Derived.Deep.RegionWith
namespace Go.Proofs.Ytanimdajohpggaa.Node
open Go.ChangeShapes Go.WideShapes Go.ChangeAt Go.RowKit Go.Trav Go.Sort
set_option linter.unusedVariables false

/-- An arc: its byte, its output, where it leads. -/
abbrev Arc := Int × Int × Int
def arcCells (x : Arc) : List Value := [.int .u8 x.1, .int .u64 x.2.1, .int .i64 x.2.2]
theorem arcCells_len (x : Arc) : (arcCells x).length = 3 := rfl
def Arcs (w : World) (v : Value) (n : Nat) (l : List Arc) : Prop := Reads w v n 3 (l.flatMap arcCells)
def stateV (f : Bool) (o : Int) (v : Value) : Value := .agg #[.bool f, .int .u64 o, v]

theorem Arcs.at {w : World} {v : Value} {n : Nat} {l : List Arc} (h : Arcs w v n l) {k : Nat} (hk : k < n) :
    ∃ b off cap i o t, v = .slice (some ⟨b, off, none⟩) n cap ∧ l[k]? = some (i, o, t) ∧ w.cell? ⟨b, off + k * 3, none⟩ = some (.int .u8 i) ∧ w.cell? ⟨b, off + k * 3 + 1, none⟩ = some (.int .u64 o) ∧ w.cell? ⟨b, off + k * 3 + 2, none⟩ = some (.int .i64 t) := by
  obtain ⟨b, off, cap, ⟨i, o, t⟩, rfl, e, hc⟩ := Reads.rec arcCells arcCells_len h (by omega) hk
  exact ⟨b, off, cap, i, o, t, rfl, e, hc 0 _ rfl, hc 1 _ rfl, hc 2 _ rfl⟩

theorem fits9 (f : Bool) (o : Int) (a : Option Addr) (n c : Nat) (w : World) :
    Calls Try.prog 28 #[.agg #[.bool f, .int .u64 o, .slice a n c]] w fun e w' => e = .returned (.bool (decide (n ≤ 2147483647))) ∧ Below w.heap.size w w' := by
  by_cases h : n ≤ 2147483647
  · have H : Hid (decide (n ≤ 2147483647) = true) := Lib.hid (by simpa using h)
    go_enter Try.func28, Try.ntmps28
    go_wp2
    go_ret
    exact ⟨by rw [H.out]; rfl, (Below.refl _ _).alloc (Nat.le_refl _) _⟩
  · have H : Hid (decide (n ≤ 2147483647) = false) := Lib.hid (by simpa using h)
    go_enter Try.func28, Try.ntmps28
    go_wp2
    go_ret
    exact ⟨by rw [H.out]; rfl, (Below.refl _ _).alloc (Nat.le_refl _) _⟩

/-- Arcs rise by their bytes. -/
def risingB (l : List Arc) : Bool := decide (∀ k, k < l.length → 1 ≤ k → (l[k-1]?.getD (0, 0, 0)).1 < (l[k]?.getD (0, 0, 0)).1)
theorem risingB_no {l : List Arc} {k : Nat} {i o t i' o' t' : Int} (h1 : l[k]? = some (i, o, t)) (h2 : l[k+1]? = some (i', o', t')) (h : i' ≤ i) : risingB l = false := by
  unfold risingB
  rw [decide_eq_false_iff_not]
  intro H
  have := H (k+1) (List.getElem?_eq_some_iff.1 h2).1 (by omega)
  rw [h2, Nat.add_sub_cancel, h1] at this
  simp at this
  omega
theorem rising_any (f : Bool) (o : Int) (v : Value) (n : Nat) (l : List Arc) (w : World) (h : Arcs w v n l) :
    Calls Try.prog 9 #[.agg #[.bool f, .int .u64 o, v]] w fun e w' => e = .returned (.bool (risingB l)) ∧ Below w.heap.size w w' := by
  have hbd := h.bound
  have hlen : Hid (l.length = n) := Lib.hid (Reads.recs arcCells arcCells_len h (by omega))
  obtain ⟨ao, cap, rfl⟩ := h.form
  go_enter Try.func9, Try.ntmps9
  go_wp2
  go_loopw [3] (fun i wr => ∃ k : Nat, i = .int .i64 k ∧ (1 ≤ k ∧ k ≤ n + 1) ∧ Below w.heap.size w wr ∧ wr.cell? ⟨w.heap.size, 2, none⟩ = some (.slice ao n cap) ∧ Hid (∀ j, j < k → j < n → 1 ≤ j → (l[j-1]?.getD (0, 0, 0)).1 < (l[j]?.getD (0, 0, 0)).1)) (fun i _ => n + 1 - (intOf i).toNat)
  case atStart => exact ⟨1, rfl, by omega, (Below.refl _ _).alloc (Nat.le_refl _) _, by go_simp, Lib.hid (fun j h1 h2 h3 => by omega)⟩
  case round =>
    obtain ⟨k, rfl, ⟨hk1, hk2⟩, hbw, hcell, HJ⟩ := hrel
    by_cases hlt : k < n
    · obtain ⟨b, off, _, i1, o1, t1, hx, e1, c10, c11, c12⟩ := Arcs.at (h.below hbw) hlt
      obtain ⟨b', off', _, i0, o0, t0, hx', e0, c00, c01, c02⟩ := Arcs.at (h.below hbw) (show k - 1 < n by omega)
      cases hx; cases hx'
      obtain ⟨k, rfl⟩ : ∃ m, k = m + 1 := ⟨k - 1, by omega⟩
      have E1 := Lib.hid e1
      have E0 := Lib.hid e0
      rw [Nat.add_sub_cancel] at c00 E0
      clear e1 e0 c11 c12 c01 c02
      by_cases c : i1 ≤ i0
      · have HN : Hid (risingB l = false) := Lib.hid (risingB_no E0.out E1.out c)
        go_wp2
        go_quiet (fail)
        go_wp2
        go_ret
        exact ⟨by rw [HN.out]; rfl, below_drewN hbw _⟩
      · have cb : decide (i1 ≤ i0) = false := by simpa using c
        have HK : Hid (∀ j, j < k + 1 + 1 → j < n → 1 ≤ j → (l[j-1]?.getD (0, 0, 0)).1 < (l[j]?.getD (0, 0, 0)).1) := Lib.hid (by
          intro j h1 h2 h3
          by_cases e : j = k + 1
          · subst e
            rw [Nat.add_sub_cancel, E0.out, E1.out]
            simp
            omega
          · exact HJ.out j (by omega) h2 h3)
        go_wp2
        go_quiet (fail)
        go_wp2
        go_roundw
        case rel => exact ⟨k + 1 + 1, by go_num, by omega, below_drewN hbw _, by go_simp, HK⟩
        case measure => simp [intOf]; omega
    · have HN : Hid (risingB l = true) := Lib.hid (by
        unfold risingB
        rw [decide_eq_true_iff]
        intro j h1 h2
        rw [hlen.out] at h1
        exact HJ.out j (by omega) h1 h2)
      go_wp2
      go_ret
      exact ⟨by rw [HN.out]; rfl, hbw⟩

/-- Two states are the same. -/
def sameB (f f' : Bool) (o o' : Int) (l l' : List Arc) : Bool := decide (f = f' ∧ o = o' ∧ l = l')
theorem take_ne {l l' : List Arc} {k : Nat} {x y : Arc} (h : l[k]? = some x) (h' : l'[k]? = some y) (hn : x ≠ y) : l ≠ l' := by
  intro e; subst e; rw [h] at h'; cases h'; exact hn rfl
theorem same_any (f f' : Bool) (o o' : Int) (v v' : Value) (n n' : Nat) (l l' : List Arc) (w : World) (h : Arcs w v n l) (h' : Arcs w v' n' l') :
    Calls Try.prog 11 #[.agg #[.bool f, .int .u64 o, v], .agg #[.bool f', .int .u64 o', v']] w fun e w' => e = .returned (.bool (sameB f f' o o' l l')) ∧ Below w.heap.size w w' := by
  have hbd := h.bound
  have hbd' := h'.bound
  have hlen : Hid (l.length = n) := Lib.hid (Reads.recs arcCells arcCells_len h (by omega))
  have hlen' : Hid (l'.length = n') := Lib.hid (Reads.recs arcCells arcCells_len h' (by omega))
  obtain ⟨ao, cap, rfl⟩ := h.form
  obtain ⟨ao', cap', rfl⟩ := h'.form
  by_cases c1 : f = f'
  · by_cases c2 : o = o'
    · by_cases c3 : n = n'
      · subst c1 c2 c3
        have c1b : (!f == f) = false := by simp
        have c2b : (o != o) = false := by simp
        have c3b : ((n : Int) != n) = false := by simp
        go_enter Try.func11, Try.ntmps11
        go_wp2
        go_loopw [5] (fun i wr => ∃ k : Nat, i = .int .i64 k ∧ (k ≤ n) ∧ Below w.heap.size w wr ∧ wr.cell? ⟨w.heap.size, 2, none⟩ = some (.slice ao n cap) ∧ wr.cell? ⟨w.heap.size + 1, 2, none⟩ = some (.slice ao' n cap') ∧ Hid (l.take k = l'.take k)) (fun i _ => n - (intOf i).toNat)
        case atStart => exact ⟨0, rfl, by omega, ((Below.refl _ _).alloc (Nat.le_refl _) _).alloc (by simp) _, by go_simp, by go_simp, Lib.hid (by simp)⟩
        case round =>
          obtain ⟨k, rfl, hk, hbw, hcell, hcell', HJ⟩ := hrel
          by_cases hlt : k < n
          · obtain ⟨b, off, _, i1, o1, t1, hx, e1, c10, c11, c12⟩ := Arcs.at (h.below hbw) hlt
            obtain ⟨b', off', _, i0, o0, t0, hx', e0, c00, c01, c02⟩ := Arcs.at (h'.below hbw) hlt
            cases hx; cases hx'
            have E1 := Lib.hid e1
            have E0 := Lib.hid e0
            clear e1 e0
            by_cases d1 : i1 = i0
            · by_cases d2 : o1 = o0
              · by_cases d3 : t1 = t0
                · subst d1 d2 d3
                  have q1 : (i1 != i1) = false := by simp
                  have q2 : (o1 != o1) = false := by simp
                  have q3 : (t1 != t1) = false := by simp
                  have HK : Hid (l.take (k + 1) = l'.take (k + 1)) := Lib.hid (by rw [take_snoc' _ _ _ E1.out, take_snoc' _ _ _ E0.out, HJ.out])
                  go_wp2
                  go_quiet (fail)
                  go_wp2
                  go_roundw
                  case rel => exact ⟨k + 1, by go_num, by omega, below_drewN hbw _, by go_simp, by go_simp, HK⟩
                  case measure => simp [intOf]; omega
                · subst d1 d2
                  have q1 : (i1 != i1) = false := by simp
                  have q2 : (o1 != o1) = false := by simp
                  have q3 : (t1 != t0) = true := by simpa using d3
                  have HN : Hid (sameB f f o o l l' = false) := Lib.hid (by simp [sameB, take_ne E1.out E0.out (by simp [d3])])
                  clear d3
                  go_wp2
                  go_quiet (fail)
                  go_wp2
                  go_ret
                  exact ⟨by rw [HN.out]; rfl, below_drewN hbw _⟩
              · subst d1
                have q1 : (i1 != i1) = false := by simp
                have q2 : (o1 != o0) = true := by simpa using d2
                have HN : Hid (sameB f f o o l l' = false) := Lib.hid (by simp [sameB, take_ne E1.out E0.out (by simp [d2])])
                clear d2
                go_wp2
                go_quiet (fail)
                go_wp2
                go_ret
                exact ⟨by rw [HN.out]; rfl, below_drewN hbw _⟩
            · have q1 : (i1 != i0) = true := by simpa using d1
              have HN : Hid (sameB f f o o l l' = false) := Lib.hid (by simp [sameB, take_ne E1.out E0.out (by simp [d1])])
              clear d1
              go_wp2
              go_quiet (fail)
              go_wp2
              go_ret
              exact ⟨by rw [HN.out]; rfl, below_drewN hbw _⟩
          · have HN : Hid (sameB f f o o l l' = true) := Lib.hid (by
              have e := HJ.out
              rw [List.take_of_length_le (by rw [hlen.out]; omega), List.take_of_length_le (by rw [hlen'.out]; omega)] at e
              simp [sameB, e])
            go_wp2
            go_ret
            exact ⟨by rw [HN.out]; rfl, hbw⟩
      · subst c1 c2
        have c1b : (!f == f) = false := by simp
        have c2b : (o != o) = false := by simp
        have c3b : ((n : Int) != n') = true := by simp; omega
        have HN : Hid (sameB f f o o l l' = false) := Lib.hid (by
          have : l ≠ l' := by intro e; apply c3; rw [← hlen.out, ← hlen'.out, e]
          simp [sameB, this])
        go_enter Try.func11, Try.ntmps11
        go_wp2
        go_ret
        exact ⟨by rw [HN.out]; rfl, ((Below.refl _ _).alloc (Nat.le_refl _) _).alloc (by simp) _⟩
    · subst c1
      have c1b : (!f == f) = false := by simp
      have c2b : (o != o') = true := by simpa using c2
      have HN : Hid (sameB f f o o' l l' = false) := Lib.hid (by simp [sameB, c2])
      clear c2
      go_enter Try.func11, Try.ntmps11
      go_wp2
      go_ret
      exact ⟨by rw [HN.out]; rfl, ((Below.refl _ _).alloc (Nat.le_refl _) _).alloc (by simp) _⟩
  · have HN : Hid (sameB f f' o o' l l' = false) := Lib.hid (by simp [sameB, c1])
    cases f <;> cases f' <;> simp at c1
    all_goals
      go_enter Try.func11, Try.ntmps11
      go_wp2
      go_ret
      exact ⟨by rw [HN.out]; rfl, ((Below.refl _ _).alloc (Nat.le_refl _) _).alloc (by simp) _⟩

end Go.Proofs.Ytanimdajohpggaa.Node
