/- sort.Sort of at most twelve places: they lie sorted then. -/
import Derived.Test.YtnfagjemhbgfkaaDoorNfa0
import Derived.Test.YtnfagjemhbgfkaaDoorMxP
namespace Go.Proofs.YtnfagjemhbgfkaaDoor.Nfa
open Go.ChangeShapes Go.WideShapes Go.ChangeAt Go.RowKit Go.Trav Go.Nor Go.Proofs.YtnfagjemhbgfkaaDoor.Srt
set_option linter.unusedVariables false
set_option linter.unusedSimpArgs false
set_option maxRecDepth 100000
set_option maxHeartbeats 4000000 in
theorem lessx_any (B n c : Nat) (T : TypeId) (S : List Plc) (rest : List Value) (i j : Nat) (x y : Plc) (w : World) (h : w.heap[B]? = some (.cells (S.flatMap pC ++ rest).toArray T (0, 0))) (hx : S[i]? = some x) (hy : S[j]? = some y) (hi : i < n) (hj : j < n) (hn : n ≤ 1000000) :
    Calls Tryd.prog 73 #[.slice (some ⟨B, 0, none⟩) n c, .int .i64 i, .int .i64 j] w fun e w' => e = .returned (.bool (lt x y)) ∧ Below w.heap.size w w' := by
  obtain ⟨xo, xd, xt⟩ := x
  obtain ⟨yo, yd, yt⟩ := y
  obtain ⟨⟨c0, c1, c2⟩, -⟩ := row_at h hx
  obtain ⟨⟨d0, d1, d2⟩, -⟩ := row_at h hy
  simp only at c0 c1 c2 d0 d1 d2
  clear h hx hy
  by_cases h1 : xo = yo
  · have h1z : (((xo : Nat) : Int) != ((yo : Nat) : Int)) = false := by simp [h1]
    by_cases h2 : xd = yd
    · have h2z : (((xd : Nat) : Int) != ((yd : Nat) : Int)) = false := by simp [h2]
      have hlt : lt ⟨xo, xd, xt⟩ ⟨yo, yd, yt⟩ = (!xt && yt) := by simp [lt, h1, h2]
      rw [hlt]
      clear hlt h1 h2
      go_enter Tryd.func73, Tryd.ntmps73
      cases xt
      all_goals
        go_wp2
        go_quiet (fail)
        go_wp2
        go_quiet (fail)
        go_wp2
        go_ret
        exact ⟨by simp, by repeat (first | exact Below.refl _ _ | refine below_drewN ?_ _)⟩
    · have h2z : (((xd : Nat) : Int) != ((yd : Nat) : Int)) = true := by simp; omega
      have hlt : lt ⟨xo, xd, xt⟩ ⟨yo, yd, yt⟩ = decide (xd < yd) := by simp [lt, h1, h2]
      rw [hlt]
      clear hlt h1 h2
      go_enter Tryd.func73, Tryd.ntmps73
      go_wp2
      go_quiet (fail)
      go_wp2
      go_quiet (fail)
      go_wp2
      go_quiet (fail)
      go_wp2
      go_ret
      exact ⟨rfl, by repeat (first | exact Below.refl _ _ | refine below_drewN ?_ _)⟩
  · have h1z : (((xo : Nat) : Int) != ((yo : Nat) : Int)) = true := by simp; omega
    have hlt : lt ⟨xo, xd, xt⟩ ⟨yo, yd, yt⟩ = decide (xo < yo) := by simp [lt, h1]
    rw [hlt]
    clear hlt h1
    go_enter Tryd.func73, Tryd.ntmps73
    go_wp2
    go_quiet (fail)
    go_wp2
    go_quiet (fail)
    go_wp2
    go_ret
    exact ⟨rfl, by repeat (first | exact Below.refl _ _ | refine below_drewN ?_ _)⟩
/-- The row, and what else stays. -/
def RowX (B : Nat) (rest : List Value) (w0 w : World) (L : List Plc) : Prop := w.heap[B]? = some (.cells (L.flatMap pC ++ rest).toArray 71 (0, 0)) ∧ Mod (fun k => k = B) w0 w
theorem RowX.below {B : Nat} {rest : List Value} {w0 w w' : World} {L : List Plc} (h : RowX B rest w0 w L) (hb : Below w.heap.size w w') : RowX B rest w0 w' L :=
  ⟨block_below h.1 hb (block_lt h.1), h.2.below hb⟩
set_option maxHeartbeats 4000000 in
/-- Swap, to the place. -/
theorem swapx_any (B n c : Nat) (S : List Plc) (rest : List Value) (i j : Nat) (x y : Plc) (w0 w : World) (h : RowX B rest w0 w S) (hS : S.length = n) (hix : S[i]? = some x) (hjx : S[j]? = some y) (hi : i < n) (hj : j < n) (hij : i ≠ j) (hn : n ≤ 1000000) :
    Calls Tryd.prog 74 #[.slice (some ⟨B, 0, none⟩) n c, .int .i64 i, .int .i64 j] w fun e w' => e = .returned (.tuple #[]) ∧ RowX B rest w0 w' ((S.set i y).set j x) := by
  obtain ⟨⟨c0, c1, c2⟩, f0, f1, f2⟩ := row_at h.1 hix
  obtain ⟨⟨d0, d1, d2⟩, g0, g1, g2⟩ := row_at h.1 hjx
  obtain ⟨z, hz⟩ : ∃ z, (S.set i y)[j]? = some z := ⟨_, List.getElem?_eq_getElem (by rw [List.length_set]; omega)⟩
  have fin : Hid (RowX B rest w0 (((((((w.setCell ⟨B, i * 3, none⟩ (.int .u32 (y.o : Nat))).setCell ⟨B, i * 3 + 1, none⟩ (.int .u8 (y.d : Nat))).setCell ⟨B, i * 3 + 2, none⟩ (.bool y.t)).setCell ⟨B, j * 3, none⟩ (.int .u32 (x.o : Nat))).setCell ⟨B, j * 3 + 1, none⟩ (.int .u8 (x.d : Nat))).setCell ⟨B, j * 3 + 2, none⟩ (.bool x.t)).drewN 1) ((S.set i y).set j x)) := by
    refine Lib.hid ⟨row_set (row_set h.1 hix y) hz x, h.2.trans ?_⟩
    exact (((((((Mod.refl (fun k => k = B) w).setCell (p := ⟨B, i * 3, none⟩) (fun _ => rfl) _).setCell (p := ⟨B, i * 3 + 1, none⟩) (fun _ => rfl) _).setCell (p := ⟨B, i * 3 + 2, none⟩) (fun _ => rfl) _).setCell (p := ⟨B, j * 3, none⟩) (fun _ => rfl) _).setCell (p := ⟨B, j * 3 + 1, none⟩) (fun _ => rfl) _).setCell (p := ⟨B, j * 3 + 2, none⟩) (fun _ => rfl) _).drewN 1
  clear h hix hjx hz hS
  go_enter Tryd.func74, Tryd.ntmps74
  go_wp2
  go_region
  all_goals (try go_wp2)
  all_goals go_end0
  exact ⟨rfl, fin.out⟩
theorem swap_perm {S : List Plc} {i j : Nat} {x y : Plc} (hi : S[i]? = some x) (hj : S[j]? = some y) : ((S.set i y).set j x).Perm S := by
  obtain ⟨h1, e1⟩ := List.getElem?_eq_some_iff.1 hi
  obtain ⟨h2, e2⟩ := List.getElem?_eq_some_iff.1 hj
  have := @List.set_set_perm _ S i j h1 h2
  rwa [e1, e2] at this
set_option maxHeartbeats 4000000 in
theorem insx_any (B n c : Nat) (S : List Plc) (rest : List Value) (w0 w : World) (h : RowX B rest w0 w S) (hS : S.length = n) (hn : n ≤ 12) :
    Calls Tryd.prog 37 #[.iface 75 (.slice (some ⟨B, 0, none⟩) n c), .int .i64 0, .int .i64 n] w fun e w' => e = .returned (.tuple #[]) ∧ ∃ L : List Plc, L.Perm S ∧ Upto L n ∧ RowX B rest w0 w' L := by
  have mL := less_reached (some ⟨B, 0, none⟩) n c
  have mS := swap_reached (some ⟨B, 0, none⟩) n c
  have eL : ∀ args w, (callFunc 73 args).run Tryd.prog w = .ok (.enter 73 args) w := enters_of Tryd.func73 (by kernel_rfl) rfl
  have eS : ∀ args w, (callFunc 74 args).run Tryd.prog w = .ok (.enter 74 args) w := enters_of Tryd.func74 (by kernel_rfl) rfl
  have HR := Lib.hid h
  have HN := Lib.hid hS
  clear h hS
  go_enter Tryd.func37, Tryd.ntmps37
  go_wp2_with fail
  go_loopw [6] (fun iv wr => ∃ (i : Nat) (L : List Plc), iv = .int .i64 i ∧ 1 ≤ i ∧ i ≤ n + 1 ∧ Hid (L.Perm S) ∧ Hid (Upto L (min i n)) ∧ Hid (RowX B rest w0 wr L)) (fun iv _ => n + 1 - (intOf iv).toNat)
  case atStart => exact ⟨1, S, rfl, Nat.le_refl _, by omega, Lib.hid (List.Perm.refl _), Lib.hid (fun p q x y h1 h2 => by omega), HR⟩
  case round =>
    obtain ⟨i, L, rfl, h1, h2, HP, HU, HX⟩ := hrel
    rename World => wr
    by_cases hin : i < n
    · have HU2 : Hid (But L i i) := Lib.hid (But.start (by have := HU.out; rw [Nat.min_eq_left (by omega)] at this; exact this))
      go_wp2_with fail
      go_loopw [7] (fun jv wq => ∃ (j : Nat) (K : List Plc), jv = .int .i64 j ∧ j ≤ i ∧ Hid (K.Perm S) ∧ Hid (But K i j) ∧ Hid (RowX B rest w0 wq K)) (fun jv _ => (intOf jv).toNat)
      case atStart => exact ⟨i, L, rfl, Nat.le_refl _, HP, HU2, HX⟩
      case round =>
        clear HU2
        obtain ⟨j, K, rfl, h3, HPK, HBK, HXK⟩ := hrel
        rename World => wq
        have hKl : K.length = n := by rw [HPK.out.length_eq]; exact HN.out
        by_cases hj0 : 0 < j
        · have hj0z : (0 : Int) < (j : Int) := by omega
          obtain ⟨y, hy⟩ : ∃ y, K[j]? = some y := ⟨_, List.getElem?_eq_getElem (by omega)⟩
          obtain ⟨x, hx⟩ : ∃ x, K[j - 1]? = some x := ⟨_, List.getElem?_eq_getElem (by omega)⟩
          have hle := lessx_any B n c _ K rest j (j - 1) y x wq HXK.out.1 hy hx (by omega) (by omega) (by omega)
          rw [show (((j - 1 : Nat)) : Int) = (j : Int) - 1 by omega] at hle
          have HLE := Lib.hid hle
          have HKL := Lib.hid hKl
          have HXY := Lib.hid (And.intro hx hy)
          clear hle hKl hx hy
          go_wp2_with fail
          refine HLE.out.mono ?_
          rintro e w2 ⟨rfl, hb2⟩
          have HX2 := Lib.hid (HXK.out.below hb2)
          clear hb2
          cases hlt : lt y x with
          | true =>
            have hsw := swapx_any B n c K rest j (j - 1) y x w0 w2 HX2.out HKL.out HXY.out.2 HXY.out.1 (by omega) (by omega) (by omega) (by omega)
            rw [show (((j - 1 : Nat)) : Int) = (j : Int) - 1 by omega] at hsw
            have HSW := Lib.hid hsw
            clear hsw
            go_wp2_with fail
            refine HSW.out.mono ?_
            rintro e w3 ⟨rfl, hx3⟩
            have HX3 := Lib.hid hx3
            clear hx3
            go_wp2_with fail
            go_roundw
            case rel => exact ⟨j - 1, _, by congr 1; omega, by omega, Lib.hid ((swap_perm HXY.out.2 HXY.out.1).trans HPK.out), Lib.hid (HBK.out.swap hj0 h3 HXY.out.1 HXY.out.2 hlt), HX3⟩
            case measure => simp [intOf] <;> omega
          | false =>
            go_wp2_with fail
            go_roundw
            case rel => exact ⟨i + 1, K, by go_num, by omega, by omega, HPK, Lib.hid (by rw [Nat.min_eq_left (by omega)]; exact HBK.out.fin h3 (Or.inr ⟨x, y, HXY.out.1, HXY.out.2, hlt⟩)), HX2⟩
            case measure => simp [intOf] <;> omega
        · have hj0z : ¬ (0 : Int) < (j : Int) := by omega
          clear hKl
          go_wp2_with fail
          go_roundw
          case rel => exact ⟨i + 1, K, by go_num, by omega, by omega, HPK, Lib.hid (by rw [Nat.min_eq_left (by omega)]; exact HBK.out.fin h3 (Or.inl (by omega))), HXK⟩
          case measure => simp [intOf] <;> omega
    · go_wp2_with fail
      go_end0
      exact ⟨rfl, L, HP.out, by have := HU.out; rw [Nat.min_eq_right (by omega)] at this; exact this, HX.out⟩
set_option maxHeartbeats 4000000 in
theorem sortx_any (B n c : Nat) (S : List Plc) (rest : List Value) (w : World) (h : w.heap[B]? = some (.cells (S.flatMap pC ++ rest).toArray 71 (0, 0))) (hS : S.length = n) (hn : n ≤ 12) :
    Calls Tryd.prog 23 #[.iface 75 (.slice (some ⟨B, 0, none⟩) n c)] w fun e w' => e = .returned (.tuple #[]) ∧ ∃ L : List Plc, L.Perm S ∧ Upto L n ∧ RowX B rest w w' L := by
  have mN := len_reached (some ⟨B, 0, none⟩) n c
  have eN : ∀ args w, (callFunc 72 args).run Tryd.prog w = .ok (.enter 72 args) w := enters_of Tryd.func72 (by kernel_rfl) rfl
  have HR : Hid (RowX B rest w w S) := Lib.hid ⟨h, Mod.refl _ _⟩
  have HN := Lib.hid (len_any (some ⟨B, 0, none⟩) n c w)
  have hbl : ∀ w, Calls Tryd.prog 30 #[.int .u64 (n : Int)] w fun e w' => e = .returned (.int .i64 (Lib.bitLen n)) ∧ w' = w := fun w => Tryd.bits_Len (n : Int) w (by omega) (by omega)
  have hlim : Lib.bitLen n ≤ 62 := Lib.bitLen_le n 62 (by omega) (by omega)
  have HI := Lib.hid (fun W (hX : RowX B rest w W S) => insx_any B n c S rest w W hX hS hn)
  have HS := Lib.hid hS
  clear h hS
  have HP : Hid (∀ W (l : Int), RowX B rest w W S → Calls Tryd.prog 31 #[.iface 75 (.slice (some ⟨B, 0, none⟩) n c), .int .i64 0, .int .i64 n, .int .i64 l] W fun e w' => e = .returned (.tuple #[]) ∧ ∃ L : List Plc, L.Perm S ∧ Upto L n ∧ RowX B rest w w' L) := by
    refine Lib.hid fun W l hX => ?_
    have HX := Lib.hid hX
    clear hX
    go_enter Tryd.func31, Tryd.ntmps31
    go_wp2_with fail
    go_loopw [1, 2, 3, 8, 9] (fun s1 s2 s3 s8 s9 wr => s1 = .int .i64 0 ∧ s2 = .int .i64 n ∧ wr = W) (fun _ _ _ _ _ _ => 0)
    case atStart => exact ⟨rfl, rfl, rfl⟩
    case round =>
      obtain ⟨rfl, rfl, rfl⟩ := hrel
      have h12 : (n : Int) ≤ 12 := by omega
      go_wp2_with fail
      refine (HI.out _ HX.out).mono ?_
      rintro e w1 ⟨rfl, hw1⟩
      have HW1 := Lib.hid hw1
      clear hw1
      go_wp2_with fail
      (try simp only [Exit.inBlock, Exit.then])
      refine bodyPost_ret (results_none rfl _ _ _) rfl ?_
      exact ⟨rfl, HW1.out⟩
  go_enter Tryd.func23, Tryd.ntmps23
  go_wp2_with fail
  refine HN.out.mono ?_
  rintro e w1 ⟨rfl, hw1⟩
  have HX1 := Lib.hid (HR.out.below hw1)
  clear hw1
  by_cases h1 : (n : Int) ≤ 1
  · go_wp2_with fail
    (try simp only [Exit.inBlock, Exit.then])
    refine bodyPost_ret (results_none rfl _ _ _) rfl ?_
    exact ⟨rfl, S, List.Perm.refl _, fun p q x y g1 g2 => by omega, HX1.out⟩
  · have wr : IntKind.u64.wrap (n : Int) = n := by simp [IntKind.wrap, IntKind.bits, IntKind.signed]; omega
    go_wp2_with fail
    refine (hbl _).mono ?_
    rintro e w2 ⟨rfl, rfl⟩
    go_wp2_with fail
    refine (HP.out _ _ HX1.out).mono ?_
    rintro e w3 ⟨rfl, hw3⟩
    have HW3 := Lib.hid hw3
    clear hw3
    go_wp2_with fail
    go_end0
    exact ⟨rfl, HW3.out⟩
end Go.Proofs.YtnfagjemhbgfkaaDoor.Nfa
