/- The automaton of instructions: the empty program that ProgPath begins with. -/
import Derived.Test.YtnpchkohfomagaaDoorRgSpec
import Derived.Test.YtnpchkohfomagaaDoorRgBld
import Derived.Deep.AppendLies
namespace Go.Proofs.YtnpchkohfomagaaDoor.Rgw
open Go.ChangeShapes Go.WideShapes Go.ChangeAt Go.RowKit Go.Trav Go.Rg
set_option linter.unusedVariables false
set_option linter.unusedSimpArgs false
set_option maxRecDepth 100000
theorem Tryd.infoU8 : (Tryd.prog.info? 5).map (fun i => (i.zero, i.size, i.bytes)) = some (some (.int .u8 0), 1, 1) := by kernel_rfl
set_option maxHeartbeats 4000000 in
theorem newc_any (w : World) : Calls Tryd.prog 47 #[.int .u64 10485760] w fun e w' => ∃ (C : Nat) (a b : Value), e = .returned (.pointer (some ⟨C, 0, none⟩)) ∧ w.heap.size ≤ C ∧ w'.heap[C]? = some (.cells #[.int .u64 10485760, .slice none 0 0, .slice none 0 0, .slice none 0 0, .slice none 0 0, a, b] 135 (0, 0)) ∧ Below w.heap.size w w' := by
  have hmk : ∀ W : World, (Instr.makeSlice 49 (.int .i64 4) (.int .i64 4)).run Tryd.prog W = .ok (.slice (some ⟨W.heap.size, 0, none⟩) 4 4) (W.alloc (.cells (madeCells #[.int .u8 0] 4) 5)) := fun W =>
    run_make_row' (P := Tryd.prog) 49 5 (.int .u8 0) 1 Tryd.underlying49 Tryd.infoU8 rfl .i64 .i64 4 (by omega) (by omega) W
  go_enter Tryd.func47, Tryd.ntmps47
  go_wp2_with fail
  go_region
  all_goals
    (try go_wp2_with fail)
    go_ret
    exact ⟨w.heap.size + 1 + 1, _, _, rfl, by omega, heap_alloc_at ((w.alloc _).alloc _) _ _ (by simp), ((((Below.refl w.heap.size w).alloc (Nat.le_refl _) _).alloc (by simp) _).alloc (by simp; omega) _).drew⟩
theorem c_any (c t : Nat) (w : World) (h0 : w.cell? ⟨t, 0, none⟩ = some (.int .u8 2)) (h1 : w.cell? ⟨t, 1, none⟩ = some (.int .u16 0)) :
    Calls Tryd.prog 64 #[.pointer (some ⟨c, 0, none⟩), .pointer (some ⟨t, 0, none⟩)] w fun e w' => e = .returned .nilIface ∧ Below w.heap.size w w' := by
  go_enter Tryd.func64, Tryd.ntmps64
  go_wp2_with fail
  go_ret
  exact ⟨rfl, Below.refl _ _⟩
set_option maxHeartbeats 4000000 in
theorem alloc_any (C : Nat) (s a1 a3 a4 a5 a6 : Value) (w : World) (h : w.heap[C]? = some (.cells #[s, a1, .slice none 0 0, a3, a4, a5, a6] 135 (0, 0))) :
    Calls Tryd.prog 65 #[.pointer (some ⟨C, 0, none⟩)] w fun e w' => ∃ (M : Array Value) (pv : Value), e = .returned (.pointer (some ⟨w.heap.size, 0, none⟩)) ∧ w'.heap[w.heap.size]? = some (.cells M 103 (0, 0)) ∧ M.size = 96 ∧ w'.heap[C]? = some (.cells #[s, a1, pv, a3, a4, a5, a6] 135 (0, 0)) ∧ Mod (fun k => k = C) w w' := by
  obtain ⟨i0, hi, hz0, hz1, hz2⟩ := info_parts (show (Tryd.prog.info? 103).map (fun i => (i.zero, i.size, i.bytes)) = some (some (.agg #[.int .i64 0, .int .u64 0, .int .u64 0, .int .u64 0, .int .u8 0, .int .u8 0]), 6, 40) from by kernel_rfl)
  obtain ⟨M, hM⟩ : ∃ M, M = madeCells (Value.agg #[.int .i64 0, .int .u64 0, .int .u64 0, .int .u64 0, .int .u8 0, .int .u8 0]).cells ((16 : Int).toNat * i0.size) := ⟨_, rfl⟩
  have hMs : M.size = 96 := by rw [hM, size_madeCells, hz1]; rfl
  have hmk : ∀ W : World, (Instr.makeSlice 129 (.int .i64 16) (.int .i64 16)).run Tryd.prog W = .ok (.slice (some ⟨W.heap.size, 0, none⟩) 16 16) (W.alloc (.cells M 103)) := fun W => by
    have h := run_makeSlice (P := Tryd.prog) W 129 103 i0 (.agg #[.int .i64 0, .int .u64 0, .int .u64 0, .int .u64 0, .int .u8 0, .int .u8 0]) Tryd.underlying129 hi hz0 .i64 .i64 16 16 (by omega) (by omega) (by rw [hz1]; decide) (by rw [hz2]; decide) (by decide)
    rw [← hM] at h
    simpa using h
  have c2 : w.cell? ⟨C, 2, none⟩ = some (.slice none 0 0) := block_cell h rfl
  have f2 : w.frozen? ⟨C, 2, none⟩ = false := block_free h
  have HH := Lib.hid h
  have HMS := Lib.hid hMs
  have hCl := block_lt h
  have al2 : ∀ o, (w.alloc o).cell? ⟨C, 2, none⟩ = some (.slice none 0 0) := fun o => block_cell (block_alloc h) rfl
  have af2 : ∀ o, (w.alloc o).frozen? ⟨C, 2, none⟩ = false := fun o => block_free (block_alloc h)
  clear h hMs hM hi hz0 hz1 hz2
  go_enter Tryd.func65, Tryd.ntmps65
  go_wp2_with fail
  go_ret
  have hb := block_set (i := 2) (u := .slice (some ⟨w.heap.size, 6, none⟩) 15 15) (block_set (i := 2) (u := .slice (some ⟨w.heap.size, 0, none⟩) 16 16) HH.out)
  refine ⟨M, .slice (some ⟨w.heap.size, 6, none⟩) 15 15, rfl, heap_alloc_at _ _ _ (by simp), HMS.out, ?_, ?_⟩
  · exact block_alloc hb
  · exact (((Mod.refl (fun k => k = C) w).setCell (p := ⟨C, 2, none⟩) (fun _ => rfl) _).setCell (p := ⟨C, 2, none⟩) (fun _ => rfl) _).alloc _
theorem Tryd.infoPinst : (Tryd.prog.info? 79).map (fun i => (i.zero, i.size, i.bytes)) = some (some (.pointer none), 1, 8) := by kernel_rfl
set_option maxHeartbeats 4000000 in
theorem compile_any (C t : Nat) (base : Nat) (s a3 a4 a5 a6 : Value) (w : World) (hb : base ≤ w.heap.size) (hCb : base ≤ C) (h : w.heap[C]? = some (.cells #[s, .slice none 0 0, .slice none 0 0, a3, a4, a5, a6] 135 (0, 0)))
    (h0 : w.cell? ⟨t, 0, none⟩ = some (.int .u8 2)) (h1 : w.cell? ⟨t, 1, none⟩ = some (.int .u16 0)) :
    Calls Tryd.prog 48 #[.pointer (some ⟨C, 0, none⟩), .pointer (some ⟨t, 0, none⟩)] w fun e w' => ∃ v : Value, e = .returned (.tuple #[v, .nilIface]) ∧ (∃ n xs, w'.ownsRow base 79 1 v n xs) ∧ Below base w w' := by
  have hc := c_any C t w h0 h1
  have HH := Lib.hid h
  clear h h0 h1
  go_enter Tryd.func48, Tryd.ntmps48
  go_wp2_with fail
  refine hc.mono ?_
  rintro e w1 ⟨rfl, hb1⟩
  have h1 : w1.heap[C]? = some (.cells #[s, .slice none 0 0, .slice none 0 0, a3, a4, a5, a6] 135 (0, 0)) := block_below HH.out hb1 (block_lt HH.out)
  have hal := alloc_any C s (.slice none 0 0) a3 a4 a5 a6 w1 h1
  have HB1 := Lib.hid hb1
  clear h1 hb1 hc
  go_wp2_with fail
  refine hal.mono ?_
  rintro e w2 ⟨M, pv, rfl, hg2, hM, hC2, hm2⟩
  obtain ⟨v0, hv0⟩ : ∃ v, M[0]? = some v := ⟨_, Array.getElem?_eq_getElem (by omega)⟩
  have g0 : w2.cell? ⟨w1.heap.size, 0, none⟩ = some v0 := block_cell hg2 hv0
  have g0f : w2.frozen? ⟨w1.heap.size, 0, none⟩ = false := block_free hg2
  have hCl1 : C < w1.heap.size := by have := block_lt HH.out; have := HB1.out.size; omega
  have hC3 : (w2.setCell ⟨w1.heap.size, 0, none⟩ (.int .i64 0)).heap[C]? = some (.cells #[s, .slice none 0 0, pv, a3, a4, a5, a6] 135 (0, 0)) := block_set_ne hC2 (by show w1.heap.size ≠ C; omega)
  have k1 : (w2.setCell ⟨w1.heap.size, 0, none⟩ (.int .i64 0)).cell? ⟨C, 1, none⟩ = some (.slice none 0 0) := block_cell hC3 rfl
  have k1f : (w2.setCell ⟨w1.heap.size, 0, none⟩ (.int .i64 0)).frozen? ⟨C, 1, none⟩ = false := block_free hC3
  obtain ⟨w3, hw3⟩ : ∃ w3, w3 = w2.setCell ⟨w1.heap.size, 0, none⟩ (.int .i64 0) := ⟨_, rfl⟩
  have HG2 := Lib.hid hg2
  have HM2 := Lib.hid hm2
  have HC3 := Lib.hid hC3
  clear hg2 hC2 hm2 hC3 hal hv0
  have hb3 : base ≤ (w2.setCell ⟨w1.heap.size, 0, none⟩ (.int .i64 0)).heap.size := by have := HM2.out.size; have := HB1.out.size; simp; omega
  have hm3 : Mod (fun k => base ≤ k) w (w2.setCell ⟨w1.heap.size, 0, none⟩ (.int .i64 0)) := ((Mod.of_below (F := fun k => base ≤ k) HB1.out).trans (HM2.out.mono fun k _ h => by omega)).setCell (p := ⟨w1.heap.size, 0, none⟩) (fun h => by have := HB1.out.size; show base ≤ w1.heap.size; omega) _
  have HM3 := Lib.hid hm3
  have HB3 := Lib.hid hb3
  clear hm3 hb3 hw3
  go_wp2_with (at_builtin; (refine wpList_append_one rfl (.tmp 23) (.tmp 25) 64 rfl base 79 _ 1 8 Tryd.underlying64 Tryd.infoPinst rfl (by decide) (by decide) (.slice none 0 0) 0 [] rfl (World.ownsRow_nil _ _ _ _) #[.pointer (some ⟨w1.heap.size, 0, none⟩)] _ _ rfl (by simp) rfl (by simp [Value.oneCell']) (by omega) HB3.out ?_; intro ao5 cap5 w5 hown5 hgr5 hat5; have hC5 : w5.heap[C]? = some (.cells #[s, .slice none 0 0, pv, a3, a4, a5, a6] 135 (0, 0)) := (hgr5.block C (by have := block_lt HC3.out; simp at this ⊢; omega) (by simp [Value.ownBlock])).trans (block_alloc HC3.out); have k5 : w5.cell? ⟨C, 1, none⟩ = some (.slice none 0 0) := block_cell hC5 rfl; have k5f : w5.frozen? ⟨C, 1, none⟩ = false := block_free hC5; have k6 : ∀ v, (w5.setCell ⟨C, 1, none⟩ v).cell? ⟨C, 1, none⟩ = some v := fun v => block_cell (block_set hC5) rfl; have hm5 : Mod (fun k => base ≤ k) w w5 := (HM3.out.alloc _).grown hgr5 (fun k hk => by cases hk); have HO5 := Lib.hid (And.intro hown5 (And.intro hm5 hC5)); clear hown5 hgr5 hat5 hC5 hm5))
  go_ret2
  obtain ⟨hown5, hm5, hC5⟩ := HO5.out
  have hmC : Mod (fun k => k = C) w5 (w5.setCell ⟨C, 1, none⟩ (.slice ao5 (0 + 1) cap5)) := (Mod.refl (fun k => k = C) w5).setCell (p := ⟨C, 1, none⟩) (fun _ => rfl) _
  refine ⟨_, rfl, ⟨_, _, ownsRow_mod hown5 hmC fun k hk e => ?_⟩, ((hm5.trans (hmC.mono fun k _ e => by omega)).toBelow hb fun k _ h => h)⟩
  subst e
  have := ty_one (ty_own hown5 hk) (show Ty w5 k 135 from ⟨_, _, hC5⟩)
  revert this; decide
theorem comp_any (t : Nat) (w : World) (h0 : w.cell? ⟨t, 0, none⟩ = some (.int .u8 2)) (h1 : w.cell? ⟨t, 1, none⟩ = some (.int .u16 0)) :
    Calls Tryd.prog 32 #[.pointer (some ⟨t, 0, none⟩), .int .u64 10485760] w fun e w' => ∃ v : Value, e = .returned (.tuple #[v, .nilIface]) ∧ (∃ n xs, w'.ownsRow w.heap.size 79 1 v n xs) ∧ Below w.heap.size w w' := by
  have hn := newc_any w
  have H0 := Lib.hid h0
  have H1 := Lib.hid h1
  clear h0 h1
  go_enter Tryd.func32, Tryd.ntmps32
  go_wp2_with fail
  refine hn.mono ?_
  rintro e w1 ⟨C, a, b, rfl, hC, hC1, hb1⟩
  have hce : ∀ {ad : Addr} {v : Value}, w.cell? ad = some v → w1.cell? ad = some v := fun ha => (Mod.of_below (F := fun _ => False) hb1).cell ha (fun x => x)
  have hcp := compile_any C t w.heap.size _ _ _ _ _ w1 hb1.size hC hC1 (hce H0.out) (hce H1.out)
  have HB1 := Lib.hid hb1
  clear hC1 hb1 hce hn
  go_wp2_with fail
  refine hcp.mono ?_
  rintro e w2 ⟨v, rfl, hv, hb2⟩
  have HV := Lib.hid hv
  have HB2 := Lib.hid hb2
  clear hv hb2 hcp
  go_wp2_with fail
  go_ret2
  exact ⟨v, rfl, HV.out, HB1.out.trans HB2.out⟩
end Go.Proofs.YtnpchkohfomagaaDoor.Rgw
