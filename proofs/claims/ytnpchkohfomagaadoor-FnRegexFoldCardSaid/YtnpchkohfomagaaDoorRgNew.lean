/- The automaton of instructions: newDfaBuilder. -/
import Derived.Test.YtnpchkohfomagaaDoorRgBuild
import Derived.Deep.AppendLies
import Derived.Deep.RegionLaw
import Derived.Deep.DeepCutAuto
namespace Go.Proofs.YtnpchkohfomagaaDoor.Rgw
open Go.ChangeShapes Go.WideShapes Go.ChangeAt Go.RowKit Go.Trav Go.Pk Go.Rg Go.Maps Go.Proofs.YtnpchkohfomagaaDoor.Sparse
set_option linter.unusedVariables false
set_option linter.unusedSimpArgs false
set_option maxRecDepth 100000
theorem run_makeMap_hint {P : Program} {t k e : TypeId} (h : P.underlying t = some (.map k e)) (q : IntKind) (n : Int) (w : World) : (Instr.makeMap t (some (.int q n))).run P w = .ok (.map (some w.heap.size)) (w.alloc (.map #[] 0)) := by
  simp [Instr.makeMap, run_underlying h, asInt, newObj, go_sem]
  rfl
set_option maxHeartbeats 4000000 in
theorem newB_any (l : List In) (K0 pb po pc : Nat) (w : World) (hP : PAt w pb po l K0) (hk : K0 ≤ w.heap.size) :
    Calls Tryd.prog 49 #[.slice (some ⟨pb, po, none⟩) l.length pc] w fun e w' => ∃ (U D M : Nat) (sv : Value) (sts : List SV), e = .returned (.pointer (some ⟨U, 0, none⟩)) ∧ Fresh w' K0 w.heap.size U D M pb po pc sv sts l ∧ Mod (fun _ => False) w w' := by
  have hmm := fun (q : IntKind) (n : Int) (w : World) => run_makeMap_hint Tryd.underlying141 q n w
  obtain ⟨si, hsi, sz0, sz1, sz2⟩ := info_parts Tryd.infoState
  have HP := Lib.hid hP
  have HSI := Lib.hid hsi
  clear hP hsi
  go_enter Tryd.func49, Tryd.ntmps49
  go_wp2_with (refine wpList_make_own _ rfl _ _ 138 rfl w.heap.size 145 si (.agg #[.slice none 0 0, .slice none 0 0, .bool false]) 3 Tryd.underlying138 HSI.out sz0 sz1 .i64 .i64 _ 16 rfl rfl rfl (by rw [sz2]; decide) (by unfold maxLen; omega) (Nat.le_refl _) ?_; intro w1 hown1 hgr1)
  have hm1 : Mod (fun _ => False) w w1 := (Mod.refl _ w).grown hgr1 fun k hk => by cases hk
  have hs1 : w.heap.size < w1.heap.size := (hown1.lt _ rfl).2
  generalize hDe : w1.heap.size = D at *
  obtain ⟨wq, hwq⟩ : ∃ wq, wq = ((w1.alloc (.cells #[.slice (some ⟨pb, po, none⟩) l.length pc, .slice (some ⟨w.heap.size, 0, none⟩) 0 16] 140)).alloc (.map #[] 0)).alloc (.cells #[.pointer (some ⟨D, 0, none⟩), .map (some (D + 1)), .slice none 0 0] 143) := ⟨_, rfl⟩
  have hD : wq.heap[D]? = some (.cells #[.slice (some ⟨pb, po, none⟩) l.length pc, .slice (some ⟨w.heap.size, 0, none⟩) 0 16] 140 (0, 0)) := by
    rw [hwq, ← hDe]; exact block_alloc (block_alloc (heap_alloc_new w1 _))
  have hM : wq.heap[D + 1]? = some (.map #[] 0) := by
    rw [hwq]
    refine block_alloc ?_
    have h := (MapKept.heap_alloc (w1.alloc (.cells #[.slice (some ⟨pb, po, none⟩) l.length pc, .slice (some ⟨w.heap.size, 0, none⟩) 0 16] 140)) (.map #[] 0)).1
    have hz : (w1.alloc (.cells #[.slice (some ⟨pb, po, none⟩) l.length pc, .slice (some ⟨w.heap.size, 0, none⟩) 0 16] 140)).heap.size = D + 1 := by simp [hDe]
    rw [hz] at h
    exact h
  have hU : wq.heap[D + 1 + 1]? = some (.cells #[.pointer (some ⟨D, 0, none⟩), .map (some (D + 1)), .slice none 0 0] 143 (0, 0)) := by
    rw [hwq]; exact heap_alloc_at _ _ _ (by simp [hDe])
  have hS : wq.ownsRow w.heap.size 145 3 (.slice (some ⟨w.heap.size, 0, none⟩) 0 16) 0 [] := by
    rw [hwq]; exact ((hown1.alloc _).alloc _).alloc _
  have hmq : Mod (fun _ => False) w wq := by rw [hwq]; exact ((hm1.alloc _).alloc _).alloc _
  have hszq : wq.heap.size = D + 3 := by rw [hwq]; simp [hDe]
  have q0 : wq.cell? ⟨D + 1 + 1, 0, none⟩ = some (.pointer (some ⟨D, 0, none⟩)) := block_cell hU rfl
  have q1 : wq.cell? ⟨D, 1, none⟩ = some (.slice (some ⟨w.heap.size, 0, none⟩) 0 16) := block_cell hD rfl
  have al0 : ∀ o, (wq.alloc o).cell? ⟨D + 1 + 1, 0, none⟩ = some (.pointer (some ⟨D, 0, none⟩)) := fun o => block_cell (block_alloc hU) rfl
  have al1 : ∀ o, (wq.alloc o).cell? ⟨D, 1, none⟩ = some (.slice (some ⟨w.heap.size, 0, none⟩) 0 16) := fun o => block_cell (block_alloc hD) rfl
  have ak0 : ∀ k o, ((wq.drewN k).alloc o).cell? ⟨D + 1 + 1, 0, none⟩ = some (.pointer (some ⟨D, 0, none⟩)) := fun k o => block_cell (block_alloc (w := wq.drewN k) hU) rfl
  have ak1 : ∀ k o, ((wq.drewN k).alloc o).cell? ⟨D, 1, none⟩ = some (.slice (some ⟨w.heap.size, 0, none⟩) 0 16) := fun k o => block_cell (block_alloc (w := wq.drewN k) hD) rfl
  have bl0 : ∀ o o', ((wq.alloc o).alloc o').cell? ⟨D + 1 + 1, 0, none⟩ = some (.pointer (some ⟨D, 0, none⟩)) := fun o o' => block_cell (block_alloc (block_alloc hU)) rfl
  have bl1 : ∀ o o', ((wq.alloc o).alloc o').cell? ⟨D, 1, none⟩ = some (.slice (some ⟨w.heap.size, 0, none⟩) 0 16) := fun o o' => block_cell (block_alloc (block_alloc hD)) rfl
  obtain ⟨Mz, hMz⟩ : ∃ M, M = madeCells #[Value.int .i64 0] 256 := ⟨_, rfl⟩
  have hmk : ∀ W : World, (Instr.makeSlice 51 (.int .i64 256) (.int .i64 256)).run Tryd.prog W = .ok (.slice (some ⟨W.heap.size, 0, none⟩) 256 256) (W.alloc (.cells Mz 3)) := fun W => by
    have h := run_make_row' (P := Tryd.prog) 51 3 (.int .i64 0) 8 Tryd.underlying51 (by kernel_rfl) rfl .i64 .i64 256 (by omega) (by omega) W
    rw [← hMz] at h
    exact h
  have hDU : D ≠ D + 1 + 1 := by omega
  rw [← hwq]
  have hsi := HSI.out
  have HD := Lib.hid hD
  have HM := Lib.hid hM
  have HU := Lib.hid hU
  have HS := Lib.hid hS
  have HMQ := Lib.hid hmq
  have HMZ := Lib.hid hMz
  have hbq : w.heap.size ≤ wq.heap.size := hmq.size
  have hnotD : w.heap.size ≠ D := by omega
  have HSZ := Lib.hid hszq
  clear hD hM hU hS hmq hMz hwq hown1 hgr1 hm1 hmm hDe hszq
  go_cut [] (fun wx => ∃ (g7 cap7 : Nat) (w7 : World), wx = w7.setCell ⟨D, 1, none⟩ (.slice (some ⟨g7, 0, none⟩) (0 + 1) cap7) ∧ Hid (w7.ownsRow w.heap.size 145 3 (.slice (some ⟨g7, 0, none⟩) (0 + 1) cap7) (0 + 1) ([] ++ [.slice none 0 0, .slice (some ⟨wq.heap.size, 0, none⟩) 256 256, .bool false])) ∧ Hid (Mod (fun k => k = w.heap.size) wq w7) ∧ Hid (w7.heap[wq.heap.size]? = some (.cells Mz 3 (0, 0))))
  case first =>
    go_region_law (first
      | (refine step_append_lies _ rfl (.tmp 21) (.tmp 24) 138 rfl w.heap.size 145 si (.agg #[.slice none 0 0, .slice none 0 0, .bool false]) 3 56 Tryd.underlying138 hsi sz0 sz1 sz2 rfl (by decide) (.slice (some ⟨w.heap.size, 0, none⟩) 0 16) 0 [] (by simp [Act.eval, Act.put]) ((HS.out.alloc _).alloc _) ⟨wq.heap.size + 1, 0, none⟩ 1 1 [.slice none 0 0, .slice (some ⟨wq.heap.size, 0, none⟩) 256 256, .bool false] (by simp [Act.eval, Act.put]) rfl (World.news_of_block (heap_alloc_at _ _ _ (by simp))) (by simp [Value.oneCell']) (by omega) (by unfold maxLen; omega) (by omega) (by simp; omega) (wq.heap.size + 2) (by simp) ?_
         intro g7 cap7 w7 hown7 hgr7 hat7 hlt7
         have hm7 : Mod (fun k => k = w.heap.size) wq w7 := (Mod.drewN (Mod.alloc (Mod.alloc (Mod.refl _ wq) _) _) 1).grown hgr7 (fun k hk _ => (Option.some.inj hk).symm)
         have hD7 := hm7.heap HD.out (fun h => hnotD h.symm)
         have hU7 := hm7.heap HU.out (fun h => by have := HSZ.out; omega)
         have hnb7 : w7.heap[wq.heap.size]? = some (.cells Mz 3 (0, 0)) := (hgr7.block wq.heap.size (by simp; omega) (fun e => by simp [Value.ownBlock] at e; have := HSZ.out; omega)).trans (block_alloc (heap_alloc_new wq _))
         have u7 : w7.cell? ⟨D + 1 + 1, 0, none⟩ = some (.pointer (some ⟨D, 0, none⟩)) := block_cell hU7 rfl
         have d7 : w7.cell? ⟨D, 1, none⟩ = some (.slice (some ⟨w.heap.size, 0, none⟩) 0 16) := block_cell hD7 rfl
         have f7 : w7.frozen? ⟨D, 1, none⟩ = false := block_free hD7
         have HX7 := Lib.hid (And.intro hown7 (And.intro hm7 hnb7))
         clear hown7 hgr7 hat7 hlt7 hm7 hD7 hnb7 hU7))
    all_goals
      (try go_wp2_with fail)
      go_meet
      exact ⟨g7, cap7, w7, rfl, Lib.hid HX7.out.1, Lib.hid HX7.out.2.1, Lib.hid HX7.out.2.2⟩
  case rest =>
    obtain ⟨g7, cap7, w7, hwc, HO7, HM7, HN7⟩ := hcut
    have hszq := HSZ.out
    have hown7 := HO7.out
    have hm7 := HM7.out
    have hD7 := hm7.heap HD.out (fun h => hnotD h.symm)
    have hm8 : Mod (fun k => k = D) w7 (w7.setCell ⟨D, 1, none⟩ (.slice (some ⟨g7, 0, none⟩) (0 + 1) cap7)) := (Mod.refl (fun k => k = D) w7).setCell (p := ⟨D, 1, none⟩) (fun _ => rfl) _
    have hq8 : Mod (fun k => k = w.heap.size ∨ k = D) wq (w7.setCell ⟨D, 1, none⟩ (.slice (some ⟨g7, 0, none⟩) (0 + 1) cap7)) := (hm7.mono fun k _ h => Or.inl h).trans (hm8.mono fun k _ h => Or.inr h)
    have hfin : Fresh (w7.setCell ⟨D, 1, none⟩ (.slice (some ⟨g7, 0, none⟩) (0 + 1) cap7)) K0 w.heap.size (D + 1 + 1) D (D + 1) pb po pc (.slice (some ⟨g7, 0, none⟩) (0 + 1) cap7) [SV.mk (.slice none 0 0) wq.heap.size false] l := by
      have hwm : Mod (fun k => w.heap.size ≤ k) w (w7.setCell ⟨D, 1, none⟩ (.slice (some ⟨g7, 0, none⟩) (0 + 1) cap7)) := (HMQ.out.mono fun _ _ h => h.elim).trans (hq8.mono fun k _ h => by rcases h with h | h <;> omega)
      refine ⟨HP.out.mod hwm (fun k h1 h2 => by omega), ⟨hq8.heap HU.out (fun h => by rcases h with h | h <;> omega), ?_, ⟨0, .map [], Nat.le_refl _, ⟨#[], 0, hq8.heap HM.out (fun h => by rcases h with h | h <;> omega), ⟨by simp, MapKept.stamped_empty 0, by simp⟩, Nat.le_refl _, rfl⟩, cache_new⟩, ⟨0, [], World.ownsRow_nil _ _ _ _⟩, ?_, rfl, rfl, by simp, by simp, ⟨wq.heap.size, rfl, ?_⟩, by simp, by omega, by omega, by omega, ?_⟩, hk, hwm.size⟩
      · rw [block_set hD7]; rfl
      · have := ownsRow_mod hown7 hm8 fun k hk' h => by
          subst h
          have := ty_one (ty_own hown7 hk') (show Ty w7 k 140 from ⟨_, _, hD7⟩)
          revert this; decide
        simpa [SV.cells] using this
      · have h1 := hm8.heap HN7.out (fun e => by omega)
        rw [HMZ.out, made_iN] at h1
        exact h1
      · intro s hs
        rw [List.mem_singleton.mp hs]
        exact hbq
    have hmf : Mod (fun _ => False) w (w7.setCell ⟨D, 1, none⟩ (.slice (some ⟨g7, 0, none⟩) (0 + 1) cap7)) := HMQ.out.step hq8 (fun k hk' h => by rcases h with h | h <;> omega)
    have HFIN := Lib.hid (And.intro hfin hmf)
    rw [hwc]
    clear hown7 hm7 hD7 hm8 hq8 hfin hmf hwc hszq
    go_wp2_with fail
    go_ret
    exact ⟨_, _, _, _, _, rfl, HFIN.out.1, HFIN.out.2⟩
end Go.Proofs.YtnpchkohfomagaaDoor.Rgw
