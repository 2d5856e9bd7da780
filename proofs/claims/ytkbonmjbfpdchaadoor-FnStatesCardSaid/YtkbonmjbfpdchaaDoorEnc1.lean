/- The encoder's start and finish. -/
import Derived.Test.YtkbonmjbfpdchaaDoorEncBase
namespace Go.Proofs.YtkbonmjbfpdchaaDoor.Buf
open Go.ChangeShapes Go.WideShapes Go.ChangeAt Go.RowKit Go.Trav Go.Pk
set_option linter.unusedVariables false
set_option maxRecDepth 100000
/-- An encoder in block e, over a vellum.writer in block u: it has written bs. -/
structure EOut (w : World) (e u : Nat) (i : Ids) (bs : List Nat) : Prop where
  blk : w.heap[e]? = some (.cells #[.pointer (some ⟨u, 0, none⟩)] 158 (0, 0))
  out : WOut w u i bs
  ne : ¬ WF u i e
def EWent (w w' : World) (e u : Nat) (i : Ids) (bs : List Nat) : Prop :=
  ∃ v', EOut w' e u { i with v := v' } bs ∧ Mod (WF u i) w w' ∧ (v'.ownBlock = i.v.ownBlock ∨ ∃ g, v'.ownBlock = some g ∧ w.heap.size ≤ g)
theorem EOut.went {w w' : World} {e u : Nat} {i : Ids} {bs bs' : List Nat} (h : EOut w e u i bs) (h1 : WWent w w' u i bs') : EWent w w' e u i bs' := by
  obtain ⟨v', hO, hm, hv⟩ := h1
  refine ⟨v', ⟨hm.heap h.blk h.ne, hO, fun hF => h.ne (WF_step (w := w) hv e (block_lt h.blk) hF)⟩, hm, hv⟩
theorem EOut.mod {F : Nat → Prop} {w w' : World} {e u : Nat} {i : Ids} {bs : List Nat} (h : EOut w e u i bs) (hm : Mod F w w') (he : ¬ F e) (hF : ∀ k, WF u i k → ¬ F k) : EOut w' e u i bs :=
  ⟨hm.heap h.blk he, h.out.mod hm hF, h.ne⟩
theorem EWent.trans {w w1 w2 : World} {e u : Nat} {i : Ids} {v1 : Value} {bs : List Nat} (h1 : Mod (WF u i) w w1) (h2 : v1.ownBlock = i.v.ownBlock ∨ ∃ g, v1.ownBlock = some g ∧ w.heap.size ≤ g) (h : EWent w1 w2 e u { i with v := v1 } bs) : EWent w w2 e u i bs := by
  obtain ⟨v2, ha, hm, hv⟩ := h
  refine ⟨v2, ha, h1.step hm (WF_step h2), ?_⟩
  rcases hv with hv | ⟨g, hv, hg⟩
  · rw [hv]; exact h2
  · exact Or.inr ⟨g, hv, Nat.le_trans h1.size hg⟩
theorem newE_any (b : Nat) (w : World) (h : Is w b (.slice none 0 0) []) :
    Calls Tryd.prog 56 #[.iface 100 (.pointer (some ⟨b, 0, none⟩))] w fun e w' => ∃ en u q f, e = .returned (.pointer (some ⟨en, 0, none⟩)) ∧ EOut w' en u ⟨q, f, b, .slice none 0 0⟩ [] ∧ w.heap.size ≤ en ∧ w.heap.size ≤ u ∧ w.heap.size ≤ q ∧ w.heap.size ≤ f ∧ Below w.heap.size w w' := by
  have H := Lib.hid h
  clear h
  go_enter Tryd.func56, Tryd.ntmps56
  go_wp2_with fail
  refine (new_any b w H.out).mono ?_
  rintro e w1 ⟨u, q, f, rfl, hA, hu, hq, hf, hb⟩
  have HA := Lib.hid hA
  clear hA
  go_wp2_with fail
  go_ret
  refine ⟨w1.heap.size, u, q, f, rfl, ⟨heap_alloc_new _ _, HA.out.mod (F := fun _ => False) ((Mod.refl _ _).alloc _) (fun _ _ h => h), fun hF => ?_⟩, hb.size, hu, hq, hf, hb.alloc hb.size _⟩
  have := HA.out.lt hF
  omega
theorem start_any (en u : Nat) (i : Ids) (w : World) (h : EOut w en u i []) :
    Calls Tryd.prog 57 #[.pointer (some ⟨en, 0, none⟩)] w fun e w' => e = .returned .nilIface ∧ EWent w w' en u i (packed 1 8 ++ packed 0 8) := by
  obtain ⟨i0, hi, hz0, hz1, hz2⟩ := info_parts Tryd.info5
  obtain ⟨M, hM⟩ : ∃ M, M = madeCells (Value.int .u8 0).cells ((16 : Int).toNat * i0.size) := ⟨_, rfl⟩
  have hMs : M.size = 16 := by rw [hM, size_madeCells, hz1]; rfl
  have hmk : ∀ W : World, (Instr.makeSlice 35 (.int .i64 16) (.int .i64 16)).run Tryd.prog W = .ok (.slice (some ⟨W.heap.size, 0, none⟩) 16 16) (W.alloc (.cells M 5)) := fun W => by
    have h := run_makeSlice (P := Tryd.prog) W 35 5 i0 (.int .u8 0) Tryd.underlying35 hi hz0 .i64 .i64 16 16 (by omega) (by omega) (by rw [hz1]; decide) (by rw [hz2]; decide) (by decide)
    rw [← hM] at h
    simpa using h
  have HM := Lib.hid hMs
  clear hM hi hz0 hz1 hz2 hMs
  have H := Lib.hid h
  clear h
  go_enter Tryd.func57, Tryd.ntmps57
  go_wp2_with fail
  have hg0 : (w.alloc (.cells M 5)).heap[w.heap.size]? = some (.cells ([] ++ M.toList.take 8 ++ M.toList.drop 8).toArray 5 (0, 0)) := by
    rw [List.nil_append, List.take_append_drop, Array.toArray_toList]
    exact heap_alloc_new _ _
  refine (put_any w.heap.size 0 16 16 1 5 [] (M.toList.take 8) (M.toList.drop 8) _ (by omega) hg0 rfl (by rw [List.length_take, Array.length_toList, HM.out]; rfl) (by omega)).mono ?_
  rintro e w1 ⟨rfl, hg1, hm1⟩
  have HG1 := Lib.hid hg1
  clear hg0 hg1
  go_wp2_with fail
  go_still_tail 3, (by kernel_rfl)
  change wpList _ _ _ _ _ w1.drew
  go_wp2_with fail
  refine (put_any w.heap.size 8 8 8 0 5 ((packed 1 8).map bN) (M.toList.drop 8) [] _ (by omega) (by rw [show w1.drew.heap = w1.heap from rfl]; have := HG1.out; simpa using this) (by simp [packed_len]) (by rw [List.length_drop, Array.length_toList, HM.out]) (by omega)).mono ?_
  rintro e w2 ⟨rfl, hg2, hm2⟩
  have hm12 : Mod (fun _ => False) w w2 := by
    have h1 : Mod (fun k => k = w.heap.size) (w.alloc (.cells M 5)) w2 := (hm1.trans (mod_of_heap rfl rfl rfl rfl : Mod (fun k => k = w.heap.size) w1 w1.drew)).trans hm2
    exact ((Mod.refl _ _).alloc _).step h1 (fun k hk e => by omega)
  have hE := H.out.mod hm12 (fun h => h) (fun _ _ h => h)
  have c0 : w2.cell? ⟨en, 0, none⟩ = some (.pointer (some ⟨u, 0, none⟩)) := block_cell hE.blk rfl
  have HG2 := Lib.hid hg2
  have HE := Lib.hid hE
  clear hg2 hE HG1
  go_wp2_with fail
  refine (ww_any u i [] (packed 1 8 ++ packed 0 8) w.heap.size 0 16 16 w2 HE.out.out (by simp [packed_len]) (by omega) (by omega) (by omega) (by simp) (fun j x hj => by
    rw [Nat.zero_add]
    refine block_cell HG2.out ?_
    rw [List.getElem?_toArray]
    simpa using hj) (fun hF => by have := H.out.out.lt hF; omega)).mono ?_
  rintro e w3 ⟨rfl, h3⟩
  have H3 := Lib.hid h3
  clear h3
  go_wp2_with fail
  go_ret
  obtain ⟨v3, hO3, hm3, hv3⟩ := HE.out.went H3.out
  refine ⟨rfl, v3, hO3, (hm12.mono fun _ _ h => h.elim).trans hm3, ?_⟩
  rcases hv3 with h | ⟨g, h, h'⟩
  · exact Or.inl h
  · exact Or.inr ⟨g, h, Nat.le_trans hm12.size h'⟩
theorem finish_any (en u : Nat) (i : Ids) (bs : List Nat) (cnt root : Nat) (w : World) (h : EOut w en u i bs) (hl : bs.length ≤ 4294960000) (hc : cnt ≤ 4294967296) (hr : root ≤ 4294967296) :
    Calls Tryd.prog 59 #[.pointer (some ⟨en, 0, none⟩), .int .i64 cnt, .int .i64 root] w fun e w' => e = .returned .nilIface ∧ ∃ v', Is w' i.b v' ((bs ++ (packed cnt 8 ++ packed root 8)).map bN) ∧ Mod (WF u i) w w' ∧ (v'.ownBlock = i.v.ownBlock ∨ ∃ g, v'.ownBlock = some g ∧ w.heap.size ≤ g) := by
  obtain ⟨i0, hi, hz0, hz1, hz2⟩ := info_parts Tryd.info5
  obtain ⟨M, hM⟩ : ∃ M, M = madeCells (Value.int .u8 0).cells ((16 : Int).toNat * i0.size) := ⟨_, rfl⟩
  have hMs : M.size = 16 := by rw [hM, size_madeCells, hz1]; rfl
  have hmk : ∀ W : World, (Instr.makeSlice 35 (.int .i64 16) (.int .i64 16)).run Tryd.prog W = .ok (.slice (some ⟨W.heap.size, 0, none⟩) 16 16) (W.alloc (.cells M 5)) := fun W => by
    have h := run_makeSlice (P := Tryd.prog) W 35 5 i0 (.int .u8 0) Tryd.underlying35 hi hz0 .i64 .i64 16 16 (by omega) (by omega) (by rw [hz1]; decide) (by rw [hz2]; decide) (by decide)
    rw [← hM] at h
    simpa using h
  have HM := Lib.hid hMs
  clear hM hi hz0 hz1 hz2 hMs
  have H := Lib.hid h
  have HL := Lib.hid hl
  clear h hl
  go_enter Tryd.func59, Tryd.ntmps59
  go_wp2_with fail
  have hg0 : (w.alloc (.cells M 5)).heap[w.heap.size]? = some (.cells ([] ++ M.toList.take 8 ++ M.toList.drop 8).toArray 5 (0, 0)) := by
    rw [List.nil_append, List.take_append_drop, Array.toArray_toList]
    exact heap_alloc_new _ _
  refine (put_any w.heap.size 0 16 16 cnt 5 [] (M.toList.take 8) (M.toList.drop 8) _ (by omega) hg0 rfl (by rw [List.length_take, Array.length_toList, HM.out]; rfl) (by omega)).mono ?_
  rintro e w1 ⟨rfl, hg1, hm1⟩
  have HG1 := Lib.hid hg1
  clear hg0 hg1
  go_wp2_with fail
  go_still_tail 5, (by kernel_rfl)
  change wpList _ _ _ _ _ w1.drew
  go_wp2_with fail
  refine (put_any w.heap.size 8 8 8 root 5 ((packed cnt 8).map bN) (M.toList.drop 8) [] _ (by omega) (by rw [show w1.drew.heap = w1.heap from rfl]; have := HG1.out; simpa using this) (by simp [packed_len]) (by rw [List.length_drop, Array.length_toList, HM.out]) (by omega)).mono ?_
  rintro e w2 ⟨rfl, hg2, hm2⟩
  have hm12 : Mod (fun _ => False) w w2 := by
    have h1 : Mod (fun k => k = w.heap.size) (w.alloc (.cells M 5)) w2 := (hm1.trans (mod_of_heap rfl rfl rfl rfl : Mod (fun k => k = w.heap.size) w1 w1.drew)).trans hm2
    exact ((Mod.refl _ _).alloc _).step h1 (fun k hk e => by omega)
  have hE := H.out.mod hm12 (fun h => h) (fun _ _ h => h)
  have c0 : w2.cell? ⟨en, 0, none⟩ = some (.pointer (some ⟨u, 0, none⟩)) := block_cell hE.blk rfl
  have HG2 := Lib.hid hg2
  have HE := Lib.hid hE
  clear hg2 hE HG1
  go_wp2_with fail
  refine (ww_any u i bs (packed cnt 8 ++ packed root 8) w.heap.size 0 16 16 w2 HE.out.out (by simp [packed_len]) (by omega) (by omega) (by omega) (by have := HL.out; omega) (fun j x hj => by
    rw [Nat.zero_add]
    refine block_cell HG2.out ?_
    rw [List.getElem?_toArray]
    simpa using hj) (fun hF => by have := H.out.out.lt hF; omega)).mono ?_
  rintro e w3 ⟨rfl, h3⟩
  obtain ⟨v3, hO3, hm3, hv3⟩ := HE.out.went h3
  have c3 : w3.cell? ⟨en, 0, none⟩ = some (.pointer (some ⟨u, 0, none⟩)) := block_cell hO3.blk rfl
  have HO3 := Lib.hid hO3
  have HV3 := Lib.hid hv3
  clear h3 hO3 hv3
  go_wp2_with fail
  refine (wflush_any u _ _ w3 HO3.out.out (by have := HL.out; simp [packed_len]; omega)).mono ?_
  rintro e w4 ⟨rfl, v4, hI4, hm4, hv4⟩
  have HI4 := Lib.hid hI4
  have HV4 := Lib.hid hv4
  clear hI4 hv4
  go_wp2_with fail
  go_ret
  have hv : v3.ownBlock = i.v.ownBlock ∨ ∃ g, v3.ownBlock = some g ∧ w.heap.size ≤ g := by
    rcases HV3.out with h | ⟨g, h, h'⟩
    · exact Or.inl h
    · exact Or.inr ⟨g, h, Nat.le_trans hm12.size h'⟩
  refine ⟨rfl, v4, HI4.out, ((hm12.mono fun _ _ h => h.elim).trans hm3).step hm4 (WF_step hv), ?_⟩
  rcases HV4.out with h | ⟨g, h, h'⟩
  · rw [h]; exact hv
  · exact Or.inr ⟨g, h, Nat.le_trans (Nat.le_trans hm12.size hm3.size) h'⟩
end Go.Proofs.YtkbonmjbfpdchaaDoor.Buf
