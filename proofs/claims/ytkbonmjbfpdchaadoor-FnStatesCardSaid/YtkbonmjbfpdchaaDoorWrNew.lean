/- vellum.newWriter over a new bytes.Buffer; Flush. -/
import Derived.Test.YtkbonmjbfpdchaaDoorWr
import Derived.WalkLawsBesides
namespace Go.Proofs.YtkbonmjbfpdchaaDoor.Buf
open Go.ChangeShapes Go.WideShapes Go.ChangeAt Go.RowKit Go.Trav Go.Pk
set_option linter.unusedVariables false
set_option maxRecDepth 100000
theorem nws_any (b : Nat) (w : World) (h : Is w b (.slice none 0 0) []) :
    Calls Tryd.prog 94 #[.iface 100 (.pointer (some ⟨b, 0, none⟩)), .int .i64 4096] w fun e w' => ∃ q f, e = .returned (.pointer (some ⟨q, 0, none⟩)) ∧ At w' ⟨q, f, b, .slice none 0 0⟩ [] [] ∧ w.heap.size ≤ q ∧ w.heap.size ≤ f ∧ Below w.heap.size w w' := by
  obtain ⟨i0, hi, hz0, hz1, hz2⟩ := info_parts Tryd.info5
  obtain ⟨M, hM⟩ : ∃ M, M = madeCells (Value.int .u8 0).cells ((4096 : Int).toNat * i0.size) := ⟨_, rfl⟩
  have hMs : M.size = 4096 := by rw [hM, size_madeCells, hz1]; rfl
  have hmk : ∀ W : World, (Instr.makeSlice 35 (.int .i64 4096) (.int .i64 4096)).run Tryd.prog W = .ok (.slice (some ⟨W.heap.size, 0, none⟩) 4096 4096) (W.alloc (.cells M 5)) := fun W => by
    have h := run_makeSlice (P := Tryd.prog) W 35 5 i0 (.int .u8 0) Tryd.underlying35 hi hz0 .i64 .i64 4096 4096 (by omega) (by omega) (by rw [hz1]; decide) (by rw [hz2]; decide) (by decide)
    rw [← hM] at h
    simpa using h
  clear hM hi hz0 hz1 hz2
  have hta : ∀ w, (Instr.typeAssert (.iface 100 (.pointer (some ⟨b, 0, none⟩))) 129 170 true).run Tryd.prog w = .ok (.tuple #[.pointer none, .bool false]) w := fun w => by kernel_rfl
  have H := Lib.hid h
  clear h
  go_enter Tryd.func94, Tryd.ntmps94
  go_wp2_with fail
  go_ret
  refine ⟨w.heap.size + 1, w.heap.size, rfl, ⟨?_, ⟨M, ?_, hMs, by simp⟩, by simp, ?_, ?_⟩, by omega, by omega, ((Below.refl _ _).alloc (Nat.le_refl _) _).alloc (by simp) _⟩
  · exact heap_alloc_at _ _ _ (by simp)
  · exact block_alloc (heap_alloc_at _ _ _ rfl)
  · exact H.out.mod (F := fun _ => False) ((((Mod.refl _ _).alloc _).alloc _)) (fun h => h) (fun _ _ h => h)
  · have := H.out.lt
    refine ⟨by simp, ?_, ?_, by simp [Value.ownBlock], by simp [Value.ownBlock]⟩ <;> (show _ ≠ _; simp; omega)
theorem nw_any (b : Nat) (w : World) (h : Is w b (.slice none 0 0) []) :
    Calls Tryd.prog 81 #[.iface 100 (.pointer (some ⟨b, 0, none⟩))] w fun e w' => ∃ q f, e = .returned (.pointer (some ⟨q, 0, none⟩)) ∧ At w' ⟨q, f, b, .slice none 0 0⟩ [] [] ∧ w.heap.size ≤ q ∧ w.heap.size ≤ f ∧ Below w.heap.size w w' := by
  have H := Lib.hid h
  clear h
  go_enter Tryd.func81, Tryd.ntmps81
  go_wp2_with fail
  refine (nws_any b w H.out).mono ?_
  rintro e w1 ⟨q, f, rfl, h1⟩
  have H1 := Lib.hid h1
  clear h1
  go_wp2_with fail
  go_ret
  exact ⟨q, f, rfl, H1.out⟩
theorem new_any (b : Nat) (w : World) (h : Is w b (.slice none 0 0) []) :
    Calls Tryd.prog 66 #[.iface 100 (.pointer (some ⟨b, 0, none⟩))] w fun e w' => ∃ u q f, e = .returned (.pointer (some ⟨u, 0, none⟩)) ∧ WOut w' u ⟨q, f, b, .slice none 0 0⟩ [] ∧ w.heap.size ≤ u ∧ w.heap.size ≤ q ∧ w.heap.size ≤ f ∧ Below w.heap.size w w' := by
  have H := Lib.hid h
  clear h
  go_enter Tryd.func66, Tryd.ntmps66
  go_wp2_with fail
  refine (nw_any b w H.out).mono ?_
  rintro e w1 ⟨q, f, rfl, hA, hq, hf, hb⟩
  have HA := Lib.hid hA
  clear hA
  go_wp2_with fail
  go_ret
  refine ⟨w1.heap.size, q, f, rfl, ⟨heap_alloc_new _ _, ⟨[], [], rfl, HA.out.mod (F := fun _ => False) ((Mod.refl _ _).alloc _) (fun _ _ h => h)⟩, fun hF => ?_⟩, hb.size, hq, hf, hb.alloc hb.size _⟩
  have := HA.out.lt hF
  omega
/-- Flush: all that was written lies in the bytes.Buffer. -/
theorem wflush_any (u : Nat) (i : Ids) (bs : List Nat) (w : World) (h : WOut w u i bs) (hl : bs.length ≤ 4294967296) :
    Calls Tryd.prog 73 #[.pointer (some ⟨u, 0, none⟩)] w fun e w' => e = .returned .nilIface ∧ ∃ v', Is w' i.b v' (bs.map bN) ∧ Mod (WF u i) w w' ∧ (v'.ownBlock = i.v.ownBlock ∨ ∃ g, v'.ownBlock = some g ∧ w.heap.size ≤ g) := by
  have c0 : w.cell? ⟨u, 0, none⟩ = some (.pointer (some ⟨i.q, 0, none⟩)) := block_cell h.blk rfl
  obtain ⟨done, pend, rfl, hA⟩ := h.out
  have HA := Lib.hid hA
  clear h hA
  go_enter Tryd.func73, Tryd.ntmps73
  go_wp2_with fail
  refine (flush_any i done pend w HA.out (by simp at hl; omega)).mono ?_
  rintro e w1 ⟨rfl, v1, h1, h2, h3⟩
  have H1 := Lib.hid h1
  have H3 := Lib.hid h3
  clear h1 h3
  go_wp2_with fail
  go_ret
  exact ⟨rfl, v1, H1.out.bf, h2.mono fun k _ hk => Or.inr hk, H3.out⟩
end Go.Proofs.YtkbonmjbfpdchaaDoor.Buf
