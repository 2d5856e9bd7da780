/- PutUint64; vellum.writer.Write; the encoder's start and finish. -/
import Derived.Test.YtkbonmjbfpdchaaDoorBufio5
import Derived.Test.YtkbonmjbfpdchaaDoorWrNew
import Derived.Test.YtkbonmjbfpdchaaDoorShE
namespace Go.Proofs.YtkbonmjbfpdchaaDoor.Buf
open Go.ChangeShapes Go.WideShapes Go.ChangeAt Go.RowKit Go.Trav Go.Pk
set_option linter.unusedVariables false
set_option maxRecDepth 100000
theorem setCells_mid {g : Nat} {T : TypeId} (vs : List Value) : ∀ (w : World) (A B C : List Value) (o : Nat), w.heap[g]? = some (.cells (A ++ B ++ C).toArray T (0, 0)) → A.length = o → B.length = vs.length →
    (w.setCells g o vs).heap[g]? = some (.cells (A ++ vs ++ C).toArray T (0, 0)) ∧ Mod (fun k => k = g) w (w.setCells g o vs) := by
  induction vs with
  | nil =>
    intro w A B C o h h1 h2
    obtain rfl : B = [] := List.eq_nil_of_length_eq_zero h2
    exact ⟨h, Mod.refl _ _⟩
  | cons v r ih =>
    intro w A B C o h h1 h2
    cases B with
    | nil => simp at h2
    | cons b B' =>
      have hs : (w.setCell ⟨g, o, none⟩ v).heap[g]? = some (.cells ((A ++ [v]) ++ B' ++ C).toArray T (0, 0)) := by
        rw [block_set h]
        congr 2
        simp only [List.append_assoc, List.cons_append, List.nil_append, List.setIfInBounds_toArray]
        rw [List.set_append_right _ _ (by omega), h1, Nat.sub_self]
        rfl
      obtain ⟨i1, i2⟩ := ih _ (A ++ [v]) B' C (o + 1) hs (by simp [h1]) (by simpa using h2)
      refine ⟨by simpa [World.setCells] using i1, ?_⟩
      exact (Mod.setCell (F := fun k => k = g) (Mod.refl _ _) (p := ⟨g, o, none⟩) (fun _ => rfl) _).trans i2
theorem le_packed (n : Nat) : ∀ v, Lib.byteCells (Lib.leBytes n v) = (packed v n).map bN := by
  induction n with
  | zero => intro v; simp [Lib.leBytes, Lib.byteCells, packed]
  | succ n ih =>
    intro v
    rw [packed_head]
    simp only [Lib.leBytes, Lib.byteCells, List.map_cons]
    have := ih (v / 256)
    simp only [Lib.byteCells] at this
    rw [this]
    congr 1
    unfold bN
    congr 1
    simp
theorem list8 {B : List Value} (h : B.length = 8) : ∃ b0 b1 b2 b3 b4 b5 b6 b7, B = [b0, b1, b2, b3, b4, b5, b6, b7] := by
  match B, h with
  | [b0, b1, b2, b3, b4, b5, b6, b7], _ => exact ⟨b0, b1, b2, b3, b4, b5, b6, b7, rfl⟩
theorem put_any (g o n c v : Nat) (T : TypeId) (A B C : List Value) (w : World) (hv : v < 18446744073709551616) (h : w.heap[g]? = some (.cells (A ++ B ++ C).toArray T (0, 0))) (hA : A.length = o) (hB : B.length = 8) (hn : 8 ≤ n) :
    Calls Tryd.prog 67 #[.agg #[], .slice (some ⟨g, o, none⟩) n c, .int .u64 v] w fun e w' => e = .returned (.tuple #[]) ∧ w'.heap[g]? = some (.cells (A ++ (packed v 8).map bN ++ C).toArray T (0, 0)) ∧ Mod (fun k => k = g) w w' := by
  obtain ⟨b0, b1, b2, b3, b4, b5, b6, b7, rfl⟩ := list8 hB
  have hc : ∀ j b, [b0, b1, b2, b3, b4, b5, b6, b7][j]? = some b → w.cell? ⟨g, o + j, none⟩ = some b := by
    intro j b hj
    refine block_cell h ?_
    rw [List.getElem?_toArray, List.append_assoc, List.getElem?_append_right (by omega), hA, Nat.add_sub_cancel_left, List.getElem?_append_left (by have := (List.getElem?_eq_some_iff.1 hj).1; exact this)]
    exact hj
  have hf : ∀ j, w.frozen? ⟨g, o + j, none⟩ = false := fun j => block_free h
  refine (Tryd.binary_LE_PutUint64 g o n c v hv b0 b1 b2 b3 b4 b5 b6 b7 w hn (hc 0 b0 rfl) (hc 1 b1 rfl) (hc 2 b2 rfl) (hc 3 b3 rfl) (hc 4 b4 rfl) (hc 5 b5 rfl) (hc 6 b6 rfl) (hc 7 b7 rfl) (hf 0) (hf 1) (hf 2) (hf 3) (hf 4) (hf 5) (hf 6) (hf 7)).mono ?_
  rintro e w' ⟨rfl, rfl⟩
  rw [le_packed]
  obtain ⟨h1, h2⟩ := setCells_mid ((packed v 8).map bN) (w.alloc (.cells #[] 160)) A [b0, b1, b2, b3, b4, b5, b6, b7] C o (block_alloc h) hA (by simp [packed_len])
  exact ⟨rfl, h1, ((Mod.refl _ _).alloc _).trans h2⟩
/-- Write of some bytes, counted. -/
theorem ww_any (u : Nat) (i : Ids) (bs l : List Nat) (ab ao n c : Nat) (w : World) (h : WOut w u i bs) (hn : l.length = n) (hn4 : n ≤ 4096) (hnc : n ≤ c) (hn1 : 1 ≤ n) (hdl : bs.length + 4096 ≤ 4294967296)
    (hsrc : ∀ j x, (l.map bN)[j]? = some x → w.cell? ⟨ab, ao + j, none⟩ = some x) (hF : ¬ WF u i ab) :
    Calls Tryd.prog 68 #[.pointer (some ⟨u, 0, none⟩), .slice (some ⟨ab, ao, none⟩) n c] w fun e w' => e = .returned (.tuple #[.int .i64 n, .nilIface]) ∧ WWent w w' u i (bs ++ l) := by
  have c0 : w.cell? ⟨u, 0, none⟩ = some (.pointer (some ⟨i.q, 0, none⟩)) := block_cell h.blk rfl
  have H := Lib.hid h
  have HS := Lib.hid hsrc
  have HN := Lib.hid hn
  have HF := Lib.hid hF
  clear h hsrc hn hF
  go_enter Tryd.func68, Tryd.ntmps68
  go_wp2_with fail
  refine (bwrite_any i bs l ab ao n c w H.out.out HN.out hn4 hnc hn1 hdl HS.out (fun hk => HF.out (Or.inr hk))).mono ?_
  rintro e w2 ⟨rfl, v2, hO, hm, hv⟩
  have hb2 := hm.heap H.out.blk H.out.ne
  have c1 : w2.cell? ⟨u, 1, none⟩ = some (.int .i64 bs.length) := block_cell hb2 rfl
  have f1 : w2.frozen? ⟨u, 1, none⟩ = false := block_free hb2
  have HB2 := Lib.hid hb2
  have HO := Lib.hid hO
  have HV := Lib.hid hv
  clear hb2 hO hv
  go_wp2_with fail
  go_ret2
  refine ⟨rfl, WWent.mk H.out HO.out hm HV.out (Mod.setCell (F := fun k => k = u) (Mod.refl _ _) (p := ⟨u, 1, none⟩) (fun _ => rfl) _) ?_⟩
  rw [block_set HB2.out]
  simp [HN.out]
end Go.Proofs.YtkbonmjbfpdchaaDoor.Buf
