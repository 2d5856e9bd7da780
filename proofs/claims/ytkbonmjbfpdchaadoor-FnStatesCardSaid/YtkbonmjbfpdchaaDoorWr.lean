/- vellum.writer: WriteByte, Flush, WritePackedUintIn. -/
import Derived.Test.YtkbonmjbfpdchaaDoorBufio2
import Derived.Test.YtkbonmjbfpdchaaDoorPk
namespace Go.Proofs.YtkbonmjbfpdchaaDoor.Buf
open Go.ChangeShapes Go.WideShapes Go.ChangeAt Go.RowKit Go.Trav Go.Pk
set_option linter.unusedVariables false
set_option maxRecDepth 100000
/-- A vellum.writer in block u: it has written bs. -/
structure WOut (w : World) (u : Nat) (i : Ids) (bs : List Nat) : Prop where
  blk : w.heap[u]? = some (.cells #[.pointer (some ⟨i.q, 0, none⟩), .int .i64 bs.length] 173 (0, 0))
  out : Out w i bs
  ne : ¬ i.F u
def WF (u : Nat) (i : Ids) (k : Nat) : Prop := k = u ∨ i.F k
def WWent (w w' : World) (u : Nat) (i : Ids) (bs : List Nat) : Prop :=
  ∃ v', WOut w' u { i with v := v' } bs ∧ Mod (WF u i) w w' ∧ (v'.ownBlock = i.v.ownBlock ∨ ∃ g, v'.ownBlock = some g ∧ w.heap.size ≤ g)
theorem WF_step {w : World} {u : Nat} {i : Ids} {v1 : Value} (h2 : v1.ownBlock = i.v.ownBlock ∨ ∃ g, v1.ownBlock = some g ∧ w.heap.size ≤ g) : ∀ k, k < w.heap.size → WF u { i with v := v1 } k → WF u i k := by
  intro k hk hF
  rcases hF with h | h
  · exact Or.inl h
  · exact Or.inr (F_step (w1 := w) h2 k hk h)
theorem WWent.trans {w w1 w2 : World} {u : Nat} {i : Ids} {v1 : Value} {bs : List Nat} (h1 : Mod (WF u i) w w1) (h2 : v1.ownBlock = i.v.ownBlock ∨ ∃ g, v1.ownBlock = some g ∧ w.heap.size ≤ g) (h : WWent w1 w2 u { i with v := v1 } bs) : WWent w w2 u i bs := by
  obtain ⟨v2, ha, hm, hv⟩ := h
  refine ⟨v2, ha, h1.step hm (WF_step h2), ?_⟩
  rcases hv with hv | ⟨g, hv, hg⟩
  · rw [hv]; exact h2
  · exact Or.inr ⟨g, hv, Nat.le_trans h1.size hg⟩
theorem Out.lt {w : World} {i : Ids} {bs : List Nat} (h : Out w i bs) {k : Nat} (hk : i.F k) : k < w.heap.size := by
  obtain ⟨_, _, _, hA⟩ := h; exact hA.lt hk
theorem Out.mod {F : Nat → Prop} {w w' : World} {i : Ids} {bs : List Nat} (h : Out w i bs) (hm : Mod F w w') (hF : ∀ k, i.F k → ¬ F k) : Out w' i bs := by
  obtain ⟨d, p, e, hA⟩ := h; exact ⟨d, p, e, hA.mod hm hF⟩
theorem WOut.lt {w : World} {u : Nat} {i : Ids} {bs : List Nat} (h : WOut w u i bs) {k : Nat} (hk : WF u i k) : k < w.heap.size := by
  rcases hk with rfl | hk
  · exact block_lt h.blk
  · exact h.out.lt hk
theorem WOut.mod {F : Nat → Prop} {w w' : World} {u : Nat} {i : Ids} {bs : List Nat} (h : WOut w u i bs) (hm : Mod F w w') (hF : ∀ k, WF u i k → ¬ F k) : WOut w' u i bs :=
  ⟨hm.heap h.blk (hF _ (Or.inl rfl)), h.out.mod hm (fun k hk => hF k (Or.inr hk)), h.ne⟩
theorem WWent.mk {w w2 w3 : World} {u : Nat} {i : Ids} {v2 : Value} {bs bs' : List Nat} (h : WOut w u i bs) (h1 : Out w2 { i with v := v2 } bs') (hm : Mod i.F w w2) (hv : v2.ownBlock = i.v.ownBlock ∨ ∃ g, v2.ownBlock = some g ∧ w.heap.size ≤ g)
    (h3 : Mod (fun k => k = u) w2 w3) (hb : w3.heap[u]? = some (.cells #[.pointer (some ⟨i.q, 0, none⟩), .int .i64 bs'.length] 173 (0, 0))) : WWent w w3 u i bs' := by
  have hu := block_lt h.blk
  have hne : ¬ ({ i with v := v2 } : Ids).F u := fun hF => h.ne (F_step (w1 := w) hv u hu hF)
  refine ⟨v2, ⟨hb, h1.mod h3 (fun k hk e => hne (e ▸ hk)), hne⟩, (hm.mono fun k _ hk => Or.inr hk).step h3 (fun k _ hk => Or.inl hk), hv⟩
theorem wb_any (u : Nat) (i : Ids) (bs : List Nat) (z : Int) (w : World) (h : WOut w u i bs) (hl : bs.length ≤ 4294967296) (h0 : 0 ≤ z) :
    Calls Tryd.prog 86 #[.pointer (some ⟨u, 0, none⟩), .int .u8 z] w fun e w' => e = .returned .nilIface ∧ WWent w w' u i (bs ++ [z.toNat]) := by
  have c0 : w.cell? ⟨u, 0, none⟩ = some (.pointer (some ⟨i.q, 0, none⟩)) := block_cell h.blk rfl
  have H := Lib.hid h
  clear h
  go_enter Tryd.func86, Tryd.ntmps86
  go_wp2_with fail
  refine (writeB_any i bs z w H.out.out hl h0).mono ?_
  rintro e w2 ⟨rfl, v2, hO, hm, hv⟩
  have hb2 := hm.heap H.out.blk H.out.ne
  have c1 : w2.cell? ⟨u, 1, none⟩ = some (.int .i64 bs.length) := block_cell hb2 rfl
  have f1 : w2.frozen? ⟨u, 1, none⟩ = false := block_free hb2
  have HB2 := Lib.hid hb2
  have HO := Lib.hid hO
  have HV := Lib.hid hv
  clear hb2 hO hv
  go_wp2_with fail
  go_ret
  refine ⟨rfl, WWent.mk H.out HO.out hm HV.out (Mod.setCell (F := fun k => k = u) (Mod.refl _ _) (p := ⟨u, 1, none⟩) (fun _ => rfl) _) ?_⟩
  rw [block_set HB2.out]
  simp
theorem in_any (u : Nat) (i : Ids) (bs : List Nat) (v n : Nat) (w : World) (h : WOut w u i bs) (hl : bs.length ≤ 4294967000) (hv : v < 18446744073709551616) (hn : n ≤ 8) :
    Calls Tryd.prog 85 #[.pointer (some ⟨u, 0, none⟩), .int .u64 v, .int .i64 n] w fun e w' => e = .returned .nilIface ∧ WWent w w' u i (bs ++ packed v n) := by
  have H := Lib.hid h
  have HV := Lib.hid hv
  clear h hv
  go_enter Tryd.func85, Tryd.ntmps85
  go_wp2_with fail
  go_loopw [7, 8] (fun sh _ wr => ∃ k : Nat, sh = .int .u64 (8 * k : Nat) ∧ k ≤ n ∧ Hid (WWent w wr u i (bs ++ packed v k))) (fun sh _ _ => n - (intOf sh).toNat / 8)
  case atStart => exact ⟨0, rfl, Nat.zero_le _, Lib.hid ⟨i.v, by simpa [packed] using H.out, Mod.refl _ _, Or.inl rfl⟩⟩
  case round =>
    obtain ⟨k, rfl, hk, HW⟩ := hrel
    by_cases hlt : k < n
    · have hI1 : (0 : Int) ≤ (8 * k : Nat) := by omega
      have hI2 : ((8 * k : Nat) : Int) < 64 := by omega
      obtain ⟨v1, hO, hm, hv1⟩ := HW
      have hlen : (bs ++ packed v k).length ≤ 4294967296 := by simp [packed_len]; omega
      have e1 : ((v : Int) / 2 ^ (8 * k) % 256).toNat = v / 256 ^ k % 256 := by
        rw [show (256 : Nat) ^ k = 2 ^ (8 * k) by rw [show (256 : Nat) = 2 ^ 8 from rfl, ← Nat.pow_mul]]
        rw [show (2 : Int) ^ (8 * k) = ((2 ^ (8 * k) : Nat) : Int) by simp]
        omega
      have E1 := Lib.hid e1
      have HO := Lib.hid hO
      have HL := Lib.hid hlen
      have HV1 := Lib.hid hv1
      have hp : (0 : Int) ≤ (v : Int) / 2 ^ (8 * k) % 256 := by omega
      have hlt2 : 8 * (k : Int) < (n : Int) * 8 := by omega
      clear e1 hO hlen hv1
      go_wp2_with fail
      refine (wb_any u _ _ _ wr HO.out HL.out hp).mono ?_
      rintro e w2 ⟨rfl, hw⟩
      have HW2 := Lib.hid hw
      clear hw
      go_wp2_with fail
      go_roundw
      case rel =>
        refine ⟨k + 1, by rw [show ((8 * (k + 1) : Nat) : Int) = 8 * (k : Int) + 8 by omega], by omega, ?_⟩
        have h1 := WWent.trans hm HV1.out HW2.out
        rw [E1.out, List.append_assoc, ← packed_succ] at h1
        exact Lib.hid h1
      case measure => simp [intOf]; omega
    · obtain rfl : k = n := by omega
      have hlt2 : ¬ 8 * (k : Int) < (k : Int) * 8 := by omega
      go_wp2_with fail
      go_ret
      exact ⟨rfl, HW.out⟩
end Go.Proofs.YtkbonmjbfpdchaaDoor.Buf
