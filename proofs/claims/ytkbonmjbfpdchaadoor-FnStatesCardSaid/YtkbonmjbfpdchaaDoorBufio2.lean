/- bufio.Writer: WriteByte. -/
import Derived.Test.YtkbonmjbfpdchaaDoorBufio
namespace Go.Proofs.YtkbonmjbfpdchaaDoor.Buf
open Go.ChangeShapes Go.WideShapes Go.ChangeAt Go.RowKit Go.Trav
set_option linter.unusedVariables false
set_option maxRecDepth 100000
/-- All that was written, flushed or not. -/
def Out (w : World) (i : Ids) (bs : List Nat) : Prop := ∃ done pend, bs = done ++ pend ∧ At w i done pend
def Went (w w' : World) (i : Ids) (bs : List Nat) : Prop :=
  ∃ v', Out w' { i with v := v' } bs ∧ Mod i.F w w' ∧ (v'.ownBlock = i.v.ownBlock ∨ ∃ g, v'.ownBlock = some g ∧ w.heap.size ≤ g)
theorem Goes.went {w w' : World} {i : Ids} {done pend : List Nat} (h : Goes w w' i done pend) : Went w w' i (done ++ pend) := by
  obtain ⟨v', h1, h2, h3⟩ := h
  exact ⟨v', ⟨_, _, rfl, h1⟩, h2, h3⟩
theorem F_step {w w1 : World} {i : Ids} {v1 : Value} (h2 : v1.ownBlock = i.v.ownBlock ∨ ∃ g, v1.ownBlock = some g ∧ w.heap.size ≤ g) : ∀ k, k < w.heap.size → ({ i with v := v1 } : Ids).F k → i.F k := by
  intro k hk hF
  rcases hF with h | h | h | h
  · exact Or.inl h
  · exact Or.inr (Or.inl h)
  · exact Or.inr (Or.inr (Or.inl h))
  · rcases h2 with h2 | ⟨g, h2, h3⟩
    · exact Or.inr (Or.inr (Or.inr (h2 ▸ h)))
    · rw [show ({ i with v := v1 } : Ids).v = v1 from rfl, h2] at h
      cases h
      omega
theorem Went.trans {w w1 w2 : World} {i : Ids} {v1 : Value} {bs : List Nat} (h1 : Mod i.F w w1) (h2 : v1.ownBlock = i.v.ownBlock ∨ ∃ g, v1.ownBlock = some g ∧ w.heap.size ≤ g) (h : Went w1 w2 { i with v := v1 } bs) : Went w w2 i bs := by
  obtain ⟨v2, ha, hm, hv⟩ := h
  refine ⟨v2, ha, h1.step hm (F_step (w1 := w1) h2), ?_⟩
  rcases hv with hv | ⟨g, hv, hg⟩
  · rw [hv]; exact h2
  · exact Or.inr ⟨g, hv, Nat.le_trans h1.size hg⟩
theorem At.same {w w' : World} {i : Ids} {done pend : List Nat} (h : At w i done pend) (hh : w'.heap = w.heap) : At w' i done pend := by
  obtain ⟨arr, h1, h2, h3⟩ := h.fb
  exact ⟨by rw [hh]; exact h.bw, ⟨arr, by rw [hh]; exact h1, h2, h3⟩, h.le, h.bf.same hh, h.ne⟩
/-- One more byte, put behind the others. -/
theorem At.put {w : World} {i : Ids} {done pend : List Nat} (h : At w i done pend) (hn : pend.length < 4096) (z : Nat) :
    At ((w.setCell ⟨i.f, pend.length, none⟩ (bN z)).setCell ⟨i.q, 2, none⟩ (.int .i64 (pend.length + 1 : Nat))) i done (pend ++ [z]) ∧ Mod i.F w ((w.setCell ⟨i.f, pend.length, none⟩ (bN z)).setCell ⟨i.q, 2, none⟩ (.int .i64 (pend.length + 1 : Nat))) := by
  obtain ⟨arr, h1, h2, h3⟩ := h.fb
  obtain ⟨n1, n2, n3, n4, n5⟩ := h.ne
  have hm : Mod i.F w ((w.setCell ⟨i.f, pend.length, none⟩ (bN z)).setCell ⟨i.q, 2, none⟩ (.int .i64 (pend.length + 1 : Nat))) :=
    Mod.setCell (F := i.F) (Mod.setCell (F := i.F) (Mod.refl _ _) (p := ⟨i.f, pend.length, none⟩) (fun _ => Or.inr (Or.inl rfl)) _) (p := ⟨i.q, 2, none⟩) (fun _ => Or.inl rfl) _
  refine ⟨⟨?_, ⟨arr.setIfInBounds pend.length (bN z), ?_, by simpa using h2, ?_⟩, by simp; omega, ?_, ⟨n1, n2, n3, n4, n5⟩⟩, hm⟩
  · rw [block_set (block_set_ne h.bw (by simpa using n1.symm))]
    simp
  · exact block_set_ne (block_set h1) (by simpa using n1)
  · have hl : pend.length < arr.toList.length := by simp; omega
    rw [Array.toList_setIfInBounds, List.length_append, List.length_singleton, List.take_add_one, List.take_set_of_le (Nat.le_refl _), List.getElem?_set_self hl, h3]
    simp
  · exact h.bf.mod (F := fun k => k = i.f ∨ k = i.q) (Mod.setCell (F := fun k => k = i.f ∨ k = i.q) (Mod.setCell (F := fun k => k = i.f ∨ k = i.q) (Mod.refl _ _) (p := ⟨i.f, pend.length, none⟩) (fun _ => Or.inl rfl) _) (p := ⟨i.q, 2, none⟩) (fun _ => Or.inr rfl) _)
      (fun e => e.elim (fun e => n3 e.symm) (fun e => n2 e.symm)) (fun k hk e => e.elim (fun e => n5 (by rw [hk, e])) (fun e => n4 (by rw [hk, e])))
theorem writeB_any (i : Ids) (bs : List Nat) (z : Int) (w : World) (h : Out w i bs) (hl : bs.length ≤ 4294967296) (h0 : 0 ≤ z) :
    Calls Tryd.prog 97 #[.pointer (some ⟨i.q, 0, none⟩), .int .u8 z] w fun e w' => e = .returned .nilIface ∧ Went w w' i (bs ++ [z.toNat]) := by
  obtain ⟨done, pend, rfl, hA⟩ := h
  obtain ⟨zn, rfl⟩ := Int.eq_ofNat_of_zero_le h0
  rw [Int.toNat_natCast]
  have hle := hA.le
  have c0 : w.cell? ⟨i.q, 0, none⟩ = some .nilIface := block_cell hA.bw rfl
  have HA := Lib.hid hA
  by_cases hn : pend.length < 4096
  · have hz : decide ((4096 : Int) - pend.length ≤ 0) = false := by simp; omega
    have HPUT := Lib.hid (hA.put hn zn)
    obtain ⟨arr, hf, hfs, _⟩ := hA.fb
    have c1 : w.cell? ⟨i.q, 1, none⟩ = some (.slice (some ⟨i.f, 0, none⟩) 4096 4096) := block_cell hA.bw rfl
    have c2 : w.cell? ⟨i.q, 2, none⟩ = some (.int .i64 pend.length) := block_cell hA.bw rfl
    have f2 : w.frozen? ⟨i.q, 2, none⟩ = false := block_free hA.bw
    have g1 : w.frozen? ⟨i.f, pend.length, none⟩ = false := block_free hf
    obtain ⟨x, hx⟩ : ∃ x, arr[pend.length]? = some x := ⟨arr[pend.length], Array.getElem?_eq_getElem (by omega)⟩
    have g2 : w.cell? ⟨i.f, pend.length, none⟩ = some x := block_cell hf hx
    have n1 := hA.ne.1
    have hI1 : (0 : Int) ≤ (pend.length : Int) := by omega
    have hI2 : (pend.length : Int) < 4096 := by omega
    generalize hp : pend.length = n at *
    have HP := Lib.hid hp
    clear hA hf hfs hx hp hn
    go_enter Tryd.func97, Tryd.ntmps97
    go_wp2_with fail
    refine (avail_any i.q i.f n _ _ _ (by have := HA.out.bw; rw [HP.out] at this; exact this) hle).mono ?_
    rintro e w1 ⟨rfl, k, hw1⟩
    have hh : w1.heap = w.heap := by rw [hw1]; rfl
    have hm1 : Mod i.F w w1 := by rw [hw1]; exact (Mod.refl _ _).drewN k
    have c1' := cell_same c1 hh
    have c2' := cell_same c2 hh
    have c0' := cell_same c0 hh
    have hA1 : At w1 i done pend := HA.out.same hh
    have hput := hA1.put (by have := HP.out; omega) zn
    rw [HP.out] at hput
    obtain ⟨arr1, hf1, hfs1, _⟩ := hA1.fb
    have f2' : w1.frozen? ⟨i.q, 2, none⟩ = false := block_free hA1.bw
    have g1' : w1.frozen? ⟨i.f, n, none⟩ = false := block_free hf1
    obtain ⟨x', hx'⟩ : ∃ x, arr1[n]? = some x := ⟨arr1[n]'(by omega), Array.getElem?_eq_getElem (by omega)⟩
    have g2' : w1.cell? ⟨i.f, n, none⟩ = some x' := block_cell hf1 hx'
    have HPUT1 := Lib.hid hput
    clear hw1 hh hA1 hf1 hfs1 hx' hput HPUT c0 c1 c2 f2 g1 g2
    go_wp2_with fail
    go_still_tail 10, (by kernel_rfl)
    change wpList _ _ _ _ _ w1.drew
    go_wp2_with fail
    go_ret
    obtain ⟨hp1, hp2⟩ := HPUT1.out
    refine ⟨rfl, i.v, ⟨done, pend ++ [zn], by simp, hp1.same ?_⟩, (hm1.trans (hp2.trans (mod_of_heap ?_ rfl rfl rfl))), Or.inl rfl⟩
    all_goals rw [← Int.natCast_succ]; rfl
  · have hn1 : pend.length = 4096 := by omega
    have hz : ((4096 : Nat) : Int) = pend.length := by omega
    have HP := Lib.hid hn1
    have HL := Lib.hid hl
    clear hA hn hn1 hz hl hle
    go_enter Tryd.func97, Tryd.ntmps97
    go_wp2_with fail
    refine (avail_any i.q i.f 4096 _ _ _ (by have := HA.out.bw; rw [HP.out] at this; exact this) (Nat.le_refl _)).mono ?_
    rintro e w1 ⟨rfl, k, hw1⟩
    have hh : w1.heap = w.heap := by rw [hw1]; rfl
    have hm1 : Mod i.F w w1 := by rw [hw1]; exact (Mod.refl _ _).drewN k
    have HA1 := Lib.hid (HA.out.same hh)
    clear hw1 hh c0
    go_wp2_with fail
    refine (flush_any i done pend _ HA1.out (by have := HL.out; simp at this; omega)).mono ?_
    rintro e w2 ⟨rfl, v2, hA2, hm2, hv2⟩
    have hput := hA2.put (by simp) zn
    obtain ⟨arr1, hf1, hfs1, _⟩ := hA2.fb
    have c1' : w2.cell? ⟨i.q, 1, none⟩ = some (.slice (some ⟨i.f, 0, none⟩) 4096 4096) := block_cell hA2.bw rfl
    have c2' : w2.cell? ⟨i.q, 2, none⟩ = some (.int .i64 0) := block_cell hA2.bw rfl
    have f2' : w2.frozen? ⟨i.q, 2, none⟩ = false := block_free hA2.bw
    have g1' : w2.frozen? ⟨i.f, 0, none⟩ = false := block_free hf1
    obtain ⟨x', hx'⟩ : ∃ x, arr1[0]? = some x := ⟨arr1[0]'(by omega), Array.getElem?_eq_getElem (by omega)⟩
    have g2' : w2.cell? ⟨i.f, 0, none⟩ = some x' := block_cell hf1 hx'
    have n1 : i.q ≠ i.f := hA2.ne.1
    have HPUT1 := Lib.hid hput
    have HV2 := Lib.hid hv2
    clear hA2 hf1 hfs1 hx' hput hv2
    go_wp2_with fail
    go_still_tail 10, (by kernel_rfl)
    change wpList _ _ _ _ _ w2.drew
    go_wp2_with fail
    go_ret
    obtain ⟨hp1, hp2⟩ := HPUT1.out
    have hs : w.heap.size ≤ w1.heap.size := hm1.size
    refine ⟨rfl, v2, ⟨_, [] ++ [zn], by simp, hp1.same rfl⟩, ?_, ?_⟩
    · refine (hm1.trans hm2).step (hp2.trans (mod_of_heap rfl rfl rfl rfl)) (F_step (w1 := w2) ?_)
      rcases HV2.out with h | ⟨g, h, h'⟩
      · exact Or.inl h
      · exact Or.inr ⟨g, h, by omega⟩
    · rcases HV2.out with h | ⟨g, h, h'⟩
      · exact Or.inl h
      · exact Or.inr ⟨g, h, by omega⟩
end Go.Proofs.YtkbonmjbfpdchaaDoor.Buf
