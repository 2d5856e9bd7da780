/- bytes.Buffer: Write and Bytes, with frames. -/
import Derived.Test.YtkbonmjbfpdchaaDoorBuf
namespace Go.Proofs.YtkbonmjbfpdchaaDoor.Buf
open Go.ChangeShapes Go.WideShapes Go.ChangeAt Go.RowKit Go.Trav
set_option linter.unusedVariables false
set_option maxRecDepth 100000
/-- What Write leaves: the bytes behind those that were there; of old blocks only the buffer's and its row may have turned; a row that is another one is new. -/
def Wrote (w : World) (b : Nat) (v : Value) (bs cs : List Value) (w' : World) : Prop :=
  ∃ v', Is w' b v' (bs ++ cs) ∧ Mod (fun k => k = b ∨ v.ownBlock = some k) w w' ∧ (v'.ownBlock = v.ownBlock ∨ ∃ g, v'.ownBlock = some g ∧ w.heap.size ≤ g)
theorem copy_end {w1 : World} {b g l n cap : Nat} {lr : Int} {bs cs : List Value} {cells : Array Value} (hb : w1.heap[b]? = some (.cells #[.slice (some ⟨g, 0, none⟩) (l + n) cap, .int .i64 0, .int .i8 lr] 97 (0, 0))) (hg : w1.heap[g]? = some (.cells cells 5 (0, 0))) (hs : cells.size = cap) (hn : l + n ≤ cap) (hm : cap ≤ maxLen)
    (ht : cells.toList.take l = bs) (hbl : bs.length = l) (hc : cs.length = n) (hn1 : 1 ≤ n) (hgb : g ≠ b) :
    Is (w1.setRow g (cells.toList.take l ++ (cs ++ cells.toList.drop (l + n))).toArray) b (.slice (some ⟨g, 0, none⟩) (l + n) cap) (bs ++ cs) := by
  subst ht
  have hl1 : (List.take l cells.toList).length = l := hbl
  refine ⟨⟨lr, by rw [setRow_other _ _ _ _ (Ne.symm hgb)]; exact hb⟩, ⟨by simp, Or.inr ⟨g, cap, _, by rw [List.length_append, hl1, hc], Nat.zero_le _, setRow_heap w1 g cells _ _ _ hg, by rw [List.length_append, hl1, hc]; exact hn, hm, ?_, ?_⟩⟩, Or.inr (by rw [List.length_append, hl1, hc]; omega), by simp [Value.ownBlock]; exact hgb⟩
  · simp only [List.size_toArray, List.length_append, hl1, hc, List.length_drop, Array.length_toList, hs, Nat.mul_one]
    omega
  · simp only [List.length_append, hl1, hc, Nat.mul_one]
    rw [← List.append_assoc, List.take_left' (by simp only [List.length_append, hl1, hc])]
theorem block_add (a : Addr) (j : Nat) : (a.add j).block = a.block := by
  unfold Addr.add
  split <;> rfl
theorem mod_setRow {F : Nat → Prop} {w w1 : World} (h : Mod F w w1) {g : Nat} (hF : g < w.heap.size → F g) (cs : Array Value) : Mod F w (w1.setRow g cs) := by
  refine ⟨h.os, h.tape, h.output, by simpa using h.size, fun k hk hn => ?_⟩
  by_cases e : k = g
  · subst e; exact absurd (hF hk) hn
  · rw [setRow_other _ _ _ _ e]; exact h.block k hk hn
/-- The copy of n cells behind the first l ones. -/
theorem copy_run (w1 : World) (g l n cap c : Nat) (a : Addr) (cs : List Value) (cells : Array Value) (hg : w1.heap[g]? = some (.cells cells 5 (0, 0))) (hs : cells.size = cap) (hn : l + n ≤ cap) (hc : cs.length = n)
    (hsrc : ∀ j x, cs[j]? = some x → w1.cell? (a.add j) = some x) (h1c : ∀ x ∈ cs, x.oneCell' = true) :
    (Builtin.copy_ #[35, 35] 3 #[.slice (some ⟨g, l, none⟩) n (cap - l), .slice (some a) n c]).run Tryd.prog w1 = .ok (goInt n) (w1.setRow g (cells.toList.take l ++ (cs ++ cells.toList.drop (l + n))).toArray) := by
  have hinfo : (Tryd.prog.info? 5).map (·.size) = some 1 := by
    obtain ⟨i0, hi, -, hz1, -⟩ := info_parts Tryd.info5
    rw [hi]; simp [hz1]
  have := run_copy_row (P := Tryd.prog) w1 35 35 3 5 g l n (cap - l) a n c cells 5 cs Tryd.underlying35 hinfo hg (by rw [hc]; exact (Nat.min_self n).symm) hsrc (by rw [hc]; omega) h1c
  rw [hc, List.append_assoc] at this
  exact this
theorem write_any (b : Nat) (v : Value) (bs cs : List Value) (a : Addr) (n c : Nat) (w : World) (h : Is w b v bs) (h1 : ∀ x ∈ bs, x.oneCell' = true) (hn : cs.length = n) (hn1 : 1 ≤ n) (hab : a.block ≠ b) (hav : v.ownBlock ≠ some a.block)
    (hsrc : ∀ j x, cs[j]? = some x → w.cell? (a.add j) = some x) (h1c : ∀ x ∈ cs, x.oneCell' = true) (hl : bs.length ≤ 4294967296) (hn2 : n ≤ 4294967296) :
    Calls Tryd.prog 129 #[.pointer (some ⟨b, 0, none⟩), .slice (some a) n c] w fun e w' => e = .returned (.tuple #[.int .i64 n, .nilIface]) ∧ Wrote w b v bs cs w' := by
  obtain ⟨lr, hb⟩ := h.blk
  have hbl := block_lt hb
  have c2 : w.cell? ⟨b, 2, none⟩ = some (.int .i8 lr) := block_cell hb rfl
  have f2 : w.frozen? ⟨b, 2, none⟩ = false := block_free hb
  have hb0 : (w.setCell ⟨b, 2, none⟩ (.int .i8 0)).heap[b]? = some (.cells #[v, .int .i64 0, .int .i8 0] 97 (0, 0)) := by rw [block_set hb]; rfl
  have hm0 : Mod (fun k => k = b) w (w.setCell ⟨b, 2, none⟩ (.int .i8 0)) := Mod.setCell (F := fun k => k = b) (Mod.refl _ _) (p := ⟨b, 2, none⟩) (fun _ => rfl) _
  have hs0 : (w.setCell ⟨b, 2, none⟩ (.int .i8 0)).heap.size = w.heap.size := by simp [World.setCell]
  have hsrc0 : ∀ j x, cs[j]? = some x → (w.setCell ⟨b, 2, none⟩ (.int .i8 0)).cell? (a.add j) = some x := fun j x hj => by
    rw [World.cell?_of_block (w := w) (Below.heap_setCell _ _ _ _ (by rw [block_add]; exact hab))]; exact hsrc j x hj
  have HS := Lib.hid hsrc0
  have HS0 := Lib.hid hs0
  have H1 := Lib.hid h1
  have H1c := Lib.hid h1c
  have HB0 := Lib.hid hb0
  have HR := h.row
  have HE := h.ex
  have HNE := h.ne
  clear hsrc hsrc0 h1 h1c hb hb0 hs0 h
  rcases HR.2 with ⟨rfl, h0⟩ | ⟨g, cap, cur, rfl, _, hg, hnc, hcm, hcs, htk⟩
  · obtain rfl : bs = [] := List.eq_nil_of_length_eq_zero h0
    have d0 : (w.setCell ⟨b, 2, none⟩ (.int .i8 0)).cell? ⟨b, 0, none⟩ = some (.slice none 0 0) := block_cell HB0.out rfl
    clear h0 HR HE HNE hav
    go_enter Tryd.func129, Tryd.ntmps129
    go_wp2_with fail
    refine (Tryd.Buffer_tryGrow_none b none 0 0 n _ d0 (Nat.le_refl _) (Nat.zero_le _) (by omega)).mono ?_
    rintro e w' ⟨rfl, rfl⟩
    go_wp2_with fail
    refine (grow_nil b n 0 _ HB0.out hn1 hn2).mono ?_
    rintro e w1 ⟨rfl, g, cap, cells, hb1, hg1, hcs, hlc, hcm, ht, hsz, hmod⟩
    have hgb : g ≠ b := by rw [HS0.out] at hsz; omega
    have hga : ∀ j x, cs[j]? = some x → w1.cell? (a.add j) = some x := fun j x hj => hmod.cell (HS.out j x hj) (by rw [block_add]; exact hab)
    have hcp := copy_run w1 g 0 n cap c a cs cells hg1 hcs hlc hn hga H1c.out
    have hend := copy_end hb1 hg1 hcs hlc hcm ht (by simp) hn hn1 hgb
    have e0 : w1.cell? ⟨b, 0, none⟩ = some (.slice (some ⟨g, 0, none⟩) (0 + n) cap) := block_cell hb1 rfl
    have HEND := Lib.hid hend
    have HG1 := Lib.hid hg1
    rw [Nat.zero_add] at e0
    simp only [Nat.zero_add, Nat.sub_zero] at hcp hlc
    unfold maxLen at hcm
    clear hb1 hend hga hg1 ht hcs
    go_wp2
    go_ret2
    refine ⟨rfl, _, by simpa using HEND.out, ?_, Or.inr ⟨g, rfl, ?_⟩⟩
    · rw [HS0.out] at hsz
      exact mod_setRow ((hm0.trans (hmod.mono fun k hk h => h)).mono fun k hk h => Or.inl h) (fun h => by omega) _
    · rw [HS0.out] at hsz; exact hsz
  · have hl1 : 1 ≤ bs.length := by rcases HE with h | h <;> first | exact h | cases h
    have hgb : g ≠ b := fun e => HNE (by simp [Value.ownBlock, e])
    have hag : a.block ≠ g := fun e => hav (by simp [Value.ownBlock, e])
    simp only [Nat.mul_one] at hcs htk
    have hg0 : (w.setCell ⟨b, 2, none⟩ (.int .i8 0)).heap[g]? = some (.cells cur 5 (0, 0)) := block_set_ne hg (by simp; omega)
    have d0 : (w.setCell ⟨b, 2, none⟩ (.int .i8 0)).cell? ⟨b, 0, none⟩ = some (.slice (some ⟨g, 0, none⟩) bs.length cap) := block_cell HB0.out rfl
    have d1 : (w.setCell ⟨b, 2, none⟩ (.int .i8 0)).frozen? ⟨b, 0, none⟩ = false := block_free HB0.out
    have HG0 := Lib.hid hg0
    have HTK := Lib.hid htk
    have HCS := Lib.hid hcs
    have hgl := block_lt hg
    clear HR HE HNE hav hg hg0 htk hcs
    by_cases hroom : n ≤ cap - bs.length
    · have hb1 : ((w.setCell ⟨b, 2, none⟩ (.int .i8 0)).setCell ⟨b, 0, none⟩ (.slice (some ⟨g, 0, none⟩) (bs.length + n) cap)).heap[b]? = some (.cells #[.slice (some ⟨g, 0, none⟩) (bs.length + n) cap, .int .i64 0, .int .i8 0] 97 (0, 0)) := by rw [block_set HB0.out]; rfl
      have hg1 : ((w.setCell ⟨b, 2, none⟩ (.int .i8 0)).setCell ⟨b, 0, none⟩ (.slice (some ⟨g, 0, none⟩) (bs.length + n) cap)).heap[g]? = some (.cells cur 5 (0, 0)) := block_set_ne HG0.out (by simp; omega)
      have hmod : Mod (fun k => k = b) (w.setCell ⟨b, 2, none⟩ (.int .i8 0)) ((w.setCell ⟨b, 2, none⟩ (.int .i8 0)).setCell ⟨b, 0, none⟩ (.slice (some ⟨g, 0, none⟩) (bs.length + n) cap)) := Mod.setCell (F := fun k => k = b) (Mod.refl _ _) (p := ⟨b, 0, none⟩) (fun _ => rfl) _
      have HB1 := Lib.hid hb1
      have HG1 := Lib.hid hg1
      have HM := Lib.hid hmod
      clear hb1 hg1 hmod
      go_enter Tryd.func129, Tryd.ntmps129
      go_wp2_with fail
      refine (Tryd.Buffer_tryGrow_room b _ bs.length cap n _ d0 d1 hnc hcm hroom).mono ?_
      rintro e w1 ⟨rfl, hw1⟩
      rw [← hw1] at HB1 HG1 HM
      clear hw1
      have hga : ∀ j x, cs[j]? = some x → w1.cell? (a.add j) = some x := fun j x hj => HM.out.cell (HS.out j x hj) (by rw [block_add]; exact hab)
      have hcp := copy_run w1 g bs.length n cap c a cs cur HG1.out HCS.out (by omega) hn hga H1c.out
      have hend := copy_end HB1.out HG1.out HCS.out (by omega) hcm HTK.out rfl hn hn1 hgb
      have e0 : w1.cell? ⟨b, 0, none⟩ = some (.slice (some ⟨g, 0, none⟩) (bs.length + n) cap) := block_cell HB1.out rfl
      have HEND := Lib.hid hend
      have hne : ¬ cap = bs.length := by omega
      have hlc : bs.length + n ≤ cap := by omega
      unfold maxLen at hcm
      clear hend hga
      go_wp2
      go_ret2
      refine ⟨rfl, _, HEND.out, ?_, Or.inl rfl⟩
      exact mod_setRow (F := fun k => k = b ∨ (Value.slice (some ⟨g, 0, none⟩) bs.length cap).ownBlock = some k) ((hm0.trans (HM.out.mono fun k hk h => h)).mono fun k hk h => Or.inl h) (fun h => Or.inr rfl) _
    · go_enter Tryd.func129, Tryd.ntmps129
      go_wp2_with fail
      refine (Tryd.Buffer_tryGrow_none b _ bs.length cap n _ d0 hnc hcm (by omega)).mono ?_
      rintro e w' ⟨rfl, rfl⟩
      go_wp2_with fail
      refine (grow_row b g bs.length cap n 0 cur _ HB0.out HG0.out hgb hl1 hl hnc HCS.out (by rw [HTK.out]; exact H1.out) (by omega) hn2).mono ?_
      rintro e w1 ⟨rfl, g1, cap1, cells, hb1, hg1, hcs, hlc, hcm1, ht, hsz, hmod⟩
      have hgb1 : g1 ≠ b := by rw [HS0.out] at hsz; omega
      have hga : ∀ j x, cs[j]? = some x → w1.cell? (a.add j) = some x := fun j x hj => hmod.cell (HS.out j x hj) (by rw [block_add]; exact hab)
      have hcp := copy_run w1 g1 bs.length n cap1 c a cs cells hg1 hcs hlc hn hga H1c.out
      have hend := copy_end hb1 hg1 hcs hlc hcm1 (ht.trans HTK.out) rfl hn hn1 hgb1
      have e0 : w1.cell? ⟨b, 0, none⟩ = some (.slice (some ⟨g1, 0, none⟩) (bs.length + n) cap1) := block_cell hb1 rfl
      have HEND := Lib.hid hend
      have HG1 := Lib.hid hg1
      have hne : ¬ cap1 = bs.length := by omega
      unfold maxLen at hcm1
      clear hb1 hend hga hg1 ht hcs
      go_wp2
      go_ret2
      rw [HS0.out] at hsz
      refine ⟨rfl, _, HEND.out, ?_, Or.inr ⟨g1, rfl, hsz⟩⟩
      exact mod_setRow ((hm0.trans (hmod.mono fun k hk h => h)).mono fun k hk h => Or.inl h) (fun h => by omega) _
/-- Bytes: what was written, in a row of the buffer's. -/
theorem bytes_any (b : Nat) (v : Value) (bs : List Value) (w : World) (h : Is w b v bs) :
    Calls Tryd.prog 44 #[.pointer (some ⟨b, 0, none⟩)] w fun e w' => ∃ v', e = .returned v' ∧ w'.ownsRow 0 5 1 v' bs.length bs ∧ ∃ k, w' = w.drewN k := by
  obtain ⟨lr, hb⟩ := h.blk
  exact Tryd.Buffer_Bytes 0 b bs w ⟨Nat.zero_le _, v, lr, hb, h.row, h.ne⟩
end Go.Proofs.YtkbonmjbfpdchaaDoor.Buf
