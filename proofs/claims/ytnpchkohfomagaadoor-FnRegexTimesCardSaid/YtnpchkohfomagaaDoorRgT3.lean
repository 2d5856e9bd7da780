/- FnRegexTimes: the law. -/
import Derived.Test.YtnpchkohfomagaaDoorRgJa
import Derived.Test.YtnpchkohfomagaaDoorRgH2
import Derived.Test.YtnpchkohfomagaaDoorRgT4
import Derived.Deep.DeepCutAuto
import Derived.Deep.CutRange
import Derived.Deep.RegionWith
import Derived.Deep.RegionLaw
import Derived.Deep.RegionHeld3
namespace Go.Proofs.YtnpchkohfomagaaDoor.Rgy
open Go.ChangeShapes Go.WideShapes Go.ChangeAt Go.RowKit Go.Trav Go.Rg Go.Utf Go.Proofs.YtnpchkohfomagaaDoor.Seq Go.Proofs.YtnpchkohfomagaaDoor.Sparse Go.Proofs.YtnpchkohfomagaaDoor.Rgw Go.Proofs.YtnpchkohfomagaaDoor.Rgq
set_option linter.unusedVariables false
set_option linter.unusedSimpArgs false
set_option maxRecDepth 100000
theorem times_fine {r : Rw} (h : places 4 (ex 4 r) * 6 ≤ 160) : Fine 4 11000 (ex 4 r) ∧ places 4 (ex 4 r) ≤ 1000 := by
  have hB : exB 4 ≤ 1562 := by decide
  exact ⟨(ex_fine 4 r (by omega)).more (by omega), by omega⟩
/-- The part and its star in memory. -/
structure TS (r : Rw) (N b9 b11 : Nat) (cA cS : List Value) (w wx : World) : Prop where
  k9 : wx.heap[b9]? = some (.cells cA.toArray 35 (0, 0))
  k11 : wx.heap[b11]? = some (.cells cS.toArray 35 (0, 0))
  hA : RxI wx (fun g => g < N) 4 (ex 4 r) cA
  hS : RxI wx (fun g => g < N) 5 (nod 14 [ex 4 r]) cS
  sz : N ≤ wx.heap.size
  bl : Below w.heap.size w wx
theorem TS.of {r : Rw} {b9 : Nat} {a0 a1 a2 a3 a4 a5 a6 : Value} {w w7 w8 : World} (k9 : w7.heap[b9]? = some (.cells #[a0, a1, a2, a3, a4, a5, a6] 35 (0, 0))) (hA : RxI w7 (fun g => g < w7.heap.size) 4 (ex 4 r) [a0, a1, a2, a3, a4, a5, a6]) (bl : Below w.heap.size w w7)
    (hb8 : Below (w7.alloc (.cells #[a0, a1, a2, a3, a4, a5, a6] 35)).heap.size (w7.alloc (.cells #[a0, a1, a2, a3, a4, a5, a6] 35)) w8) :
    TS r (w7.heap.size + 1) b9 w8.heap.size [a0, a1, a2, a3, a4, a5, a6] [.int .i64 14, .slice none 0 0, .int .i64 0, .int .i64 0, .bool false, .bool false, .slice (some ⟨w7.heap.size, 0, none⟩) 1 1] w (w8.alloc (.cells #[.int .i64 14, .slice none 0 0, .int .i64 0, .int .i64 0, .bool false, .bool false, .slice (some ⟨w7.heap.size, 0, none⟩) 1 1] 35)) := by
  have hb0 : Below w7.heap.size w7 (w7.alloc (.cells #[a0, a1, a2, a3, a4, a5, a6] 35)) := (Below.refl _ _).alloc (Nat.le_refl _) _
  have hb9 : Below w8.heap.size w8 (w8.alloc (.cells #[.int .i64 14, .slice none 0 0, .int .i64 0, .int .i64 0, .bool false, .bool false, .slice (some ⟨w7.heap.size, 0, none⟩) 1 1] 35)) := (Below.refl _ _).alloc (Nat.le_refl _) _
  have h8 : w7.heap.size + 1 ≤ w8.heap.size := by have := hb8.size; simpa using this
  have hbl : Below w7.heap.size w7 (w8.alloc (.cells #[.int .i64 14, .slice none 0 0, .int .i64 0, .int .i64 0, .bool false, .bool false, .slice (some ⟨w7.heap.size, 0, none⟩) 1 1] 35)) := (hb0.trans (hb8.mono (by simp))).trans (hb9.mono (by omega))
  have hA' := RxI.wide (R' := fun g => g < w7.heap.size + 1) (fun g hg => by omega) _ _ _ (RxI.below hbl _ _ _ hA)
  exact ⟨up_b hbl k9, heap_alloc_new w8 _, hA', ri1 (o := 14) (mn := 0) (mx := 0) (by omega) (up_b hb9 (up_b hb8 (heap_alloc_new w7 _))) (by show w7.heap.size < w7.heap.size + 1; omega) hA', by simp; omega, bl.trans (hbl.mono bl.size)⟩
theorem TI.of {r : Rw} {N b9 b11 : Nat} {cA cS : List Value} {w wx : World} (h : TS r N b9 b11 cA cS w wx) : TI r N b9 b11 wx.heap.size cA cS w (wx.alloc (.cells #[.int .i64 2, .slice none 0 0, .int .i64 0, .int .i64 0, .bool false, .bool false, .slice none 0 0] 35)) := by
  have hb : Below wx.heap.size wx (wx.alloc (.cells #[.int .i64 2, .slice none 0 0, .int .i64 0, .int .i64 0, .bool false, .bool false, .slice none 0 0] 35)) := (Below.refl _ _).alloc (Nat.le_refl _) _
  exact ⟨up_b hb h.k9, up_b hb h.k11, heap_alloc_new wx _, RxI.below hb _ _ _ h.hA, RxI.below hb _ _ _ h.hS, by have := h.sz; simp; omega, h.bl.trans (hb.mono h.bl.size)⟩
/-- .. and the repeats. -/
structure TR (r : Rw) (N b9 b11 b12 b15 c15 : Nat) (mx : Int) (n : Nat) (cA cS : List Value) (w wx : World) : Prop where
  ti : TI r N b9 b11 b12 cA cS w wx
  k : wx.heap[b15]? = some (.cells #[.int .i64 17, .slice none 0 0, .int .i64 (n : Int), .int .i64 mx, .bool false, .bool false, .slice (some ⟨c15, 0, none⟩) 1 1] 35 (0, 0))
  h : RxV wx 5 (rep n mx (ex 4 r)) [.int .i64 17, .slice none 0 0, .int .i64 (n : Int), .int .i64 mx, .bool false, .bool false, .slice (some ⟨c15, 0, none⟩) 1 1]
theorem TR.below {r : Rw} {N b9 b11 b12 b15 c15 : Nat} {mx : Int} {n : Nat} {cA cS : List Value} {w wx wy : World} (h : TR r N b9 b11 b12 b15 c15 mx n cA cS w wx) (hb : Below wx.heap.size wx wy) : TR r N b9 b11 b12 b15 c15 mx n cA cS w wy :=
  ⟨h.ti.below hb, up_b hb h.k, RxV.below hb _ _ _ h.h⟩
theorem TR.of {r : Rw} {N b9 b11 b12 : Nat} (mx : Int) (n : Nat) {a0 a1 a2 a3 a4 a5 a6 : Value} {cS : List Value} {w wx : World} (h : TI r N b9 b11 b12 [a0, a1, a2, a3, a4, a5, a6] cS w wx) :
    TR r N b9 b11 b12 (wx.heap.size + 1) wx.heap.size mx n [a0, a1, a2, a3, a4, a5, a6] cS w ((wx.alloc (.cells #[a0, a1, a2, a3, a4, a5, a6] 35)).alloc (.cells #[.int .i64 17, .slice none 0 0, .int .i64 (n : Int), .int .i64 mx, .bool false, .bool false, .slice (some ⟨wx.heap.size, 0, none⟩) 1 1] 35)) := by
  have hb : Below wx.heap.size wx ((wx.alloc (.cells #[a0, a1, a2, a3, a4, a5, a6] 35)).alloc (.cells #[.int .i64 17, .slice none 0 0, .int .i64 (n : Int), .int .i64 mx, .bool false, .bool false, .slice (some ⟨wx.heap.size, 0, none⟩) 1 1] 35)) := ((Below.refl _ _).alloc (Nat.le_refl _) _).alloc (by simp) _
  have h1 := h.below hb
  have k := heap_alloc_new (wx.alloc (.cells #[a0, a1, a2, a3, a4, a5, a6] 35)) (.cells #[.int .i64 17, .slice none 0 0, .int .i64 (n : Int), .int .i64 mx, .bool false, .bool false, .slice (some ⟨wx.heap.size, 0, none⟩) 1 1] 35)
  exact ⟨h1, by simpa using k, rv1 (o := 17) (by omega) (block_alloc (heap_alloc_new wx _)) (RxI.rx _ _ _ h1.hA)⟩
theorem own_some3 {w : World} {base : Nat} {e : TypeId} {size n cap : Nat} {ao : Option Addr} {xs : List Value} (h : w.ownsRow base e size (.slice ao n cap) n xs) (hn : 0 < n) : ∃ g, ao = some ⟨g, 0, none⟩ := by
  rcases h.2 with ⟨e1, e2⟩ | ⟨g', cap', cur, e1, _⟩
  · cases e1; omega
  · cases e1; exact ⟨g', rfl⟩
theorem RI.ones {B d : Nat} {sv : Value} {l : List Tr} {css : List (List Value)} {w wr : World} (h : RI B d sv l css w wr) : ∀ u ∈ css.flatten, u.oneCell' = true := by
  intro u hu
  obtain ⟨c, hc, hu⟩ := List.mem_flatten.1 hu
  obtain ⟨i, hi⟩ := List.getElem?_of_mem hc
  have hl : i < css.length := (List.getElem?_eq_some_iff.1 hi).1
  have hx := h.old i c _ hi (List.getElem?_eq_getElem (by rw [← h.len]; exact hl))
  obtain ⟨o, rv, mn, mx, lz, sv', rfl, ⟨_, _, _, rfl⟩, _, _, _, rfl⟩ := hx.form
  simp at hu
  rcases hu with rfl | rfl | rfl | rfl | rfl | rfl | rfl <;> rfl
theorem hal1 (w : World) (x y : Obj) : ((w.alloc x).alloc y).heap[w.heap.size + 1]? = some y := heap_alloc_at _ _ _ (by simp)
theorem hal2 (w : World) (x y z : Obj) : (((w.alloc x).alloc y).alloc z).heap[w.heap.size + 2]? = some z := heap_alloc_at _ _ _ (by simp)
theorem hdr {W : World} {b : Nat} {o : Obj} (h : W.heap[b]? = some o) : W.drew.heap[b]? = some o := h
theorem below_dr' {W w : World} (h : Below W.heap.size W w) : Below W.heap.size W w.drew := h.drew
theorem below_sc' {W w : World} {p : Addr} {v : Value} (h : Below W.heap.size W w) (hp : W.heap.size ≤ p.block) : Below W.heap.size W (w.setCell p v) := h.setCell hp v
theorem own_empty {W : World} {B b : Nat} (h : W.heap[b]? = some (.cells #[] 35 (0, 0))) (hB : B ≤ b) : W.ownsRow B 35 7 (.slice (some ⟨b, 0, none⟩) 0 0) 0 [] :=
  ⟨by simp, .inr ⟨b, 0, #[], by simp, hB, h, Nat.le_refl _, by unfold maxLen; omega, by simp, by simp⟩⟩
theorem own_al {W : World} {B : Nat} {v : Value} {n : Nat} {xs : List Value} (h : W.ownsRow B 35 7 v n xs) (o : Obj) : (W.alloc o).ownsRow B 35 7 v n xs := ownsRow_mod h (Mod.of_below (F := fun _ => False) ((Below.refl _ _).alloc (Nat.le_refl _) o)) fun _ _ h => h
/-- Behind the making of 'so many of them, and a star'. -/
structure TE (own : Value) (l : List Tr) (b19 : Nat) (s19 : Value) (wr wx : World) : Prop where
  k : wx.heap[b19]? = some (.cells #[.int .i64 18, .slice none 0 0, .int .i64 0, .int .i64 0, .bool false, .bool false, s19] 35 (0, 0))
  ne : own.ownBlock ≠ some b19
  h : RxI wx (fun g => g < wx.heap.size ∧ own.ownBlock ≠ some g) 6 (nod 18 l) [.int .i64 18, .slice none 0 0, .int .i64 0, .int .i64 0, .bool false, .bool false, s19]
  bl : Below wr.heap.size wr wx
/-- The row of a node that was just made, behind its making. -/
structure TF2 (own : Value) (l : List Tr) (css : List (List Value)) (v : Value) (g : Nat) (wr w3 : World) : Prop where
  row : w3.ownsRow wr.heap.size 35 7 v css.length css.flatten
  at_ : v.ownBlock = some g
  len : css.length = l.length
  c7 : ∀ c ∈ css, c.length = 7
  old : ∀ (i : Nat) c s, css[i]? = some c → l[i]? = some s → RxI wr (fun g => g < wr.heap.size ∧ own.ownBlock ≠ some g) 5 s c
  lt : ∀ g, own.ownBlock = some g → g < wr.heap.size
  bl : Below wr.heap.size wr w3
  cn : css.length ≤ 1000
theorem TF2.below {own : Value} {l : List Tr} {css : List (List Value)} {v : Value} {g : Nat} {wr w3 w4 : World} (h : TF2 own l css v g wr w3) (hb : Below w3.heap.size w3 w4) : TF2 own l css v g wr w4 :=
  ⟨ownsRow_mod h.row (Mod.of_below (F := fun _ => False) hb) fun _ _ h => h, h.at_, h.len, h.c7, h.old, h.lt, h.bl.trans (hb.mono h.bl.size), h.cn⟩
theorem TF2.node {own : Value} {l : List Tr} {css : List (List Value)} {v : Value} {g : Nat} {wr w3 wx : World} (h : TF2 own l css v g wr w3) {F : Nat → Prop} (m : Mod F w3 wx) (hF : ¬ F g) (hF2 : ∀ k, k < wr.heap.size → ¬ F k) :
    RxI wx (fun g => g < wx.heap.size ∧ own.ownBlock ≠ some g) 6 (nod 18 l) [.int .i64 18, .slice none 0 0, .int .i64 0, .int .i64 0, .bool false, .bool false, v] := by
  have hs := m.size
  have hs0 := h.bl.size
  have hrow : wx.ownsRow wr.heap.size 35 7 v css.length css.flatten := ownsRow_mod h.row m fun k hk e => by rw [h.at_] at hk; cases hk; exact hF e
  refine ⟨.slice none 0 0, v, css, rfl, ⟨by show 18 < 256; omega, by simp [nod, Tr.runes], h.cn⟩, ⟨reads_of_owns (World.ownsRow_nil wx 0 35 1), fun g hg => by simp [Value.ownBlock] at hg⟩, h.len, ⟨reads_of_owns hrow, fun k hk => ?_⟩, h.c7, fun i c s hc hs' => ?_⟩
  · have h1 := hrow.lt k hk
    refine ⟨h1.2, fun e => ?_⟩
    have := h.lt k e
    omega
  · have q := RxI.below h.bl _ _ _ (h.old i c s hc hs')
    exact RxI.wide (fun k hk => ⟨by omega, hk.2⟩) _ _ _ (RxI.mod m (fun k hk => hF2 k hk.1) _ _ _ q)
theorem TE.f1 {own : Value} {l : List Tr} {css : List (List Value)} {v : Value} {g : Nat} {wr w3 : World} (h : TF2 own l css v g wr w3) : TE own l w3.heap.size v wr (w3.alloc (.cells #[.int .i64 18, .slice none 0 0, .int .i64 0, .int .i64 0, .bool false, .bool false, v] 35)) :=
  ⟨heap_alloc_new w3 _, fun e => by have := h.lt _ e; have := h.bl.size; omega, h.node ((Mod.refl (fun _ => False) w3).alloc _) (fun h => h) (fun _ _ h => h), h.bl.alloc h.bl.size _⟩
theorem TE.f2 {own : Value} {l : List Tr} {css : List (List Value)} {v : Value} {g b : Nat} {wr w3 : World} (h : TF2 own l css v g wr w3) (kz : w3.heap[b]? = some (.cells #[.int .i64 0, .slice none 0 0, .int .i64 0, .int .i64 0, .bool false, .bool false, .slice none 0 0] 35 (0, 0))) (hge : wr.heap.size ≤ b) (hne : b ≠ g) :
    TE own l b v wr (((((((w3.setCell ⟨b, 0, none⟩ (.int .i64 18)).setCell ⟨b, 1, none⟩ (.slice none 0 0)).setCell ⟨b, 2, none⟩ (.int .i64 0)).setCell ⟨b, 3, none⟩ (.int .i64 0)).setCell ⟨b, 4, none⟩ (.bool false)).setCell ⟨b, 5, none⟩ (.bool false)).setCell ⟨b, 6, none⟩ v) := by
  have m := set7_mod w3 b (.int .i64 18) (.slice none 0 0) (.int .i64 0) (.int .i64 0) (.bool false) (.bool false) v
  exact ⟨set7_blk kz (.int .i64 18) (.slice none 0 0) (.int .i64 0) (.int .i64 0) (.bool false) (.bool false) v, fun e => by have := h.lt _ e; omega, h.node m (fun e => hne e.symm) (fun k hk e => by omega), h.bl.trans (m.toBelow h.bl.size fun k _ e => by omega)⟩
/-- That node, while the other row goes on growing. -/
structure TG (own : Value) (l : List Tr) (b19 : Nat) (s19 : Value) (wx : World) : Prop where
  k : wx.heap[b19]? = some (.cells #[.int .i64 18, .slice none 0 0, .int .i64 0, .int .i64 0, .bool false, .bool false, s19] 35 (0, 0))
  ne : own.ownBlock ≠ some b19
  h : RxI wx (fun g => g < wx.heap.size ∧ own.ownBlock ≠ some g) 6 (nod 18 l) [.int .i64 18, .slice none 0 0, .int .i64 0, .int .i64 0, .bool false, .bool false, s19]
theorem TG.below {own : Value} {l : List Tr} {b19 : Nat} {s19 : Value} {wx wy : World} (h : TG own l b19 s19 wx) (hb : Below wx.heap.size wx wy) : TG own l b19 s19 wy :=
  ⟨up_b hb h.k, h.ne, RxI.wide (fun g hg => ⟨Nat.lt_of_lt_of_le hg.1 hb.size, hg.2⟩) _ _ _ (RxI.below hb _ _ _ h.h)⟩
theorem TG.push {sv v6 : Value} {l : List Tr} {b19 : Nat} {s19 : Value} {w2 W w6 : World} (h : TG sv l b19 s19 w2) (hW : Mod (fun _ => False) w2 W) (hgr : W.grownBy w6 sv.ownBlock) (hat : v6.ownBlock = sv.ownBlock ∨ ∀ g, v6.ownBlock = some g → w2.heap.size ≤ g) : TG v6 l b19 s19 w6 := by
  have m : Mod (fun z => sv.ownBlock = some z) w2 w6 := (hW.mono fun _ _ h => h.elim).grown hgr fun k hk _ => hk
  have hsz := m.size
  have h6 : ∀ g, g < w2.heap.size → sv.ownBlock ≠ some g → v6.ownBlock ≠ some g := fun g hg hne e => by
    rcases hat with hat | hat
    · exact hne (hat ▸ e)
    · have := hat g e; omega
  exact ⟨m.heap h.k h.ne, h6 _ (block_lt h.k) h.ne, RxI.wide (fun g hg => ⟨Nat.lt_of_lt_of_le hg.1 hsz, h6 g hg.1 hg.2⟩) _ _ _ (RxI.mod m (fun g hg hF => hg.2 hF) _ _ _ h.h)⟩
set_option maxHeartbeats 8000000 in
theorem law_times (ad : Nat → Addr) (n : Nat) (r : Rw) (cs : List Value) (s : ByteArray) (lo mo : Int) (w : World) (h : RwV w n r cs) (hL : Laid w ad) :
    Calls Tryd.prog 8 #[.agg cs.toArray, .string s, .int .i64 lo, .int .i64 mo] w fun e w' => e = .returned (.bool true) ∧ Below w.heap.size w w' := by
  obtain ⟨rv1, lz1, fo1, sv1, rfl, ⟨ra1, rl1, rc1, rfl⟩, sa1, sl1, sc1, rfl⟩ := h.form
  obtain ⟨W1, hW1⟩ : ∃ W1, W1 = w.alloc (.cells #[.int .i64 r.op, .slice ra1 rl1 rc1, .int .i64 r.mn, .int .i64 r.mx, .bool lz1, .bool fo1, .slice sa1 sl1 sc1] 35) := ⟨_, rfl⟩
  have hb1 : Below w.heap.size w W1 := by rw [hW1]; exact (Below.refl _ _).alloc (Nat.le_refl _) _
  have b0 : W1.heap[w.heap.size]? = some (.cells #[.int .i64 r.op, .slice ra1 rl1 rc1, .int .i64 r.mn, .int .i64 r.mx, .bool lz1, .bool fo1, .slice sa1 sl1 sc1] 35 (0, 0)) := by rw [hW1]; exact heap_alloc_new w _
  have hx1 := fun (W : World) (hb : Below W1.heap.size W1 W) => expr_any 4 (by omega) (by omega) n r _ W (RwV.below (hb1.trans (hb.mono hb1.size)) n r _ h)
  have hk0 := fun (W : World) (hb : Below W1.heap.size W1 W) => (cells7 ((Mod.of_below (F := fun _ => False) hb).heap b0 (fun h => h))).1
  have hf1 := fun W => fits_any r.op ra1 rl1 rc1 r.mn r.mx lz1 fo1 sa1 sl1 sc1 W
  have hv1 := fun W => wide_any r.op ra1 rl1 rc1 r.mn r.mx lz1 fo1 sa1 sl1 sc1 W
  obtain ⟨f1, hfe1⟩ : ∃ f, f = (decide (rl1 ≤ 2147483647) && decide (sl1 ≤ 2147483647)) := ⟨_, rfl⟩
  obtain ⟨g1, hge1⟩ : ∃ f, f = (decide (rl1 ≤ 65536) && decide (sl1 ≤ 65536)) := ⟨_, rfl⟩
  rw [← hfe1] at hf1
  rw [← hge1] at hv1
  have HF1 := Lib.hid hf1
  have HV1 := Lib.hid hv1
  have HX1 := Lib.hid hx1
  have HK0 := Lib.hid hk0
  have HB1 := Lib.hid hb1
  have HL := Lib.hid hL
  clear hx1 hk0 hf1 hv1 hfe1 hge1 hb1 b0 h hL
  go_enter Tryd.func8, Tryd.ntmps8
  go_wp2_with fail
  rw [← hW1]
  clear hW1
  refine (HF1.out W1).mono ?_
  rintro e w3 ⟨rfl, hb3⟩
  have HB3 := Lib.hid hb3
  clear hb3
  cases f1 with
  | false =>
    go_wp2_with fail
    go_ret
    exact ⟨rfl, HB1.out.trans (HB3.out.mono HB1.out.size)⟩
  | true =>
  by_cases hs9 : s.size ≤ 2147483647
  case neg =>
    go_wp2_with fail
    go_ret
    exact ⟨rfl, HB1.out.trans (HB3.out.mono HB1.out.size)⟩
  obtain ⟨y0, y1, y2, y3, y4, y5, y6⟩ := HK0.out w3 HB3.out
  go_wp2_with fail
  refine (HV1.out w3).mono ?_
  rintro e w4 ⟨rfl, hb4⟩
  clear y0 y1 y2 y3 y4 y5 y6
  have HB4 := Lib.hid (HB3.out.trans (hb4.mono HB3.out.size))
  clear hb4 HB3
  cases g1 with
  | false =>
    go_wp2_with fail
    go_ret
    exact ⟨rfl, HB1.out.trans (HB4.out.mono HB1.out.size)⟩
  | true =>
  obtain ⟨y0, y1, y2, y3, y4, y5, y6⟩ := HK0.out w4 HB4.out
  have hfew := fun W => fewb_any s 60 W (by omega) (by omega)
  have HFEW := Lib.hid hfew
  clear hfew
  go_upto_region 5 with (fail)
  go_cut [9, 10] (fun v9 v10 wx => ∃ (b9 : Nat) (cA : List Value) (s' : ByteArray), v9 = .pointer (some ⟨b9, 0, none⟩) ∧ v10 = .string s' ∧ s'.size ≤ 60 ∧ Hid (wx.heap[b9]? = some (.cells cA.toArray 35 (0, 0)) ∧ RxI wx (fun g => g < wx.heap.size) 4 (ex 4 r) cA ∧ Below w.heap.size w wx))
  case first =>
      go_wp2_with fail
      refine (HX1.out w4 HB4.out).mono ?_
      rintro e w5 ⟨cs5, he5, hl5, hb5, hx5⟩
      obtain ⟨o5, rv5, mn5, mx5, lz5, sv5, rfl, ⟨r51, r52, r53, rfl⟩, s51, s52, s53, rfl⟩ := hx5.form
      obtain rfl := he5
      have HX5 := Lib.hid (And.intro hx5 ((HB1.out.trans (HB4.out.mono HB1.out.size)).trans (hb5.mono (by have := HB4.out.size; have := HB1.out.size; omega))))
      clear hx5 hb5 hl5 y0 y1 y2 y3 y4 y5 y6
      go_wp2_with fail
      refine (HFEW.out _).mono ?_
      rintro e w6 ⟨⟨s', rfl, hs'⟩, rfl⟩
      go_wp2_with fail
      go_meet
      have hb : Below w5.heap.size w5 (w5.alloc (.cells #[.int .i64 o5, .slice r51 r52 r53, .int .i64 mn5, .int .i64 mx5, .bool lz5, .bool false, .slice s51 s52 s53] 35)) := (Below.refl _ _).alloc (Nat.le_refl _) _
      exact ⟨_, [.int .i64 o5, .slice r51 r52 r53, .int .i64 mn5, .int .i64 mx5, .bool lz5, .bool false, .slice s51 s52 s53], s', rfl, rfl, hs', Lib.hid ⟨heap_alloc_new _ _, RxI.wide (fun g hg => by have := hb.size; omega) _ _ _ (RxI.below hb _ _ _ HX5.out.1), HX5.out.2.trans (hb.mono HX5.out.2.size)⟩⟩
  obtain ⟨b9, cA, s', rfl, rfl, hs60, H7⟩ := hcut
  rename World => w7
  obtain ⟨oA, rvA, mnA, mxA, lzA, svA, rfl, ⟨a1, a2, a3, rfl⟩, a4, a5, a6, rfl⟩ := H7.out.2.1.form
  clear y0 y1 y2 y3 y4 y5 y6
  obtain ⟨⟨l0, l1, l2, l3, l4, l5, l6⟩, _⟩ := cells7 H7.out.1
  have hmd := modest_any 4 (ex 4 r) _ 6 w7 (RxI.rx _ _ _ H7.out.2.1) (ex_wf 4 r (by omega)) (ex_lf 4 r) (ex4_places r) (by omega)
  obtain ⟨mb, hmb⟩ : ∃ mb, mb = decide (places 4 (ex 4 r) * 6 ≤ 160) := ⟨_, rfl⟩
  rw [← hmb] at hmd
  have HMD := Lib.hid hmd
  have HMB := Lib.hid hmb
  clear hmd hmb
  go_wp2_with fail
  refine HMD.out.mono ?_
  rintro e w8 ⟨rfl, hb8⟩
  have H8 := Lib.hid (And.intro (up_b hb8 H7.out.1) (And.intro (RxI.wide (R' := fun g => g < w8.heap.size) (fun g hg => by have := hb8.size; omega) _ _ _ (RxI.below hb8 _ _ _ H7.out.2.1)) (H7.out.2.2.trans (hb8.mono H7.out.2.2.size))))
  clear hb8 H7 l0 l1 l2 l3 l4 l5 l6 HMD
  cases mb with
  | false =>
    go_wp2_with fail
    go_ret
    exact ⟨rfl, H8.out.2.2⟩
  | true =>
  have HF := Lib.hid (times_fine (of_decide_eq_true HMB.out.symm))
  clear HMB
  obtain ⟨⟨l0, l1, l2, l3, l4, l5, l6⟩, _⟩ := cells7 H8.out.1
  go_upto_region 8 with (fail)
  go_cut [11] (fun v wx => ∃ (N b11 : Nat) (cS : List Value), v = .pointer (some ⟨b11, 0, none⟩) ∧ Hid (TS r N b9 b11 [.int .i64 oA, .slice a1 a2 a3, .int .i64 mnA, .int .i64 mxA, .bool lzA, .bool false, .slice a4 a5 a6] cS w wx))
  case first =>
      go_wp2_with fail
      refine (node_pure _ _ _ _ _).mono ?_
      rintro e w9 ⟨rfl, hb9⟩
      have HTS := Lib.hid (TS.of H8.out.1 H8.out.2.1 H8.out.2.2 hb9)
      clear hb9
      go_wp2_with fail
      go_meet
      exact ⟨_, _, _, rfl, HTS⟩
  obtain ⟨N, b11, cS, rfl, HTS⟩ := hcut
  rename World => w9
  clear l0 l1 l2 l3 l4 l5 l6 H8
  obtain ⟨oS, rvS, mnS, mxS, lzS, svS, rfl, ⟨c1, c2, c3, rfl⟩, c4, c5, c6, rfl⟩ := HTS.out.hS.form
  have hti := TI.of HTS.out
  have HTI := Lib.hid hti
  clear hti
  go_upto_region 9 with (fail)
  go_cut [12] (fun v wx => ∃ (b12 : Nat), v = .pointer (some ⟨b12, 0, none⟩) ∧ Hid (TI r N b9 b11 b12 [.int .i64 oA, .slice a1 a2 a3, .int .i64 mnA, .int .i64 mxA, .bool lzA, .bool false, .slice a4 a5 a6] [.int .i64 oS, .slice c1 c2 c3, .int .i64 mnS, .int .i64 mxS, .bool lzS, .bool false, .slice c4 c5 c6] w wx))
  case first =>
      go_wp2_with fail
      go_meet
      exact ⟨_, rfl, HTI⟩
  obtain ⟨b12, rfl, HT⟩ := hcut
  rename World => w10
  clear HTI HTS
  have HS60 := Lib.hid (show s'.size ≤ 1000 by omega)
  have hL10 : Laid w10 ad := HL.out.below HT.out.bl
  have hTT := fun (W : World) (hb : Below w10.heap.size w10 W) => HT.out.below hb
  have hLL := fun (W : World) (hb : Below w10.heap.size w10 W) => hL10.below hb
  have hkk := fun (W : World) (hb : Below w10.heap.size w10 W) => And.intro hb (And.intro (cells7 (HT.out.below hb).k9).1 (And.intro (cells7 (HT.out.below hb).k11).1 (cells7 (HT.out.below hb).k12).1))
  have HTT := Lib.hid hTT
  have HLL := Lib.hid hLL
  have HKK := Lib.hid hkk
  clear hTT hLL hkk hL10
  go_upto_region 10 with (fail)
  go_cut [82] (fun v wx => v = .bool false ∧ Hid (Below w10.heap.size w10 wx))
  case first =>
      refine wp_mono (reg10 rfl HT.out HF.out.1 HF.out.2 (HLL.out _ (Below.refl _ _)) HS60.out) (AtEnd.imp ?_)
      rintro a wx ⟨⟨_, _, _, _, _, _, _, _, _, _, _, _, _, _, _, _, _, _, _, _, _, _, _, _, _, _, _, _, _, _, _, _, _, _, _, _, _, _, _, rfl⟩, hb⟩
      try dsimp only
      go_wp2_with fail
      go_meet
      exact ⟨rfl, Lib.hid hb⟩
  obtain ⟨rfl, HB11⟩ := hcut
  rename World => w11
  have HT11 := Lib.hid (HTT.out _ HB11.out)
  obtain ⟨nn, hnn⟩ : ∃ a, a = atP lo 4 := ⟨_, rfl⟩
  obtain ⟨kk, hkk⟩ : ∃ a, a = atP mo 3 := ⟨_, rfl⟩
  have hn4 : nn < 4 := by rw [hnn]; exact atP_lt _ _ (by omega)
  have hk3 : kk < 3 := by rw [hkk]; exact atP_lt _ _ (by omega)
  have u1 : IntKind.u64.wrap lo = lo % 18446744073709551616 := by rw [IntKind.wrap_u64]
  have hmb := mod_bd (lo % 18446744073709551616) 4 (by omega)
  have u3 : (lo % 18446744073709551616).tmod 4 = lo % 18446744073709551616 % 4 := Int.tmod_eq_emod_of_nonneg (by omega)
  have u4 : IntKind.i64.wrap (lo % 18446744073709551616 % 4) = (nn : Int) := by
    rw [IntWalk.i64_in _ (by omega), hnn]; unfold atP; omega
  have u6 : lo % 4 = (nn : Int) := by rw [hnn]; unfold atP; omega
  have v1 : IntKind.u64.wrap mo = mo % 18446744073709551616 := by rw [IntKind.wrap_u64]
  have hmc := mod_bd (mo % 18446744073709551616) 3 (by omega)
  have v3 : (mo % 18446744073709551616).tmod 3 = mo % 18446744073709551616 % 3 := Int.tmod_eq_emod_of_nonneg (by omega)
  have v4 : IntKind.i64.wrap (mo % 18446744073709551616 % 3) = (kk : Int) := by
    rw [IntWalk.i64_in _ (by omega), hkk]; unfold atP; omega
  clear hnn hkk hmb hmc HTT HLL HKK
  go_upto_region 12 with (fail)
  go_cut [13, 14] (fun v13 v14 wx => v13 = .int .i64 (nn : Int) ∧ v14 = .int .i64 (kk : Int) ∧ Hid (TI r N b9 b11 b12 [.int .i64 oA, .slice a1 a2 a3, .int .i64 mnA, .int .i64 mxA, .bool lzA, .bool false, .slice a4 a5 a6] [.int .i64 oS, .slice c1 c2 c3, .int .i64 mnS, .int .i64 mxS, .bool lzS, .bool false, .slice c4 c5 c6] w wx))
  case first =>
      go_wp2_with fail
      go_meet
      exact ⟨rfl, rfl, HT11⟩
  obtain ⟨rfl, rfl, HT12⟩ := hcut
  rename World => w12
  clear u1 u3 u4 u6 v1 v3 v4 HT11 HB11 HT
  obtain ⟨M, hM⟩ : ∃ M : Nat, M = max 1 (nn + kk) := ⟨_, rfl⟩
  have u5 : IntKind.i64.wrap ((nn : Int) + (kk : Int)) = (nn : Int) + (kk : Int) := IntWalk.i64_in _ (by omega)
  have u6 : max (1 : Int) ((nn : Int) + (kk : Int)) = (M : Int) := by omega
  have HM := Lib.hid (show 1 ≤ M ∧ nn ≤ M ∧ M ≤ 5 by omega)
  have HTR13 := Lib.hid (TR.of (M : Int) nn HT12.out)
  obtain ⟨⟨l0, l1, l2, l3, l4, l5, l6⟩, _⟩ := cells7 HT12.out.k9
  clear hM
  go_upto_region 13 with (fail)
  go_cut [15] (fun v wx => ∃ b15 c15 : Nat, v = .pointer (some ⟨b15, 0, none⟩) ∧ Hid (TR r N b9 b11 b12 b15 c15 (M : Int) nn [.int .i64 oA, .slice a1 a2 a3, .int .i64 mnA, .int .i64 mxA, .bool lzA, .bool false, .slice a4 a5 a6] [.int .i64 oS, .slice c1 c2 c3, .int .i64 mnS, .int .i64 mxS, .bool lzS, .bool false, .slice c4 c5 c6] w wx))
  case first =>
      go_wp2_with fail
      go_meet
      exact ⟨_, _, rfl, HTR13⟩
  obtain ⟨b15, c15, rfl, HT13⟩ := hcut
  rename World => w13
  clear HTR13 l0 l1 l2 l3 l4 l5 l6 u5 u6 HT12
  have HTR14 := Lib.hid (And.intro (TR.of (-1) nn HT13.out.ti) (HT13.out.below (((Below.refl _ _).alloc (Nat.le_refl _) (.cells #[.int .i64 oA, .slice a1 a2 a3, .int .i64 mnA, .int .i64 mxA, .bool lzA, .bool false, .slice a4 a5 a6] 35)).alloc (by simp) (.cells #[.int .i64 17, .slice none 0 0, .int .i64 (nn : Int), .int .i64 (-1), .bool false, .bool false, .slice (some ⟨w13.heap.size, 0, none⟩) 1 1] 35))))
  obtain ⟨⟨l0, l1, l2, l3, l4, l5, l6⟩, _⟩ := cells7 HT13.out.ti.k9
  go_upto_region 14 with (fail)
  go_cut [16] (fun v wx => ∃ b16 c16 : Nat, v = .pointer (some ⟨b16, 0, none⟩) ∧ Hid (TR r N b9 b11 b12 b16 c16 (-1) nn [.int .i64 oA, .slice a1 a2 a3, .int .i64 mnA, .int .i64 mxA, .bool lzA, .bool false, .slice a4 a5 a6] [.int .i64 oS, .slice c1 c2 c3, .int .i64 mnS, .int .i64 mxS, .bool lzS, .bool false, .slice c4 c5 c6] w wx ∧ TR r N b9 b11 b12 b15 c15 (M : Int) nn [.int .i64 oA, .slice a1 a2 a3, .int .i64 mnA, .int .i64 mxA, .bool lzA, .bool false, .slice a4 a5 a6] [.int .i64 oS, .slice c1 c2 c3, .int .i64 mnS, .int .i64 mxS, .bool lzS, .bool false, .slice c4 c5 c6] w wx))
  case first =>
      go_wp2_with fail
      go_meet
      exact ⟨_, _, rfl, HTR14⟩
  obtain ⟨b16, c16, rfl, HT14⟩ := hcut
  rename World => w14
  clear HTR14 l0 l1 l2 l3 l4 l5 l6 HT13
  obtain ⟨B, hB⟩ : ∃ B, B = w14.heap.size := ⟨_, rfl⟩
  have hri0 := RI.start w14 5
  rw [← hB] at hri0
  have HB := Lib.hid hB
  have HRI0 := Lib.hid hri0
  clear hB hri0
  go_wp2_with fail
  go_loopw [17, 18] (fun sv iv wr => ∃ (k : Nat) (ao : Option Addr) (cap : Nat) (css : List (List Value)), iv = .int .i64 (k : Int) ∧ sv = .slice ao k cap ∧ k ≤ nn ∧ Hid (RI B 5 (.slice ao k cap) (List.replicate k (ex 4 r)) css w14 wr)) (fun _ iv _ => nn - (intOf iv).toNat)
  case atStart => exact ⟨0, none, 0, [], rfl, rfl, Nat.zero_le _, HRI0⟩
  case round =>
    obtain ⟨k, ao, cap, css, rfl, rfl, hk, HRI⟩ := hrel
    rename World => wr
    have hbl := HRI.out.bl
    rw [HB.out] at hbl
    have hTw := HT14.out.1.ti.below hbl
    have hcl : css.length = k := by rw [HRI.out.len]; simp
    have HTW := Lib.hid hTw
    have HCL := Lib.hid hcl
    obtain ⟨⟨l0, l1, l2, l3, l4, l5, l6⟩, _⟩ := cells7 hTw.k9
    clear hbl hTw hcl
    by_cases hlt : k < nn
    · have hown : wr.ownsRow B 35 7 (.slice ao k cap) k css.flatten := by have h := HRI.out.own; rw [HCL.out] at h; exact h
      have HOWN := Lib.hid hown
      have hle := HRI.out.le
      clear hown
      go_wp2_with (first
        | (at_builtin; refine wpList_append_one rfl (.tmp 108) (.tmp 110) 33 rfl B 35 (.agg #[.int .i64 0, .slice none 0 0, .int .i64 0, .int .i64 0, .bool false, .bool false, .slice none 0 0]) 7 80 Tryd.underlying33 info_rx rfl (by decide) (by decide) (.slice ao k cap) k css.flatten rfl HOWN.out #[.int .i64 oA, .slice a1 a2 a3, .int .i64 mnA, .int .i64 mxA, .bool lzA, .bool false, .slice a4 a5 a6] _ _ rfl (by simp) rfl (by simp [Value.oneCell']) (by omega) (by omega) ?_
           intro ao6 cap6 w6 hown6 hgr6 hat6
           have HX6 := Lib.hid (And.intro hown6 (And.intro hgr6 hat6))
           clear hown6 hgr6 hat6))
      go_roundw
      case rel =>
        obtain ⟨hown6, hgr6, hat6⟩ := HX6.out
        refine ⟨k + 1, ao6, cap6, css ++ [[.int .i64 oA, .slice a1 a2 a3, .int .i64 mnA, .int .i64 mxA, .bool lzA, .bool false, .slice a4 a5 a6]], by go_num, rfl, hlt, Lib.hid ?_⟩
        rw [List.replicate_succ']
        refine RI.push HRI.out (W := wr.alloc (.cells #[.int .i64 oA, .slice a1 a2 a3, .int .i64 mnA, .int .i64 mxA, .bool lzA, .bool false, .slice a4 a5 a6] 35)) (RxI.wide (fun g hg => ⟨by have := HTW.out.sz; omega, fun e => by have := (HRI.out.own.lt g e).1; have := HT14.out.1.ti.sz; have := HB.out; omega⟩) _ _ _ (RxI.up _ _ _ HTW.out.hA)) rfl ((Mod.refl _ wr).alloc _) hgr6 (by rw [HCL.out]; exact hown6) ?_
        rcases hat6 with h | h
        · exact Or.inl h
        · exact Or.inr fun g hg => by rw [h] at hg; cases hg; omega
      case measure => simp [intOf]; omega
    · have hkn : k = nn := by omega
      subst hkn
      have hones := HRI.out.ones
      have hrd := reads_of_owns HRI.out.own
      rw [HCL.out] at hrd
      have hk20 := fun (W : World) (hb : Below wr.heap.size wr W) => And.intro hb (cells7 (up_b hb HTW.out.k11)).1
      have htf := fun (g2 cap2 : Nat) (w2 : World) (hown2 : w2.ownsRow wr.heap.size 35 7 (.slice (some ⟨g2, 0, none⟩) (k + 1) cap2) (k + 1) (css.flatten ++ [.int .i64 oS, .slice c1 c2 c3, .int .i64 mnS, .int .i64 mxS, .bool lzS, .bool false, .slice c4 c5 c6])) (hb2 : Below wr.heap.size wr w2) =>
        (show TF2 (.slice ao k cap) (List.replicate k (ex 4 r) ++ [nod 14 [ex 4 r]]) (css ++ [[.int .i64 oS, .slice c1 c2 c3, .int .i64 mnS, .int .i64 mxS, .bool lzS, .bool false, .slice c4 c5 c6]]) (.slice (some ⟨g2, 0, none⟩) (k + 1) cap2) g2 wr w2 from
          ⟨by rw [List.length_append, List.flatten_append, HCL.out]; simpa using hown2, rfl, by simp [HCL.out], fun c hc => by
            rcases List.mem_append.1 hc with hc | hc
            · exact HRI.out.c7 c hc
            · simp at hc; subst hc; rfl, fun i c s hc hs => by
            by_cases hi : i < css.length
            · rw [List.getElem?_append_left hi] at hc
              rw [List.getElem?_append_left (by rw [← HRI.out.len]; exact hi)] at hs
              exact HRI.out.old i c s hc hs
            · have hl := (List.getElem?_eq_some_iff.1 hc).1
              obtain rfl : i = css.length := by simp at hl; omega
              rw [List.getElem?_append_right (Nat.le_refl _)] at hc
              rw [HRI.out.len, List.getElem?_append_right (Nat.le_refl _)] at hs
              simp at hc hs
              subst hc hs
              exact RxI.wide (fun g hg => ⟨by have := HTW.out.sz; omega, fun e => by have := (HRI.out.own.lt g e).1; have := HT14.out.1.ti.sz; have := HB.out; omega⟩) _ _ _ HTW.out.hS,
            fun g hg => (HRI.out.own.lt g hg).2, hb2, by simp [HCL.out]; omega⟩)
      obtain ⟨i1, hi1, hy0, hy1, hy2⟩ := info_parts info_rx
      have HONE := Lib.hid hones
      have HRD := Lib.hid hrd
      have HKK := Lib.hid hk20
      have HTF := Lib.hid htf
      clear hones hrd hk20 htf
      obtain ⟨l0, l1, l2, l3, l4, l5, l6⟩ := (cells7 HTW.out.k11).1
      go_upto_region 20 with (fail)
      go_cut [19] from 112 to 118 (fun v wx => ∃ (b19 : Nat) (g19 n19 c19 : Nat), v = .pointer (some ⟨b19, 0, none⟩) ∧ Hid (TE (.slice ao k cap) (List.replicate k (ex 4 r) ++ [nod 14 [ex 4 r]]) b19 (.slice (some ⟨g19, 0, none⟩) n19 c19) wr wx))
      case first =>
       have hd0 : Below wr.heap.size wr wr := Below.refl _ _
       go_region_held3 (fun W => Below wr.heap.size wr W ∧ (W.cell? ⟨b11, 0, none⟩ = some (.int .i64 oS) ∧ W.cell? ⟨b11, 1, none⟩ = some (.slice c1 c2 c3) ∧ W.cell? ⟨b11, 2, none⟩ = some (.int .i64 mnS) ∧ W.cell? ⟨b11, 3, none⟩ = some (.int .i64 mxS) ∧ W.cell? ⟨b11, 4, none⟩ = some (.bool lzS) ∧ W.cell? ⟨b11, 5, none⟩ = some (.bool false) ∧ W.cell? ⟨b11, 6, none⟩ = some (.slice c4 c5 c6))) (((refine HKK.out _ ?_; repeat (first | with_reducible exact hd0 | with_reducible exact hb1 | with_reducible exact hb2 | with_reducible exact hb3 | with_reducible refine below_dr' ?_ | with_reducible refine below_al ?_ _ | (with_reducible refine below_sc' ?_ (by first | with_reducible exact hsz1 | with_reducible exact hsz2 | with_reducible exact Nat.le_succ_of_le hsz1 | with_reducible exact Nat.le_refl _ | with_reducible exact Nat.le_add_right _ _ | (dsimp only; omega) | fail)))))) (first
        | (go_at_call 21; (with_reducible refine Calls.mono (node_pure 18 _ _ _ w2) ?_); rintro e w3 ⟨rfl, hbn⟩
           have hb3 : Below wr.heap.size wr w3 := chain hb2 hbn
           have HF3 := Lib.hid (HF.out.below hbn)
           try have oz0 := up_b hbn mz0
           try have oz1 := up_b hbn mz1
           try have oz2 := up_b hbn mz2
           try have qz0 := up_b hbn nz0
           try have qz1 := up_b hbn nz1
           try have coz0 := cells7 oz0
           try have coz1 := cells7 oz1
           try have coz2 := cells7 oz2
           try have cqz0 := cells7 qz0
           try have cqz1 := cells7 qz1
           clear hbn)
        | (go_at_call 21; (with_reducible refine Calls.mono (node_pure 18 _ _ _ (w2.alloc (.cells #[.int .i64 0, .slice none 0 0, .int .i64 0, .int .i64 0, .bool false, .bool false, .slice none 0 0] 35))) ?_); rintro e w3 ⟨rfl, hbn⟩
           have hb3 : Below wr.heap.size wr w3 := chain (below_al hb2 _) hbn
           have HF3 := Lib.hid ((HF.out.below (below_al (Below.refl _ w2) (.cells #[.int .i64 0, .slice none 0 0, .int .i64 0, .int .i64 0, .bool false, .bool false, .slice none 0 0] 35))).below hbn)
           try have oz0 := up_b hbn (block_alloc (o' := (.cells #[.int .i64 0, .slice none 0 0, .int .i64 0, .int .i64 0, .bool false, .bool false, .slice none 0 0] 35)) mz0)
           try have oz1 := up_b hbn (block_alloc (o' := (.cells #[.int .i64 0, .slice none 0 0, .int .i64 0, .int .i64 0, .bool false, .bool false, .slice none 0 0] 35)) mz1)
           try have oz2 := up_b hbn (block_alloc (o' := (.cells #[.int .i64 0, .slice none 0 0, .int .i64 0, .int .i64 0, .bool false, .bool false, .slice none 0 0] 35)) mz2)
           try have qz0 := up_b hbn (block_alloc (o' := (.cells #[.int .i64 0, .slice none 0 0, .int .i64 0, .int .i64 0, .bool false, .bool false, .slice none 0 0] 35)) nz0)
           try have qz1 := up_b hbn (block_alloc (o' := (.cells #[.int .i64 0, .slice none 0 0, .int .i64 0, .int .i64 0, .bool false, .bool false, .slice none 0 0] 35)) nz1)
           have pz0 := up_b hbn (heap_alloc_new w2 (.cells #[.int .i64 0, .slice none 0 0, .int .i64 0, .int .i64 0, .bool false, .bool false, .slice none 0 0] 35))
           have pe0 : w2.heap.size ≠ g2 := by have := (HF.out.row.lt g2 HF.out.at_).2; omega
           try have coz0 := cells7 oz0
           try have coz1 := cells7 oz1
           try have coz2 := cells7 oz2
           try have cqz0 := cells7 qz0
           try have cqz1 := cells7 qz1
           try have cpz0 := cells7 pz0
           clear hbn)
        | ((refine step_append_reads (by rfl) (.tmp 112) (.tmp 113) 33 (by rfl) wr.heap.size 35 i1 _ 7 80 Tryd.underlying33 hi1 hy0 hy1 hy2 rfl (by omega) _ 0 [] (by rfl) (own_empty (by (with_reducible refine hdr ?_); (first | with_reducible exact heap_alloc_new _ _ | with_reducible exact block_alloc (heap_alloc_new _ _) | with_reducible exact block_alloc (block_alloc (heap_alloc_new _ _)) | with_reducible exact hal1 _ _ _ | with_reducible exact block_alloc (hal1 _ _ _) | with_reducible exact hal2 _ _ _ _ | fail)) (by omega)) (.slice ao k cap) k css.flatten (by rfl) (HRD.out.below (by (repeat (first | with_reducible exact hd0 | with_reducible refine below_dr' ?_ | with_reducible refine below_al ?_ _)))) HONE.out (by unfold maxLen; omega) (by omega) (by first | (simp; done) | (simp; omega) | fail) ?_); intro ao1 cap1 w1 hown1 hgr1 hat1
           have hb1 : Below wr.heap.size wr w1 := Below.grown (a := wr) (by (repeat (first | with_reducible exact hd0 | with_reducible refine below_dr' ?_ | with_reducible refine below_al ?_ _))) hgr1 (by first | (simp; done) | (simp; omega) | fail) (fun g hg => by simp [Value.ownBlock] at hg; omega)
           rw [Nat.zero_add, List.nil_append] at hown1
           rw [Nat.zero_add] at hat1
           obtain ⟨g1, hg1⟩ : ∃ g, (Value.slice ao1 k cap1).ownBlock = some g := by rcases hat1 with h | h; exact ⟨_, h⟩; exact ⟨_, h⟩
           have hlt1 := hown1.lt g1 hg1
           try have ks0 : w1.heap[wr.heap.size]? = some (.cells #[.int .i64 oS, .slice c1 c2 c3, .int .i64 mnS, .int .i64 mxS, .bool lzS, .bool false, .slice c4 c5 c6] 35 (0, 0)) := (hgr1.block _ (by first | (simp; done) | (simp; omega) | fail) (by first | (simp [Value.ownBlock]; done) | (simp [Value.ownBlock]; omega) | fail)).trans (by (with_reducible refine hdr ?_); (first | with_reducible exact heap_alloc_new _ _ | with_reducible exact block_alloc (heap_alloc_new _ _) | with_reducible exact block_alloc (block_alloc (heap_alloc_new _ _)) | with_reducible exact hal1 _ _ _ | with_reducible exact block_alloc (hal1 _ _ _) | with_reducible exact hal2 _ _ _ _ | fail))
           try have kz0 : w1.heap[wr.heap.size]? = some (.cells #[.int .i64 0, .slice none 0 0, .int .i64 0, .int .i64 0, .bool false, .bool false, .slice none 0 0] 35 (0, 0)) := (hgr1.block _ (by first | (simp; done) | (simp; omega) | fail) (by first | (simp [Value.ownBlock]; done) | (simp [Value.ownBlock]; omega) | fail)).trans (by (with_reducible refine hdr ?_); (first | with_reducible exact heap_alloc_new _ _ | with_reducible exact block_alloc (heap_alloc_new _ _) | with_reducible exact block_alloc (block_alloc (heap_alloc_new _ _)) | with_reducible exact hal1 _ _ _ | with_reducible exact block_alloc (hal1 _ _ _) | with_reducible exact hal2 _ _ _ _ | fail))
           try have ne0 : wr.heap.size ≠ g1 := by rcases hat1 with h | h <;> (rw [hg1] at h; simp [Value.ownBlock] at h; omega)
           try have ks1 : w1.heap[wr.heap.size + 1]? = some (.cells #[.int .i64 oS, .slice c1 c2 c3, .int .i64 mnS, .int .i64 mxS, .bool lzS, .bool false, .slice c4 c5 c6] 35 (0, 0)) := (hgr1.block _ (by first | (simp; done) | (simp; omega) | fail) (by first | (simp [Value.ownBlock]; done) | (simp [Value.ownBlock]; omega) | fail)).trans (by (with_reducible refine hdr ?_); (first | with_reducible exact heap_alloc_new _ _ | with_reducible exact block_alloc (heap_alloc_new _ _) | with_reducible exact block_alloc (block_alloc (heap_alloc_new _ _)) | with_reducible exact hal1 _ _ _ | with_reducible exact block_alloc (hal1 _ _ _) | with_reducible exact hal2 _ _ _ _ | fail))
           try have kz1 : w1.heap[wr.heap.size + 1]? = some (.cells #[.int .i64 0, .slice none 0 0, .int .i64 0, .int .i64 0, .bool false, .bool false, .slice none 0 0] 35 (0, 0)) := (hgr1.block _ (by first | (simp; done) | (simp; omega) | fail) (by first | (simp [Value.ownBlock]; done) | (simp [Value.ownBlock]; omega) | fail)).trans (by (with_reducible refine hdr ?_); (first | with_reducible exact heap_alloc_new _ _ | with_reducible exact block_alloc (heap_alloc_new _ _) | with_reducible exact block_alloc (block_alloc (heap_alloc_new _ _)) | with_reducible exact hal1 _ _ _ | with_reducible exact block_alloc (hal1 _ _ _) | with_reducible exact hal2 _ _ _ _ | fail))
           try have ne1 : wr.heap.size + 1 ≠ g1 := by rcases hat1 with h | h <;> (rw [hg1] at h; simp [Value.ownBlock] at h; omega)
           try have ks2 : w1.heap[wr.heap.size + 2]? = some (.cells #[.int .i64 oS, .slice c1 c2 c3, .int .i64 mnS, .int .i64 mxS, .bool lzS, .bool false, .slice c4 c5 c6] 35 (0, 0)) := (hgr1.block _ (by first | (simp; done) | (simp; omega) | fail) (by first | (simp [Value.ownBlock]; done) | (simp [Value.ownBlock]; omega) | fail)).trans (by (with_reducible refine hdr ?_); (first | with_reducible exact heap_alloc_new _ _ | with_reducible exact block_alloc (heap_alloc_new _ _) | with_reducible exact block_alloc (block_alloc (heap_alloc_new _ _)) | with_reducible exact hal1 _ _ _ | with_reducible exact block_alloc (hal1 _ _ _) | with_reducible exact hal2 _ _ _ _ | fail))
           try have kz2 : w1.heap[wr.heap.size + 2]? = some (.cells #[.int .i64 0, .slice none 0 0, .int .i64 0, .int .i64 0, .bool false, .bool false, .slice none 0 0] 35 (0, 0)) := (hgr1.block _ (by first | (simp; done) | (simp; omega) | fail) (by first | (simp [Value.ownBlock]; done) | (simp [Value.ownBlock]; omega) | fail)).trans (by (with_reducible refine hdr ?_); (first | with_reducible exact heap_alloc_new _ _ | with_reducible exact block_alloc (heap_alloc_new _ _) | with_reducible exact block_alloc (block_alloc (heap_alloc_new _ _)) | with_reducible exact hal1 _ _ _ | with_reducible exact block_alloc (hal1 _ _ _) | with_reducible exact hal2 _ _ _ _ | fail))
           try have ne2 : wr.heap.size + 2 ≠ g1 := by rcases hat1 with h | h <;> (rw [hg1] at h; simp [Value.ownBlock] at h; omega)
           simp only [Nat.zero_add]
           clear hat1 hgr1)
        | ((refine step_append_reads (by rfl) (.tmp 114) (.tmp 116) 33 (by rfl) wr.heap.size 35 i1 _ 7 80 Tryd.underlying33 hi1 hy0 hy1 hy2 rfl (by omega) (.slice ao1 k cap1) k css.flatten (by rfl) (by (first | exact hown1 | exact own_al hown1 _ | exact own_al (own_al hown1 _) _)) _ 1 [.int .i64 oS, .slice c1 c2 c3, .int .i64 mnS, .int .i64 mxS, .bool lzS, .bool false, .slice c4 c5 c6] (by rfl) (reads_block (xs := [.int .i64 oS, .slice c1 c2 c3, .int .i64 mnS, .int .i64 mxS, .bool lzS, .bool false, .slice c4 c5 c6]) (by (first | exact ks0 | exact ks1 | exact ks2 | exact block_alloc ks0 | exact block_alloc ks1 | exact block_alloc ks2 | with_reducible exact heap_alloc_new _ _ | with_reducible exact block_alloc (heap_alloc_new _ _) | with_reducible exact block_alloc (block_alloc (heap_alloc_new _ _)) | with_reducible exact hal1 _ _ _ | with_reducible exact block_alloc (hal1 _ _ _) | with_reducible exact hal2 _ _ _ _ | fail)) rfl (by omega)) (by simp [Value.oneCell']) (by unfold maxLen; omega) (by omega) (by have := hb1.size; first | (simp; done) | (simp; omega) | omega | fail) ?_); intro ao2 cap2 w2 hown2 hgr2 hat2
           have hb2 : Below wr.heap.size wr w2 := Below.grown (a := wr) (by (repeat (first | with_reducible exact hb1 | with_reducible refine below_al ?_ _))) hgr2 (by have := hb1.size; first | (simp; done) | (simp; omega) | omega | fail) (fun g hg => (hown1.lt g hg).1)
           obtain ⟨g2, hg2⟩ := own_some3 hown2 (by omega)
           subst hg2
           try have mz0 : w2.heap[wr.heap.size]? = some (.cells #[.int .i64 0, .slice none 0 0, .int .i64 0, .int .i64 0, .bool false, .bool false, .slice none 0 0] 35 (0, 0)) := (hgr2.block _ (by have := block_lt kz0; first | (simp; done) | (simp; omega) | omega) (by rw [hg1]; intro e; cases e; omega)).trans (by first | exact kz0 | exact block_alloc kz0 | exact block_alloc (block_alloc kz0) | fail)
           try have me0 : wr.heap.size ≠ g2 := by have := block_lt kz0; rcases hat2 with h | h <;> (try rw [hg1] at h) <;> simp [Value.ownBlock] at h <;> omega
           try have mz1 : w2.heap[wr.heap.size + 1]? = some (.cells #[.int .i64 0, .slice none 0 0, .int .i64 0, .int .i64 0, .bool false, .bool false, .slice none 0 0] 35 (0, 0)) := (hgr2.block _ (by have := block_lt kz1; first | (simp; done) | (simp; omega) | omega) (by rw [hg1]; intro e; cases e; omega)).trans (by first | exact kz1 | exact block_alloc kz1 | exact block_alloc (block_alloc kz1) | fail)
           try have me1 : wr.heap.size + 1 ≠ g2 := by have := block_lt kz1; rcases hat2 with h | h <;> (try rw [hg1] at h) <;> simp [Value.ownBlock] at h <;> omega
           try have mz2 : w2.heap[wr.heap.size + 2]? = some (.cells #[.int .i64 0, .slice none 0 0, .int .i64 0, .int .i64 0, .bool false, .bool false, .slice none 0 0] 35 (0, 0)) := (hgr2.block _ (by have := block_lt kz2; first | (simp; done) | (simp; omega) | omega) (by rw [hg1]; intro e; cases e; omega)).trans (by first | exact kz2 | exact block_alloc kz2 | exact block_alloc (block_alloc kz2) | fail)
           try have me2 : wr.heap.size + 2 ≠ g2 := by have := block_lt kz2; rcases hat2 with h | h <;> (try rw [hg1] at h) <;> simp [Value.ownBlock] at h <;> omega
           try have nz0 : w2.heap[w1.heap.size]? = some (.cells #[.int .i64 0, .slice none 0 0, .int .i64 0, .int .i64 0, .bool false, .bool false, .slice none 0 0] 35 (0, 0)) := (hgr2.block _ (by first | (simp; done) | (simp; omega) | fail) (by rw [hg1]; intro e; cases e; omega)).trans (by first | with_reducible exact heap_alloc_new _ _ | with_reducible exact block_alloc (heap_alloc_new _ _) | with_reducible exact block_alloc (block_alloc (heap_alloc_new _ _)) | with_reducible exact hal1 _ _ _ | with_reducible exact block_alloc (hal1 _ _ _) | with_reducible exact hal2 _ _ _ _ | fail)
           try have nn0 : w1.heap.size ≠ g2 := by rcases hat2 with h | h <;> (try rw [hg1] at h) <;> simp [Value.ownBlock] at h <;> omega
           try have nz1 : w2.heap[w1.heap.size + 1]? = some (.cells #[.int .i64 0, .slice none 0 0, .int .i64 0, .int .i64 0, .bool false, .bool false, .slice none 0 0] 35 (0, 0)) := (hgr2.block _ (by first | (simp; done) | (simp; omega) | fail) (by rw [hg1]; intro e; cases e; omega)).trans (by first | with_reducible exact heap_alloc_new _ _ | with_reducible exact block_alloc (heap_alloc_new _ _) | with_reducible exact block_alloc (block_alloc (heap_alloc_new _ _)) | with_reducible exact hal1 _ _ _ | with_reducible exact block_alloc (hal1 _ _ _) | with_reducible exact hal2 _ _ _ _ | fail)
           try have nn1 : w1.heap.size + 1 ≠ g2 := by rcases hat2 with h | h <;> (try rw [hg1] at h) <;> simp [Value.ownBlock] at h <;> omega
           have hsz1 := hb1.size
           have hsz2 := hb2.size
           have htf : TF2 (.slice ao k cap) (List.replicate k (ex 4 r) ++ [nod 14 [ex 4 r]]) (css ++ [[.int .i64 oS, .slice c1 c2 c3, .int .i64 mnS, .int .i64 mxS, .bool lzS, .bool false, .slice c4 c5 c6]]) (.slice (some ⟨g2, 0, none⟩) (k + 1) cap2) g2 wr w2 := HTF.out _ _ _ hown2 hb2
           have HF := Lib.hid htf
           clear hat2 hgr2 htf)
        | fail)
       all_goals
        go_simp
        go_wp2_with fail
        go_meet
        refine ⟨_, g2, k + 1, cap2, rfl, Lib.hid ?_⟩
        first
          | with_reducible exact TE.f1 HF3.out
          | with_reducible exact TE.f2 HF3.out oz0 (by first | exact hsz1 | exact hsz2 | omega) me0
          | with_reducible exact TE.f2 HF3.out oz1 (by first | exact hsz1 | exact hsz2 | omega) me1
          | with_reducible exact TE.f2 HF3.out oz2 (by first | exact hsz1 | exact hsz2 | omega) me2
          | with_reducible exact TE.f2 HF3.out qz0 (by first | exact hsz1 | exact hsz2 | omega) nn0
          | with_reducible exact TE.f2 HF3.out qz1 (by first | exact hsz1 | exact hsz2 | omega) nn1
          | with_reducible exact TE.f2 HF3.out pz0 (by first | exact hsz1 | exact hsz2 | omega) pe0
      obtain ⟨b19, g19, n19, c19, rfl, HTE⟩ := hcut
      rename World => w20
      have hri20 := HRI.out.below HTE.out.bl
      have htg20 : TG (.slice ao k cap) (List.replicate k (ex 4 r) ++ [nod 14 [ex 4 r]]) b19 (.slice (some ⟨g19, 0, none⟩) n19 c19) w20 := ⟨HTE.out.k, HTE.out.ne, HTE.out.h⟩
      have H20 := Lib.hid (And.intro hri20 htg20)
      clear hri20 htg20 HTE HKK HTF HRD HONE hi1 hy0 hy1 hy2 HRI HTW HCL l0 l1 l2 l3 l4 l5 l6
      go_wp2_with fail
      go_loopw [17, 20] (fun sv iv wr2 => ∃ (i : Nat) (ao2 : Option Addr) (cap2 : Nat) (css2 : List (List Value)), iv = .int .i64 (i : Int) ∧ sv = .slice ao2 i cap2 ∧ k ≤ i ∧ i ≤ M ∧ Hid (RI B 5 (.slice ao2 i cap2) (List.replicate k (ex 4 r) ++ List.replicate (i - k) (nod 16 [ex 4 r])) css2 w14 wr2 ∧ TG (.slice ao2 i cap2) (List.replicate k (ex 4 r) ++ [nod 14 [ex 4 r]]) b19 (.slice (some ⟨g19, 0, none⟩) n19 c19) wr2)) (fun _ iv _ => M - (intOf iv).toNat)
      case atStart => exact ⟨k, ao, cap, css, rfl, rfl, Nat.le_refl _, HM.out.2.1, Lib.hid (by rw [Nat.sub_self, List.replicate_zero, List.append_nil]; exact H20.out)⟩
      case round =>
        obtain ⟨i, ao2, cap2, css2, rfl, rfl, hki, hiM, HR2⟩ := hrel
        rename World => wr2
        have hbl := HR2.out.1.bl
        rw [HB.out] at hbl
        have hT15 := HT14.out.2.below hbl
        have hT16 := HT14.out.1.below hbl
        have hcl : css2.length = i := by rw [HR2.out.1.len]; simp; omega
        have HTW := Lib.hid (And.intro hT15 hT16)
        have HCL := Lib.hid hcl
        have HBL2 := Lib.hid hbl
        obtain ⟨⟨l0, l1, l2, l3, l4, l5, l6⟩, _⟩ := cells7 hT15.ti.k9
        obtain ⟨⟨m0, m1, m2, m3, m4, m5, m6⟩, _⟩ := cells7 hT15.k
        clear hbl hT15 hT16 hcl
        by_cases hlt : i < M
        · go_wp2_with fail
          refine (node_pure _ _ _ _ _).mono ?_
          rintro e w2 ⟨rfl, hb2⟩
          have hbw : Below wr2.heap.size wr2 w2 := chain (below_al (Below.refl _ _) _) hb2
          have hkq : w2.heap[wr2.heap.size]? = some (.cells #[.int .i64 oA, .slice a1 a2 a3, .int .i64 mnA, .int .i64 mxA, .bool lzA, .bool false, .slice a4 a5 a6] 35 (0, 0)) := up_b hb2 (heap_alloc_new wr2 _)
          have hri2 := HR2.out.1.below hbw
          have htg2 := HR2.out.2.below hbw
          have hti2 := HTW.out.1.ti.below hbw
          have hown : w2.ownsRow B 35 7 (.slice ao2 i cap2) i css2.flatten := by have h := hri2.own; rw [HCL.out] at h; exact h
          have hle := hri2.le
          have HOWN := Lib.hid hown
          have H2 := Lib.hid (And.intro hri2 (And.intro htg2 (And.intro hti2 (And.intro hkq hbw))))
          clear hown hri2 htg2 hti2 hkq hbw hb2 l0 l1 l2 l3 l4 l5 l6 m0 m1 m2 m3 m4 m5 m6
          have hM5 := HM.out.2.2
          go_wp2_with (first
            | (at_builtin; refine wpList_append_one rfl (.tmp 126) (.tmp 130) 33 rfl B 35 (.agg #[.int .i64 0, .slice none 0 0, .int .i64 0, .int .i64 0, .bool false, .bool false, .slice none 0 0]) 7 80 Tryd.underlying33 info_rx rfl (by decide) (by decide) (.slice ao2 i cap2) i css2.flatten rfl HOWN.out #[.int .i64 16, .slice none 0 0, .int .i64 0, .int .i64 0, .bool false, .bool false, .slice (some ⟨wr2.heap.size, 0, none⟩) 1 1] _ _ rfl (by simp) rfl (by simp [Value.oneCell']) (by omega) (by omega) ?_
               intro ao6 cap6 w6 hown6 hgr6 hat6
               have HX6 := Lib.hid (And.intro hown6 (And.intro hgr6 hat6))
               clear hown6 hgr6 hat6))
          go_roundw
          case rel =>
            obtain ⟨hown6, hgr6, hat6⟩ := HX6.out
            obtain ⟨hri2, htg2, hti2, hkq, hbw⟩ := H2.out
            have hat : (Value.slice ao6 (i + 1) cap6).ownBlock = (Value.slice ao2 i cap2).ownBlock ∨ ∀ g, (Value.slice ao6 (i + 1) cap6).ownBlock = some g → w2.heap.size ≤ g := by
              rcases hat6 with h | h
              · exact Or.inl h
              · exact Or.inr fun g hg => by rw [h] at hg; cases hg; omega
            have hlq := block_lt hkq
            have hown2 : ∀ g, (Value.slice ao2 i cap2).ownBlock = some g → B ≤ g ∧ g < wr2.heap.size := fun g hg => HR2.out.1.own.lt g hg
            refine ⟨i + 1, ao6, cap6, css2 ++ [[.int .i64 16, .slice none 0 0, .int .i64 0, .int .i64 0, .bool false, .bool false, .slice (some ⟨wr2.heap.size, 0, none⟩) 1 1]], by go_num, rfl, by omega, hlt, Lib.hid ⟨?_, htg2.push ((Mod.refl _ w2).alloc _) hgr6 hat⟩⟩
            rw [show i + 1 - k = (i - k) + 1 by omega, List.replicate_succ', ← List.append_assoc]
            refine RI.push hri2 (W := w2.alloc (.cells #[.int .i64 16, .slice none 0 0, .int .i64 0, .int .i64 0, .bool false, .bool false, .slice (some ⟨wr2.heap.size, 0, none⟩) 1 1] 35)) (ri1 (o := 16) (mn := 0) (mx := 0) (by omega) hkq ⟨hlq, fun e => by have := hown2 _ e; omega⟩ (RxI.wide (fun g hg => ⟨by have := hti2.sz; omega, fun e => by have := hown2 g e; have := HT14.out.1.ti.sz; have := HB.out; omega⟩) _ _ _ hti2.hA)) rfl ((Mod.refl _ w2).alloc _) hgr6 (by rw [HCL.out]; exact hown6) hat
          case measure => simp [intOf]; omega
        · have hiM' : i = M := by omega
          subst hiM'
          have hL2 : Laid wr2 ad := HL.out.below (HT14.out.1.ti.bl.trans (HBL2.out.mono HT14.out.1.ti.bl.size))
          obtain ⟨wx, hwx⟩ : ∃ wx, wx = wr2 := ⟨_, rfl⟩
          subst hwx
          have hM1 := HM.out
          have hrep := fun (W : World) (hb : Below wx.heap.size wx W) => alike_any ad (rep k (i : Int) (ex 4 r)) (nod 18 (List.replicate k (ex 4 r) ++ List.replicate (i - k) (nod 16 [ex 4 r]))) _ _ s' W (RxV.up _ _ _ (HTW.out.1.below hb).h) ((HR2.out.1.below hb).fin 18 (by omega) (by simp; omega)) (by have h := timesP_rep HF.out.1 HF.out.2 k (i - k) (by omega) (by omega) (by omega); rw [show k + (i - k) = i by omega] at h; exact h) (hL2.below hb) HS60.out
          have hever := fun (W : World) (hb : Below wx.heap.size wx W) => alike_any ad (rep k (-1) (ex 4 r)) (nod 18 (List.replicate k (ex 4 r) ++ [nod 14 [ex 4 r]])) _ _ s' W (RxV.up _ _ _ (HTW.out.2.below hb).h) (RxI.rx _ _ _ (HR2.out.2.below hb).h) (timesP_ever HF.out.1 HF.out.2 k (by omega)) (hL2.below hb) HS60.out
          have hk25 := fun (W : World) (hb : Below wx.heap.size wx W) => And.intro hb (And.intro (cells7 (HTW.out.1.below hb).k).1 (And.intro (cells7 (HTW.out.2.below hb).k).1 (cells7 (HR2.out.2.below hb).k).1))
          have HREP := Lib.hid hrep
          have HEVER := Lib.hid hever
          have HKK := Lib.hid hk25
          clear hrep hever hk25 hL2 l0 l1 l2 l3 l4 l5 l6 hM1
          go_wp2_with fail
          have hd0 : Below wx.heap.size wx wx := Below.refl _ _
          go_region_held3 (fun W => Below wx.heap.size wx W ∧ (W.cell? ⟨b15, 0, none⟩ = some (.int .i64 17) ∧ W.cell? ⟨b15, 1, none⟩ = some (.slice none 0 0) ∧ W.cell? ⟨b15, 2, none⟩ = some (.int .i64 (k : Int)) ∧ W.cell? ⟨b15, 3, none⟩ = some (.int .i64 (i : Int)) ∧ W.cell? ⟨b15, 4, none⟩ = some (.bool false) ∧ W.cell? ⟨b15, 5, none⟩ = some (.bool false) ∧ W.cell? ⟨b15, 6, none⟩ = some (.slice (some ⟨c15, 0, none⟩) 1 1)) ∧ (W.cell? ⟨b16, 0, none⟩ = some (.int .i64 17) ∧ W.cell? ⟨b16, 1, none⟩ = some (.slice none 0 0) ∧ W.cell? ⟨b16, 2, none⟩ = some (.int .i64 (k : Int)) ∧ W.cell? ⟨b16, 3, none⟩ = some (.int .i64 (-1)) ∧ W.cell? ⟨b16, 4, none⟩ = some (.bool false) ∧ W.cell? ⟨b16, 5, none⟩ = some (.bool false) ∧ W.cell? ⟨b16, 6, none⟩ = some (.slice (some ⟨c16, 0, none⟩) 1 1)) ∧ (W.cell? ⟨b19, 0, none⟩ = some (.int .i64 18) ∧ W.cell? ⟨b19, 1, none⟩ = some (.slice none 0 0) ∧ W.cell? ⟨b19, 2, none⟩ = some (.int .i64 0) ∧ W.cell? ⟨b19, 3, none⟩ = some (.int .i64 0) ∧ W.cell? ⟨b19, 4, none⟩ = some (.bool false) ∧ W.cell? ⟨b19, 5, none⟩ = some (.bool false) ∧ W.cell? ⟨b19, 6, none⟩ = some (.slice (some ⟨g19, 0, none⟩) n19 c19))) ((refine HKK.out _ ?_; repeat (first | with_reducible exact hd0 | with_reducible exact hq1 | with_reducible exact hq2 | with_reducible exact hq3 | with_reducible refine below_dr' ?_))) (first
            | (go_at_call 21; (with_reducible refine Calls.mono (node_pure 18 _ _ _ _) ?_); rintro e wq1 ⟨rfl, hbq1⟩; have hq1 : Below wx.heap.size wx wq1 := chain hd0.drew hbq1; clear hbq1)
            | (go_at_call 30; (with_reducible refine Calls.mono (HREP.out _ hq1) ?_); rintro e wq2 ⟨rfl, hbq2⟩; have hq2 : Below wx.heap.size wx wq2 := chain hq1 hbq2; clear hbq2)
            | (go_at_call 30; (with_reducible refine Calls.mono (HEVER.out _ hq2) ?_); rintro e wq3 ⟨rfl, hbq3⟩; have hq3 : Below wx.heap.size wx wq3 := chain hq2 hbq3; clear hbq3)
            | fail)
          all_goals
            go_simp
            go_wp2_with fail
            go_ret
            exact ⟨rfl, (HT14.out.1.ti.bl.trans (HBL2.out.mono HT14.out.1.ti.bl.size)).trans (hq3.mono (by have := HBL2.out.size; have := HT14.out.1.ti.bl.size; omega))⟩
end Go.Proofs.YtnpchkohfomagaaDoor.Rgy
