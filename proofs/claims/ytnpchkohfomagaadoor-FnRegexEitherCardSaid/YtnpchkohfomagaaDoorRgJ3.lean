/- FnRegexEither: the law. -/
import Derived.Test.YtnpchkohfomagaaDoorRgJa
import Derived.Test.YtnpchkohfomagaaDoorRgH2
import Derived.Deep.RegionWith
import Derived.Deep.RegionHeld3
import Derived.Deep.DeepCutAuto
import Derived.Deep.CutRange
import Derived.Deep.QuietTactic
import Derived.BigQuiet
namespace Go.Proofs.YtnpchkohfomagaaDoor.Rgy
open Go.ChangeShapes Go.WideShapes Go.ChangeAt Go.RowKit Go.Trav Go.Rg Go.Utf Go.Proofs.YtnpchkohfomagaaDoor.Seq Go.Proofs.YtnpchkohfomagaaDoor.Sparse Go.Proofs.YtnpchkohfomagaaDoor.Rgw
set_option linter.unusedVariables false
set_option linter.unusedSimpArgs false
set_option maxRecDepth 100000
theorem below_dr {W w : World} (h : Below W.heap.size W w) : Below W.heap.size W w.drew := h.drew
theorem below_sc {W w : World} {p : Addr} {v : Value} (h : Below W.heap.size W w) (hp : W.heap.size ≤ p.block) : Below W.heap.size W (w.setCell p v) := h.setCell hp v
/-- Behind the making of the two parts. -/
structure EI (r1 r2 : Rw) (b7 b8 : Nat) (cA cB : List Value) (w wx : World) : Prop where
  k7 : wx.heap[b7]? = some (.cells cA.toArray 35 (0, 0))
  k8 : wx.heap[b8]? = some (.cells cB.toArray 35 (0, 0))
  hA : RxV wx 4 (ex 4 r1) cA
  hB : RxV wx 4 (ex 4 r2) cB
  bl : Below w.heap.size w wx
theorem EI.below {r1 r2 : Rw} {b7 b8 : Nat} {cA cB : List Value} {w wx wy : World} (h : EI r1 r2 b7 b8 cA cB w wx) (hb : Below wx.heap.size wx wy) : EI r1 r2 b7 b8 cA cB w wy :=
  ⟨(Mod.of_below (F := fun _ => False) hb).heap h.k7 (fun h => h), (Mod.of_below (F := fun _ => False) hb).heap h.k8 (fun h => h), RxV.below hb _ _ _ h.hA, RxV.below hb _ _ _ h.hB, h.bl.trans (hb.mono h.bl.size)⟩
theorem EI.fin {r1 r2 : Rw} {b7 b8 : Nat} {cA cB : List Value} {w wB wx : World} {RA RB : Nat → Prop} (hbl : Below w.heap.size w wB) (hA : RxI wB RA 4 (ex 4 r1) cA) (hB : RxI wB RB 4 (ex 4 r2) cB) (hRA : ∀ g, RA g → g ≠ b7 ∧ g ≠ b8) (hRB : ∀ g, RB g → g ≠ b7 ∧ g ≠ b8)
    (h7 : w.heap.size ≤ b7) (h8 : w.heap.size ≤ b8) (m : Mod (fun z => z = b7 ∨ z = b8) wB wx) (k7 : wx.heap[b7]? = some (.cells cA.toArray 35 (0, 0))) (k8 : wx.heap[b8]? = some (.cells cB.toArray 35 (0, 0))) : EI r1 r2 b7 b8 cA cB w wx :=
  ⟨k7, k8, RxI.rx _ _ _ (RxI.mod m (fun k hk h => h.elim (hRA k hk).1 (hRA k hk).2) _ _ _ hA), RxI.rx _ _ _ (RxI.mod m (fun k hk h => h.elim (hRB k hk).1 (hRB k hk).2) _ _ _ hB), hbl.trans (m.toBelow hbl.size fun g _ hg => by rcases hg with rfl | rfl; exact h7; exact h8)⟩
section
variable {r1 r2 : Rw} {b7 b8 : Nat} {a0 a1 a2 a3 a4 a5 a6 e0 e1 e2 e3 e4 e5 e6 : Value} {w wB : World} {RA RB : Nat → Prop}
theorem EI.f1 (hbl : Below w.heap.size w wB) (hA : RxI wB RA 4 (ex 4 r1) [a0, a1, a2, a3, a4, a5, a6]) (hB : RxI wB RB 4 (ex 4 r2) [e0, e1, e2, e3, e4, e5, e6]) (hRA : ∀ g, RA g → g < wB.heap.size) (hRB : ∀ g, RB g → g < wB.heap.size) : EI r1 r2 wB.heap.size (wB.heap.size + 1) [a0, a1, a2, a3, a4, a5, a6] [e0, e1, e2, e3, e4, e5, e6] w ((wB.alloc (.cells #[a0, a1, a2, a3, a4, a5, a6] 35)).alloc (.cells #[e0, e1, e2, e3, e4, e5, e6] 35)) := by
  have hs := hbl.size
  exact EI.fin hbl hA hB (fun g hg => by have := hRA g hg; omega) (fun g hg => by have := hRB g hg; omega) hs (by omega) (((Mod.refl _ wB).alloc _).alloc _) (block_alloc (heap_alloc_new wB _)) (heap_alloc_at _ _ _ (by simp))
theorem EI.f2 (hbl : Below w.heap.size w wB) (hA : RxI wB RA 4 (ex 4 r1) [a0, a1, a2, a3, a4, a5, a6]) (hB : RxI wB RB 4 (ex 4 r2) [e0, e1, e2, e3, e4, e5, e6]) (hRA : ∀ g, RA g → g < wB.heap.size) (hRB : ∀ g, RB g → g < wB.heap.size) : EI r1 r2 (wB.heap.size + 1) wB.heap.size [a0, a1, a2, a3, a4, a5, a6] [e0, e1, e2, e3, e4, e5, e6] w ((wB.alloc (.cells #[e0, e1, e2, e3, e4, e5, e6] 35)).alloc (.cells #[a0, a1, a2, a3, a4, a5, a6] 35)) := by
  have hs := hbl.size
  exact EI.fin hbl hA hB (fun g hg => by have := hRA g hg; omega) (fun g hg => by have := hRB g hg; omega) (by omega) hs (((Mod.refl _ wB).alloc _).alloc _) (heap_alloc_at _ _ _ (by simp)) (block_alloc (heap_alloc_new wB _))
theorem EI.f3 (kz : wB.heap[b7]? = some (.cells #[.int .i64 0, .slice none 0 0, .int .i64 0, .int .i64 0, .bool false, .bool false, .slice none 0 0] 35 (0, 0))) (hbl : Below w.heap.size w wB) (hA : RxI wB RA 4 (ex 4 r1) [a0, a1, a2, a3, a4, a5, a6]) (hB : RxI wB RB 4 (ex 4 r2) [e0, e1, e2, e3, e4, e5, e6]) (hRA : ∀ g, RA g → g < wB.heap.size ∧ g ≠ b7 ∧ g ≠ wB.heap.size) (hRB : ∀ g, RB g → g < wB.heap.size ∧ g ≠ b7 ∧ g ≠ wB.heap.size) (h7 : w.heap.size ≤ b7) (h8 : w.heap.size ≤ wB.heap.size) : EI r1 r2 b7 wB.heap.size [a0, a1, a2, a3, a4, a5, a6] [e0, e1, e2, e3, e4, e5, e6] w (((((((((((((((wB.alloc (.cells #[.int .i64 0, .slice none 0 0, .int .i64 0, .int .i64 0, .bool false, .bool false, .slice none 0 0] 35)).setCell ⟨b7, 0, none⟩ a0).setCell ⟨b7, 1, none⟩ a1).setCell ⟨b7, 2, none⟩ a2).setCell ⟨b7, 3, none⟩ a3).setCell ⟨b7, 4, none⟩ a4).setCell ⟨b7, 5, none⟩ a5).setCell ⟨b7, 6, none⟩ a6).setCell ⟨wB.heap.size, 0, none⟩ e0).setCell ⟨wB.heap.size, 1, none⟩ e1).setCell ⟨wB.heap.size, 2, none⟩ e2).setCell ⟨wB.heap.size, 3, none⟩ e3).setCell ⟨wB.heap.size, 4, none⟩ e4).setCell ⟨wB.heap.size, 5, none⟩ e5).setCell ⟨wB.heap.size, 6, none⟩ e6) := by
  have hlt := block_lt kz
  have m1 := set7_mod (wB.alloc (.cells #[.int .i64 0, .slice none 0 0, .int .i64 0, .int .i64 0, .bool false, .bool false, .slice none 0 0] 35)) b7 a0 a1 a2 a3 a4 a5 a6
  have m2 := set7_mod (set7 (wB.alloc (.cells #[.int .i64 0, .slice none 0 0, .int .i64 0, .int .i64 0, .bool false, .bool false, .slice none 0 0] 35)) b7 a0 a1 a2 a3 a4 a5 a6) wB.heap.size e0 e1 e2 e3 e4 e5 e6
  refine EI.fin hbl hA hB (fun g hg => (hRA g hg).2) (fun g hg => (hRB g hg).2) h7 h8 ((((Mod.refl _ wB).alloc _).trans (m1.mono fun _ _ h => Or.inl h)).trans (m2.mono fun _ _ h => Or.inr h)) ?_ ?_
  · exact m2.heap (set7_blk (block_alloc kz) a0 a1 a2 a3 a4 a5 a6) (by omega)
  · exact set7_blk (m1.heap (heap_alloc_new wB (.cells #[.int .i64 0, .slice none 0 0, .int .i64 0, .int .i64 0, .bool false, .bool false, .slice none 0 0] 35)) (by omega)) e0 e1 e2 e3 e4 e5 e6
theorem EI.f4 (kz : wB.heap[b8]? = some (.cells #[.int .i64 0, .slice none 0 0, .int .i64 0, .int .i64 0, .bool false, .bool false, .slice none 0 0] 35 (0, 0))) (hbl : Below w.heap.size w wB) (hA : RxI wB RA 4 (ex 4 r1) [a0, a1, a2, a3, a4, a5, a6]) (hB : RxI wB RB 4 (ex 4 r2) [e0, e1, e2, e3, e4, e5, e6]) (hRA : ∀ g, RA g → g < wB.heap.size ∧ g ≠ wB.heap.size ∧ g ≠ b8) (hRB : ∀ g, RB g → g < wB.heap.size ∧ g ≠ wB.heap.size ∧ g ≠ b8) (h7 : w.heap.size ≤ wB.heap.size) (h8 : w.heap.size ≤ b8) : EI r1 r2 wB.heap.size b8 [a0, a1, a2, a3, a4, a5, a6] [e0, e1, e2, e3, e4, e5, e6] w ((((((((wB.alloc (.cells #[a0, a1, a2, a3, a4, a5, a6] 35)).setCell ⟨b8, 0, none⟩ e0).setCell ⟨b8, 1, none⟩ e1).setCell ⟨b8, 2, none⟩ e2).setCell ⟨b8, 3, none⟩ e3).setCell ⟨b8, 4, none⟩ e4).setCell ⟨b8, 5, none⟩ e5).setCell ⟨b8, 6, none⟩ e6) := by
  have hlt := block_lt kz
  have m2 := set7_mod (wB.alloc (.cells #[a0, a1, a2, a3, a4, a5, a6] 35)) b8 e0 e1 e2 e3 e4 e5 e6
  refine EI.fin hbl hA hB (fun g hg => (hRA g hg).2) (fun g hg => (hRB g hg).2) h7 h8 (((Mod.refl _ wB).alloc _).trans (m2.mono fun _ _ h => Or.inr h)) ?_ ?_
  · exact m2.heap (heap_alloc_new wB (.cells #[a0, a1, a2, a3, a4, a5, a6] 35)) (by omega)
  · exact set7_blk (block_alloc kz) e0 e1 e2 e3 e4 e5 e6
theorem EI.f5 (kz : wB.heap[b7]? = some (.cells #[.int .i64 0, .slice none 0 0, .int .i64 0, .int .i64 0, .bool false, .bool false, .slice none 0 0] 35 (0, 0))) (kz8 : wB.heap[b8]? = some (.cells #[.int .i64 0, .slice none 0 0, .int .i64 0, .int .i64 0, .bool false, .bool false, .slice none 0 0] 35 (0, 0))) (hbl : Below w.heap.size w wB) (hA : RxI wB RA 4 (ex 4 r1) [a0, a1, a2, a3, a4, a5, a6]) (hB : RxI wB RB 4 (ex 4 r2) [e0, e1, e2, e3, e4, e5, e6]) (hRA : ∀ g, RA g → g < wB.heap.size ∧ g ≠ b7 ∧ g ≠ b8) (hRB : ∀ g, RB g → g < wB.heap.size ∧ g ≠ b7 ∧ g ≠ b8) (h7 : w.heap.size ≤ b7) (h8 : w.heap.size ≤ b8) (hne : b7 ≠ b8) : EI r1 r2 b7 b8 [a0, a1, a2, a3, a4, a5, a6] [e0, e1, e2, e3, e4, e5, e6] w ((((((((((((((wB.setCell ⟨b7, 0, none⟩ a0).setCell ⟨b7, 1, none⟩ a1).setCell ⟨b7, 2, none⟩ a2).setCell ⟨b7, 3, none⟩ a3).setCell ⟨b7, 4, none⟩ a4).setCell ⟨b7, 5, none⟩ a5).setCell ⟨b7, 6, none⟩ a6).setCell ⟨b8, 0, none⟩ e0).setCell ⟨b8, 1, none⟩ e1).setCell ⟨b8, 2, none⟩ e2).setCell ⟨b8, 3, none⟩ e3).setCell ⟨b8, 4, none⟩ e4).setCell ⟨b8, 5, none⟩ e5).setCell ⟨b8, 6, none⟩ e6) := by
  have m1 := set7_mod wB b7 a0 a1 a2 a3 a4 a5 a6
  have m2 := set7_mod (set7 wB b7 a0 a1 a2 a3 a4 a5 a6) b8 e0 e1 e2 e3 e4 e5 e6
  refine EI.fin hbl hA hB (fun g hg => (hRA g hg).2) (fun g hg => (hRB g hg).2) h7 h8 ((m1.mono fun _ _ h => Or.inl h).trans (m2.mono fun _ _ h => Or.inr h)) ?_ ?_
  · exact m2.heap (set7_blk kz a0 a1 a2 a3 a4 a5 a6) hne
  · exact set7_blk (m1.heap kz8 (fun e => hne e.symm)) e0 e1 e2 e3 e4 e5 e6
end
/-- Behind the making of the alternative. -/
structure EJ (r1 r2 : Rw) (b7 b8 b10 : Nat) (cA cB cO : List Value) (w wx : World) : Prop where
  ei : EI r1 r2 b7 b8 cA cB w wx
  k10 : wx.heap[b10]? = some (.cells cO.toArray 35 (0, 0))
  hO : RxV wx 5 (nod 19 [ex 4 r1, ex 4 r2]) cO
theorem EJ.of {r1 r2 : Rw} {b7 b8 : Nat} {a0 a1 a2 a3 a4 a5 a6 e0 e1 e2 e3 e4 e5 e6 : Value} {w w7 w8 : World} (h : EI r1 r2 b7 b8 [a0, a1, a2, a3, a4, a5, a6] [e0, e1, e2, e3, e4, e5, e6] w w7)
    (hb8 : Below (w7.alloc (.cells #[a0, a1, a2, a3, a4, a5, a6, e0, e1, e2, e3, e4, e5, e6] 35)).heap.size (w7.alloc (.cells #[a0, a1, a2, a3, a4, a5, a6, e0, e1, e2, e3, e4, e5, e6] 35)) w8) :
    EJ r1 r2 b7 b8 w8.heap.size [a0, a1, a2, a3, a4, a5, a6] [e0, e1, e2, e3, e4, e5, e6] [.int .i64 19, .slice none 0 0, .int .i64 0, .int .i64 0, .bool false, .bool false, .slice (some ⟨w7.heap.size, 0, none⟩) 2 2] w (w8.alloc (.cells #[.int .i64 19, .slice none 0 0, .int .i64 0, .int .i64 0, .bool false, .bool false, .slice (some ⟨w7.heap.size, 0, none⟩) 2 2] 35)) := by
  have k := (Mod.of_below (F := fun _ => False) hb8).heap (heap_alloc_new w7 (.cells #[a0, a1, a2, a3, a4, a5, a6, e0, e1, e2, e3, e4, e5, e6] 35)) (fun h => h)
  have h8 := (h.below ((Below.refl _ _).alloc (Nat.le_refl _) _)).below hb8
  have hb9 : Below w8.heap.size w8 (w8.alloc (.cells #[.int .i64 19, .slice none 0 0, .int .i64 0, .int .i64 0, .bool false, .bool false, .slice (some ⟨w7.heap.size, 0, none⟩) 2 2] 35)) := (Below.refl _ _).alloc (Nat.le_refl _) _
  exact ⟨h8.below hb9, heap_alloc_new w8 _, RxV.below hb9 _ _ _ (rv2 (o := 19) (mn := 0) (mx := 0) (by omega) k h8.hA h8.hB)⟩
theorem EJ.below {r1 r2 : Rw} {b7 b8 b10 : Nat} {cA cB cO : List Value} {w wx wy : World} (h : EJ r1 r2 b7 b8 b10 cA cB cO w wx) (hb : Below wx.heap.size wx wy) : EJ r1 r2 b7 b8 b10 cA cB cO w wy :=
  ⟨h.ei.below hb, (Mod.of_below (F := fun _ => False) hb).heap h.k10 (fun h => h), RxV.below hb _ _ _ h.hO⟩
theorem either_pre (r1 r2 : Rw) : Fine 5 (10 * (363 * (places 4 (ex 4 r1) + places 4 (ex 4 r2)) + exB 4 + 2)) (nod 19 [ex 4 r1, ex 4 r2]) := by
  refine Fine.many 19 (l := [ex 4 r1, ex 4 r2]) (fun x hx => ?_) (Or.inr rfl) (by simp) (by simp)
  simp at hx
  rcases hx with rfl | rfl
  · exact (ex_fine 4 r1 (by omega)).more (by omega)
  · exact (ex_fine 4 r2 (by omega)).more (by omega)
theorem either_say {r1 r2 : Rw} (h : places 5 (nod 19 [ex 4 r1, ex 4 r2]) ≤ 160) : Fine 5 262144 (nod 19 [ex 4 r1, ex 4 r2]) ∧ size 4 (ex 4 r1) ≤ 262144 ∧ size 4 (ex 4 r2) ≤ 262144 ∧ places 4 (ex 4 r1) ≤ 160 ∧ places 4 (ex 4 r2) ≤ 160 := by
  rw [either_places] at h
  have hB : exB 4 ≤ 2000 := by decide
  have h1 := ex_lin 4 r1
  have h2 := ex_lin 4 r2
  refine ⟨either_fine ((ex_fine 4 r1 (by omega)).more (by omega)) ((ex_fine 4 r2 (by omega)).more (by omega)) (by omega), by omega, by omega, by omega, by omega⟩
theorem three_say {r1 r2 : Rw} {l : List Nat} {x y z : Bool} (h : x = true ↔ lang 5 (nod 19 [ex 4 r1, ex 4 r2]) l) (h1 : y = true ↔ lang 4 (ex 4 r1) l) (h2 : z = true ↔ lang 4 (ex 4 r2) l) : x = (y || z) := by
  rw [either_lang, ← h1, ← h2] at h
  rw [Bool.eq_iff_iff, Bool.or_eq_true]
  exact h
theorem three_can {r1 r2 : Rw} {l : List Nat} {x y z : Bool} (h : x = true ↔ ∃ u, lang 5 (nod 19 [ex 4 r1, ex 4 r2]) (l ++ u)) (h1 : y = true ↔ ∃ u, lang 4 (ex 4 r1) (l ++ u)) (h2 : z = true ↔ ∃ u, lang 4 (ex 4 r2) (l ++ u)) : x = (y || z) := by
  have e : (∃ u, lang 5 (nod 19 [ex 4 r1, ex 4 r2]) (l ++ u)) ↔ ((∃ u, lang 4 (ex 4 r1) (l ++ u)) ∨ ∃ u, lang 4 (ex 4 r2) (l ++ u)) := by
    simp only [either_lang]
    exact ⟨fun ⟨u, h⟩ => h.elim (fun h => .inl ⟨u, h⟩) fun h => .inr ⟨u, h⟩, fun h => h.elim (fun ⟨u, h⟩ => ⟨u, .inl h⟩) fun ⟨u, h⟩ => ⟨u, .inr h⟩⟩
  rw [e, ← h1, ← h2] at h
  rw [Bool.eq_iff_iff, Bool.or_eq_true]
  exact h
set_option maxHeartbeats 8000000 in
theorem law_either (ad : Nat → Addr) (n1 n2 : Nat) (r1 r2 : Rw) (cs1 cs2 : List Value) (s : ByteArray) (w : World) (h1 : RwV w n1 r1 cs1) (h2 : RwV w n2 r2 cs2) (hL : Laid w ad) :
    Calls Tryd.prog 5 #[.agg cs1.toArray, .agg cs2.toArray, .string s] w fun e w' => e = .returned (.bool true) ∧ Below w.heap.size w w' := by
  obtain ⟨rv1, lz1, fo1, sv1, rfl, ⟨ra1, rl1, rc1, rfl⟩, sa1, sl1, sc1, rfl⟩ := h1.form
  obtain ⟨rv2, lz2, fo2, sv2, rfl, ⟨ra2, rl2, rc2, rfl⟩, sa2, sl2, sc2, rfl⟩ := h2.form
  obtain ⟨W2, hW2⟩ : ∃ W2, W2 = (w.alloc (.cells #[.int .i64 r1.op, .slice ra1 rl1 rc1, .int .i64 r1.mn, .int .i64 r1.mx, .bool lz1, .bool fo1, .slice sa1 sl1 sc1] 35)).alloc (.cells #[.int .i64 r2.op, .slice ra2 rl2 rc2, .int .i64 r2.mn, .int .i64 r2.mx, .bool lz2, .bool fo2, .slice sa2 sl2 sc2] 35) := ⟨_, rfl⟩
  have hb1 : Below w.heap.size w W2 := by rw [hW2]; exact ((Below.refl _ _).alloc (Nat.le_refl _) _).alloc (by simp) _
  have b0 : W2.heap[w.heap.size]? = some (.cells #[.int .i64 r1.op, .slice ra1 rl1 rc1, .int .i64 r1.mn, .int .i64 r1.mx, .bool lz1, .bool fo1, .slice sa1 sl1 sc1] 35 (0, 0)) := by rw [hW2]; exact block_alloc (heap_alloc_new w _)
  have b1 : W2.heap[w.heap.size + 1]? = some (.cells #[.int .i64 r2.op, .slice ra2 rl2 rc2, .int .i64 r2.mn, .int .i64 r2.mx, .bool lz2, .bool fo2, .slice sa2 sl2 sc2] 35 (0, 0)) := by
    have h := heap_alloc_new (w.alloc (.cells #[.int .i64 r1.op, .slice ra1 rl1 rc1, .int .i64 r1.mn, .int .i64 r1.mx, .bool lz1, .bool fo1, .slice sa1 sl1 sc1] 35)) (.cells #[.int .i64 r2.op, .slice ra2 rl2 rc2, .int .i64 r2.mn, .int .i64 r2.mx, .bool lz2, .bool fo2, .slice sa2 sl2 sc2] 35)
    rw [hW2]; simpa using h
  have hx1 := fun (W : World) (hb : Below W2.heap.size W2 W) => expr_any 4 (by omega) (by omega) n1 r1 _ W (RwV.below (hb1.trans (hb.mono hb1.size)) n1 r1 _ h1)
  have hx2 := fun (W : World) (hb : Below W2.heap.size W2 W) => expr_any 4 (by omega) (by omega) n2 r2 _ W (RwV.below (hb1.trans (hb.mono hb1.size)) n2 r2 _ h2)
  have hk0 := fun (W : World) (hb : Below W2.heap.size W2 W) => (cells7 ((Mod.of_below (F := fun _ => False) hb).heap b0 (fun h => h))).1
  have hk1 := fun (W : World) (hb : Below W2.heap.size W2 W) => (cells7 ((Mod.of_below (F := fun _ => False) hb).heap b1 (fun h => h))).1
  have hf1 := fun W => fits_any r1.op ra1 rl1 rc1 r1.mn r1.mx lz1 fo1 sa1 sl1 sc1 W
  have hf2 := fun W => fits_any r2.op ra2 rl2 rc2 r2.mn r2.mx lz2 fo2 sa2 sl2 sc2 W
  have hv1 := fun W => wide_any r1.op ra1 rl1 rc1 r1.mn r1.mx lz1 fo1 sa1 sl1 sc1 W
  have hv2 := fun W => wide_any r2.op ra2 rl2 rc2 r2.mn r2.mx lz2 fo2 sa2 sl2 sc2 W
  obtain ⟨f1, hfe1⟩ : ∃ f, f = (decide (rl1 ≤ 2147483647) && decide (sl1 ≤ 2147483647)) := ⟨_, rfl⟩
  obtain ⟨f2, hfe2⟩ : ∃ f, f = (decide (rl2 ≤ 2147483647) && decide (sl2 ≤ 2147483647)) := ⟨_, rfl⟩
  obtain ⟨g1, hge1⟩ : ∃ f, f = (decide (rl1 ≤ 65536) && decide (sl1 ≤ 65536)) := ⟨_, rfl⟩
  obtain ⟨g2, hge2⟩ : ∃ f, f = (decide (rl2 ≤ 65536) && decide (sl2 ≤ 65536)) := ⟨_, rfl⟩
  rw [← hfe1] at hf1
  rw [← hfe2] at hf2
  rw [← hge1] at hv1
  rw [← hge2] at hv2
  have HF1 := Lib.hid hf1
  have HF2 := Lib.hid hf2
  have HV1 := Lib.hid hv1
  have HV2 := Lib.hid hv2
  have HX1 := Lib.hid hx1
  have HX2 := Lib.hid hx2
  have HK0 := Lib.hid hk0
  have HK1 := Lib.hid hk1
  have HB1 := Lib.hid hb1
  have HL := Lib.hid hL
  clear hx1 hx2 hk0 hk1 hf1 hf2 hv1 hv2 hfe1 hfe2 hge1 hge2 hb1 b0 b1 h1 h2 hL
  go_enter Tryd.func5, Tryd.ntmps5
  go_wp2_with fail
  rw [← hW2]
  clear hW2
  refine (HF1.out W2).mono ?_
  rintro e w3 ⟨rfl, hb3⟩
  cases f1 with
  | false =>
    have HB3 := Lib.hid hb3
    clear hb3
    go_wp2_with fail
    go_ret
    exact ⟨rfl, HB1.out.trans (HB3.out.mono HB1.out.size)⟩
  | true =>
  obtain ⟨y0, y1, y2, y3, y4, y5, y6⟩ := HK1.out w3 hb3
  have HB3 := Lib.hid hb3
  clear hb3
  go_wp2_with fail
  refine (HF2.out w3).mono ?_
  rintro e w4 ⟨rfl, hb4⟩
  clear y0 y1 y2 y3 y4 y5 y6
  have HB4 := Lib.hid (HB3.out.trans (hb4.mono HB3.out.size))
  clear hb4 HB3
  cases f2 with
  | false =>
    go_wp2_with fail
    go_ret
    exact ⟨rfl, HB1.out.trans (HB4.out.mono HB1.out.size)⟩
  | true =>
  by_cases hs9 : s.size ≤ 2147483647
  case neg =>
    go_wp2_with fail
    go_ret
    exact ⟨rfl, HB1.out.trans (HB4.out.mono HB1.out.size)⟩
  obtain ⟨y0, y1, y2, y3, y4, y5, y6⟩ := HK0.out w4 HB4.out
  go_wp2_with fail
  refine (HV1.out w4).mono ?_
  rintro e w5 ⟨rfl, hb5⟩
  clear y0 y1 y2 y3 y4 y5 y6
  have HB5 := Lib.hid (HB4.out.trans (hb5.mono HB4.out.size))
  clear hb5 HB4
  cases g1 with
  | false =>
    go_wp2_with fail
    go_ret
    exact ⟨rfl, HB1.out.trans (HB5.out.mono HB1.out.size)⟩
  | true =>
  obtain ⟨y0, y1, y2, y3, y4, y5, y6⟩ := HK1.out w5 HB5.out
  go_wp2_with fail
  refine (HV2.out w5).mono ?_
  rintro e w6 ⟨rfl, hb6⟩
  clear y0 y1 y2 y3 y4 y5 y6
  have HB6 := Lib.hid (HB5.out.trans (hb6.mono HB5.out.size))
  clear hb6 HB5
  cases g2 with
  | false =>
    go_wp2_with fail
    go_ret
    exact ⟨rfl, HB1.out.trans (HB6.out.mono HB1.out.size)⟩
  | true =>
  obtain ⟨y0, y1, y2, y3, y4, y5, y6⟩ := HK0.out w6 HB6.out
  obtain ⟨z0, z1, z2, z3, z4, z5, z6⟩ := HK1.out w6 HB6.out
  have hfew := fun W => fewb_any s 60 W (by omega) (by omega)
  have HFEW := Lib.hid hfew
  clear hfew
  go_upto_region 5 with (fail)
  go_cut [7, 8, 9] (fun v7 v8 v9 wx => ∃ (b7 b8 : Nat) (cA cB : List Value) (r : ByteArray), v7 = .pointer (some ⟨b7, 0, none⟩) ∧ v8 = .pointer (some ⟨b8, 0, none⟩) ∧ v9 = .string r ∧ r.size ≤ 60 ∧ Hid (EI r1 r2 b7 b8 cA cB w wx))
  case first =>
      have hd0 : Below W2.heap.size W2 w6 := HB6.out
      have sz6 : W2.heap.size ≤ w6.heap.size := HB6.out.size
      have hkk := fun (W : World) (hb : Below W2.heap.size W2 W) => And.intro hb (And.intro (HK0.out W hb) (HK1.out W hb))
      have HKK := Lib.hid hkk
      clear hkk y0 y1 y2 y3 y4 y5 y6 z0 z1 z2 z3 z4 z5 z6
      go_region_held3 (fun W => Below W2.heap.size W2 W ∧ (W.cell? ⟨w.heap.size, 0, none⟩ = some (.int .i64 r1.op) ∧ W.cell? ⟨w.heap.size, 1, none⟩ = some (.slice ra1 rl1 rc1) ∧ W.cell? ⟨w.heap.size, 2, none⟩ = some (.int .i64 r1.mn) ∧ W.cell? ⟨w.heap.size, 3, none⟩ = some (.int .i64 r1.mx) ∧ W.cell? ⟨w.heap.size, 4, none⟩ = some (.bool lz1) ∧ W.cell? ⟨w.heap.size, 5, none⟩ = some (.bool fo1) ∧ W.cell? ⟨w.heap.size, 6, none⟩ = some (.slice sa1 sl1 sc1)) ∧ (W.cell? ⟨w.heap.size + 1, 0, none⟩ = some (.int .i64 r2.op) ∧ W.cell? ⟨w.heap.size + 1, 1, none⟩ = some (.slice ra2 rl2 rc2) ∧ W.cell? ⟨w.heap.size + 1, 2, none⟩ = some (.int .i64 r2.mn) ∧ W.cell? ⟨w.heap.size + 1, 3, none⟩ = some (.int .i64 r2.mx) ∧ W.cell? ⟨w.heap.size + 1, 4, none⟩ = some (.bool lz2) ∧ W.cell? ⟨w.heap.size + 1, 5, none⟩ = some (.bool fo2) ∧ W.cell? ⟨w.heap.size + 1, 6, none⟩ = some (.slice sa2 sl2 sc2))) ((refine HKK.out _ ?_; repeat (first | with_reducible exact hd0 | with_reducible refine below_dr ?_ | with_reducible exact hWA | with_reducible exact hWB | with_reducible refine below_al ?_ _ | (with_reducible refine below_sc ?_ (by first | with_reducible exact sz6 | with_reducible exact szA | with_reducible exact szB | with_reducible exact Nat.le_succ_of_le sz6 | with_reducible exact Nat.le_succ_of_le szA | with_reducible exact Nat.le_succ_of_le szB))))) (first
        | (go_at_call 10; (with_reducible refine Calls.mono (HFEW.out _) ?_); rintro e wF ⟨⟨r, rfl, hr⟩, rfl⟩)
        | (go_at_call 16; (with_reducible refine Calls.mono (HX1.out _ hd0.drew) ?_); rintro e wA ⟨cA, heA, hlA, hbA, hRA⟩
           obtain ⟨oA, rvA, mnA, mxA, lzA, svA, rfl, ⟨a1, a2, a3, rfl⟩, a4, a5, a6, rfl⟩ := hRA.form
           obtain rfl := heA
           have hWA : Below W2.heap.size W2 wA := chain hd0.drew hbA
           have szA1 : w6.heap.size ≤ wA.heap.size := by have := hbA.size; simpa using this
           have HRA := Lib.hid (RxI.wide (R' := fun g => w6.heap.size ≤ g ∧ g < wA.heap.size) (fun g hg => ⟨by have := hg.1; simpa using this, hg.2⟩) _ _ _ hRA)
           have szA := hWA.size
           clear hRA hlA)
        | (go_at_call 16; (with_reducible refine Calls.mono (HX1.out (w6.alloc (.cells #[.int .i64 0, .slice none 0 0, .int .i64 0, .int .i64 0, .bool false, .bool false, .slice none 0 0] 35)).drew (below_al hd0 _).drew) ?_); rintro e wA ⟨cA, heA, hlA, hbA, hRA⟩
           obtain ⟨oA, rvA, mnA, mxA, lzA, svA, rfl, ⟨a1, a2, a3, rfl⟩, a4, a5, a6, rfl⟩ := hRA.form
           obtain rfl := heA
           have hWA : Below W2.heap.size W2 wA := chain (below_al hd0 _).drew hbA
           have kz1 := up_b hbA (heap_alloc_new w6 (.cells #[.int .i64 0, .slice none 0 0, .int .i64 0, .int .i64 0, .bool false, .bool false, .slice none 0 0] 35))
           have szA1 : w6.heap.size + 1 ≤ wA.heap.size := by have := hbA.size; simpa using this
           have HRA := Lib.hid (RxI.wide (R' := fun g => w6.heap.size + 1 ≤ g ∧ g < wA.heap.size) (fun g hg => ⟨by have := hg.1; simpa using this, hg.2⟩) _ _ _ hRA)
           have szA := hWA.size
           clear hRA hlA)
        | (go_at_call 16; (with_reducible refine Calls.mono (HX1.out ((w6.alloc (.cells #[.int .i64 0, .slice none 0 0, .int .i64 0, .int .i64 0, .bool false, .bool false, .slice none 0 0] 35)).alloc (.cells #[.int .i64 0, .slice none 0 0, .int .i64 0, .int .i64 0, .bool false, .bool false, .slice none 0 0] 35)).drew (below_al (below_al hd0 _) _).drew) ?_); rintro e wA ⟨cA, heA, hlA, hbA, hRA⟩
           obtain ⟨oA, rvA, mnA, mxA, lzA, svA, rfl, ⟨a1, a2, a3, rfl⟩, a4, a5, a6, rfl⟩ := hRA.form
           obtain rfl := heA
           have hWA : Below W2.heap.size W2 wA := chain (below_al (below_al hd0 _) _).drew hbA
           have kz1 := up_b hbA (block_alloc (o' := (.cells #[.int .i64 0, .slice none 0 0, .int .i64 0, .int .i64 0, .bool false, .bool false, .slice none 0 0] 35)) (heap_alloc_new w6 (.cells #[.int .i64 0, .slice none 0 0, .int .i64 0, .int .i64 0, .bool false, .bool false, .slice none 0 0] 35)))
           have kz2 := up_b hbA (heap_alloc_at (w6.alloc (.cells #[.int .i64 0, .slice none 0 0, .int .i64 0, .int .i64 0, .bool false, .bool false, .slice none 0 0] 35)) (.cells #[.int .i64 0, .slice none 0 0, .int .i64 0, .int .i64 0, .bool false, .bool false, .slice none 0 0] 35) (w6.heap.size + 1) (by simp))
           have szA1 : w6.heap.size + 2 ≤ wA.heap.size := by have := hbA.size; simpa using this
           have HRA := Lib.hid (RxI.wide (R' := fun g => w6.heap.size + 2 ≤ g ∧ g < wA.heap.size) (fun g hg => ⟨by have := hg.1; simpa using this, hg.2⟩) _ _ _ hRA)
           have szA := hWA.size
           clear hRA hlA)
        | (go_at_call 16; (with_reducible refine Calls.mono (HX2.out wA hWA) ?_); rintro e wB ⟨cB, heB, hlB, hbB, hRB⟩
           obtain ⟨oB, rvB, mnB, mxB, lzB, svB, rfl, ⟨d1, d2, d3, rfl⟩, d4, d5, d6, rfl⟩ := hRB.form
           obtain rfl := heB
           have hWB : Below W2.heap.size W2 wB := chain hWA hbB
           have szB1 : wA.heap.size ≤ wB.heap.size := by have := hbB.size; simpa using this
           have HRB := Lib.hid (And.intro (RxI.below hbB _ _ _ HRA.out) (RxI.wide (R' := fun g => wA.heap.size ≤ g ∧ g < wB.heap.size) (fun g hg => ⟨by have := hg.1; simpa using this, hg.2⟩) _ _ _ hRB))
           try replace kz1 := up_b hbB kz1
           try replace kz2 := up_b hbB kz2
           try have gz1 := cells7 kz1
           try have oz1 := fun oo => cells7 (block_alloc (o' := oo) kz1)
           try have iz1 : w6.heap.size ≠ wB.heap.size := by have := block_lt kz1; omega
           try have jz1 : wB.heap.size ≠ w6.heap.size := by have := block_lt kz1; omega
           try have gz2 := cells7 kz2
           try have oz2 := fun oo => cells7 (block_alloc (o' := oo) kz2)
           try have iz2 : w6.heap.size + 1 ≠ wB.heap.size := by have := block_lt kz2; omega
           try have jz2 : wB.heap.size ≠ w6.heap.size + 1 := by have := block_lt kz2; omega
           try have gz3 := cells7 kz3
           try have oz3 := fun oo => cells7 (block_alloc (o' := oo) kz3)
           try have iz3 : wA.heap.size ≠ wB.heap.size := by have := block_lt kz3; omega
           try have jz3 : wB.heap.size ≠ wA.heap.size := by have := block_lt kz3; omega
           try have gz4 := cells7 kz4
           try have oz4 := fun oo => cells7 (block_alloc (o' := oo) kz4)
           try have iz4 : wA.heap.size + 1 ≠ wB.heap.size := by have := block_lt kz4; omega
           try have jz4 : wB.heap.size ≠ wA.heap.size + 1 := by have := block_lt kz4; omega
           have szB := hWB.size
           clear hRB hlB)
        | (go_at_call 16; (with_reducible refine Calls.mono (HX2.out (wA.alloc (.cells #[.int .i64 0, .slice none 0 0, .int .i64 0, .int .i64 0, .bool false, .bool false, .slice none 0 0] 35)) (below_al hWA _)) ?_); rintro e wB ⟨cB, heB, hlB, hbB, hRB⟩
           obtain ⟨oB, rvB, mnB, mxB, lzB, svB, rfl, ⟨d1, d2, d3, rfl⟩, d4, d5, d6, rfl⟩ := hRB.form
           obtain rfl := heB
           have hWB : Below W2.heap.size W2 wB := chain (below_al hWA _) hbB
           have szB1 : wA.heap.size + 1 ≤ wB.heap.size := by have := hbB.size; simpa using this
           have HRB := Lib.hid (And.intro (RxI.below hbB _ _ _ (RxI.below (below_al (Below.refl _ wA) _) _ _ _ HRA.out)) (RxI.wide (R' := fun g => wA.heap.size + 1 ≤ g ∧ g < wB.heap.size) (fun g hg => ⟨by have := hg.1; simpa using this, hg.2⟩) _ _ _ hRB))
           try have hne1 := block_lt kz1
           try replace kz1 := up_b hbB (block_alloc (o' := (.cells #[.int .i64 0, .slice none 0 0, .int .i64 0, .int .i64 0, .bool false, .bool false, .slice none 0 0] 35)) kz1)
           have kz3 := up_b hbB (heap_alloc_new wA (.cells #[.int .i64 0, .slice none 0 0, .int .i64 0, .int .i64 0, .bool false, .bool false, .slice none 0 0] 35))
           try have iz5 : w6.heap.size ≠ wA.heap.size := by omega
           try have jz5 : wA.heap.size ≠ w6.heap.size := by omega
           try have gz1 := cells7 kz1
           try have oz1 := fun oo => cells7 (block_alloc (o' := oo) kz1)
           try have iz1 : w6.heap.size ≠ wB.heap.size := by have := block_lt kz1; omega
           try have jz1 : wB.heap.size ≠ w6.heap.size := by have := block_lt kz1; omega
           try have gz2 := cells7 kz2
           try have oz2 := fun oo => cells7 (block_alloc (o' := oo) kz2)
           try have iz2 : w6.heap.size + 1 ≠ wB.heap.size := by have := block_lt kz2; omega
           try have jz2 : wB.heap.size ≠ w6.heap.size + 1 := by have := block_lt kz2; omega
           try have gz3 := cells7 kz3
           try have oz3 := fun oo => cells7 (block_alloc (o' := oo) kz3)
           try have iz3 : wA.heap.size ≠ wB.heap.size := by have := block_lt kz3; omega
           try have jz3 : wB.heap.size ≠ wA.heap.size := by have := block_lt kz3; omega
           try have gz4 := cells7 kz4
           try have oz4 := fun oo => cells7 (block_alloc (o' := oo) kz4)
           try have iz4 : wA.heap.size + 1 ≠ wB.heap.size := by have := block_lt kz4; omega
           try have jz4 : wB.heap.size ≠ wA.heap.size + 1 := by have := block_lt kz4; omega
           have szB := hWB.size
           clear hRB hlB)
        | (go_at_call 16; (with_reducible refine Calls.mono (HX2.out ((wA.alloc (.cells #[.int .i64 0, .slice none 0 0, .int .i64 0, .int .i64 0, .bool false, .bool false, .slice none 0 0] 35)).alloc (.cells #[.int .i64 0, .slice none 0 0, .int .i64 0, .int .i64 0, .bool false, .bool false, .slice none 0 0] 35)) (below_al (below_al hWA _) _)) ?_); rintro e wB ⟨cB, heB, hlB, hbB, hRB⟩
           obtain ⟨oB, rvB, mnB, mxB, lzB, svB, rfl, ⟨d1, d2, d3, rfl⟩, d4, d5, d6, rfl⟩ := hRB.form
           obtain rfl := heB
           have hWB : Below W2.heap.size W2 wB := chain (below_al (below_al hWA _) _) hbB
           have szB1 : wA.heap.size + 2 ≤ wB.heap.size := by have := hbB.size; simpa using this
           have HRB := Lib.hid (And.intro (RxI.below hbB _ _ _ (RxI.below (below_al (below_al (Below.refl _ wA) _) _) _ _ _ HRA.out)) (RxI.wide (R' := fun g => wA.heap.size + 2 ≤ g ∧ g < wB.heap.size) (fun g hg => ⟨by have := hg.1; simpa using this, hg.2⟩) _ _ _ hRB))
           have kz3 := up_b hbB (block_alloc (o' := (.cells #[.int .i64 0, .slice none 0 0, .int .i64 0, .int .i64 0, .bool false, .bool false, .slice none 0 0] 35)) (heap_alloc_new wA (.cells #[.int .i64 0, .slice none 0 0, .int .i64 0, .int .i64 0, .bool false, .bool false, .slice none 0 0] 35)))
           have kz4 := up_b hbB (heap_alloc_at (wA.alloc (.cells #[.int .i64 0, .slice none 0 0, .int .i64 0, .int .i64 0, .bool false, .bool false, .slice none 0 0] 35)) (.cells #[.int .i64 0, .slice none 0 0, .int .i64 0, .int .i64 0, .bool false, .bool false, .slice none 0 0] 35) (wA.heap.size + 1) (by simp))
           try have gz1 := cells7 kz1
           try have oz1 := fun oo => cells7 (block_alloc (o' := oo) kz1)
           try have iz1 : w6.heap.size ≠ wB.heap.size := by have := block_lt kz1; omega
           try have jz1 : wB.heap.size ≠ w6.heap.size := by have := block_lt kz1; omega
           try have gz2 := cells7 kz2
           try have oz2 := fun oo => cells7 (block_alloc (o' := oo) kz2)
           try have iz2 : w6.heap.size + 1 ≠ wB.heap.size := by have := block_lt kz2; omega
           try have jz2 : wB.heap.size ≠ w6.heap.size + 1 := by have := block_lt kz2; omega
           try have gz3 := cells7 kz3
           try have oz3 := fun oo => cells7 (block_alloc (o' := oo) kz3)
           try have iz3 : wA.heap.size ≠ wB.heap.size := by have := block_lt kz3; omega
           try have jz3 : wB.heap.size ≠ wA.heap.size := by have := block_lt kz3; omega
           try have gz4 := cells7 kz4
           try have oz4 := fun oo => cells7 (block_alloc (o' := oo) kz4)
           try have iz4 : wA.heap.size + 1 ≠ wB.heap.size := by have := block_lt kz4; omega
           try have jz4 : wB.heap.size ≠ wA.heap.size + 1 := by have := block_lt kz4; omega
           have szB := hWB.size
           clear hRB hlB))
      all_goals
        go_simp
        go_wp2_with fail
        go_meet
        have HBW := Lib.hid (HB1.out.trans (hWB.mono HB1.out.size))
        have hsw := HB1.out.size
        refine ⟨_, _, [.int .i64 oA, .slice a1 a2 a3, .int .i64 mnA, .int .i64 mxA, .bool lzA, .bool false, .slice a4 a5 a6], [.int .i64 oB, .slice d1 d2 d3, .int .i64 mnB, .int .i64 mxB, .bool lzB, .bool false, .slice d4 d5 d6], _, rfl, rfl, rfl, hr, Lib.hid ?_⟩
        first
          | with_reducible exact EI.f1 HBW.out HRB.out.1 HRB.out.2 (fun g hg => by have := hg.1; have := hg.2; omega) (fun g hg => by have := hg.1; have := hg.2; omega)
          | with_reducible exact EI.f2 HBW.out HRB.out.1 HRB.out.2 (fun g hg => by have := hg.1; have := hg.2; omega) (fun g hg => by have := hg.1; have := hg.2; omega)
          | with_reducible exact EI.f3 kz1 HBW.out HRB.out.1 HRB.out.2 (fun g hg => by have := hg.1; have := hg.2; omega) (fun g hg => by have := hg.1; have := hg.2; omega) (by omega) (by omega)
          | with_reducible exact EI.f3 kz3 HBW.out HRB.out.1 HRB.out.2 (fun g hg => by have := hg.1; have := hg.2; omega) (fun g hg => by have := hg.1; have := hg.2; omega) (by omega) (by omega)
          | with_reducible exact EI.f3 kz2 HBW.out HRB.out.1 HRB.out.2 (fun g hg => by have := hg.1; have := hg.2; omega) (fun g hg => by have := hg.1; have := hg.2; omega) (by omega) (by omega)
          | with_reducible exact EI.f3 kz4 HBW.out HRB.out.1 HRB.out.2 (fun g hg => by have := hg.1; have := hg.2; omega) (fun g hg => by have := hg.1; have := hg.2; omega) (by omega) (by omega)
          | with_reducible exact EI.f4 kz1 HBW.out HRB.out.1 HRB.out.2 (fun g hg => by have := hg.1; have := hg.2; omega) (fun g hg => by have := hg.1; have := hg.2; omega) (by omega) (by omega)
          | with_reducible exact EI.f4 kz3 HBW.out HRB.out.1 HRB.out.2 (fun g hg => by have := hg.1; have := hg.2; omega) (fun g hg => by have := hg.1; have := hg.2; omega) (by omega) (by omega)
          | with_reducible exact EI.f4 kz2 HBW.out HRB.out.1 HRB.out.2 (fun g hg => by have := hg.1; have := hg.2; omega) (fun g hg => by have := hg.1; have := hg.2; omega) (by omega) (by omega)
          | with_reducible exact EI.f4 kz4 HBW.out HRB.out.1 HRB.out.2 (fun g hg => by have := hg.1; have := hg.2; omega) (fun g hg => by have := hg.1; have := hg.2; omega) (by omega) (by omega)
          | with_reducible exact EI.f5 kz1 kz2 HBW.out HRB.out.1 HRB.out.2 (fun g hg => by have := hg.1; have := hg.2; omega) (fun g hg => by have := hg.1; have := hg.2; omega) (by omega) (by omega) (by omega)
          | with_reducible exact EI.f5 kz2 kz1 HBW.out HRB.out.1 HRB.out.2 (fun g hg => by have := hg.1; have := hg.2; omega) (fun g hg => by have := hg.1; have := hg.2; omega) (by omega) (by omega) (by omega)
          | with_reducible exact EI.f5 kz1 kz3 HBW.out HRB.out.1 HRB.out.2 (fun g hg => by have := hg.1; have := hg.2; omega) (fun g hg => by have := hg.1; have := hg.2; omega) (by omega) (by omega) (by omega)
          | with_reducible exact EI.f5 kz3 kz1 HBW.out HRB.out.1 HRB.out.2 (fun g hg => by have := hg.1; have := hg.2; omega) (fun g hg => by have := hg.1; have := hg.2; omega) (by omega) (by omega) (by omega)
          | with_reducible exact EI.f5 kz3 kz4 HBW.out HRB.out.1 HRB.out.2 (fun g hg => by have := hg.1; have := hg.2; omega) (fun g hg => by have := hg.1; have := hg.2; omega) (by omega) (by omega) (by omega)
          | with_reducible exact EI.f5 kz4 kz3 HBW.out HRB.out.1 HRB.out.2 (fun g hg => by have := hg.1; have := hg.2; omega) (fun g hg => by have := hg.1; have := hg.2; omega) (by omega) (by omega) (by omega)
  obtain ⟨b7, b8, cA, cB, s', rfl, rfl, rfl, hs60, HEI⟩ := hcut
  rename World => w7
  obtain ⟨oA, rvA, mnA, mxA, lzA, svA, rfl, ⟨a1, a2, a3, rfl⟩, a4, a5, a6, rfl⟩ := HEI.out.hA.form
  obtain ⟨oB, rvB, mnB, mxB, lzB, svB, rfl, ⟨e1, e2, e3, rfl⟩, e4, e5, e6, rfl⟩ := HEI.out.hB.form
  obtain ⟨⟨l0, l1, l2, l3, l4, l5, l6⟩, _⟩ := cells7 HEI.out.k7
  obtain ⟨⟨m0, m1, m2, m3, m4, m5, m6⟩, _⟩ := cells7 HEI.out.k8
  clear y0 y1 y2 y3 y4 y5 y6 z0 z1 z2 z3 z4 z5 z6
  go_upto_region 6 with (fail)
  go_cut [10] (fun v wx => ∃ (b10 : Nat) (cO : List Value), v = .pointer (some ⟨b10, 0, none⟩) ∧ Hid (EJ r1 r2 b7 b8 b10 [.int .i64 oA, .slice a1 a2 a3, .int .i64 mnA, .int .i64 mxA, .bool lzA, .bool false, .slice a4 a5 a6] [.int .i64 oB, .slice e1 e2 e3, .int .i64 mnB, .int .i64 mxB, .bool lzB, .bool false, .slice e4 e5 e6] cO w wx))
  case first =>
      go_wp2_with fail
      refine (node_pure _ _ _ _ _).mono ?_
      rintro e w8 ⟨rfl, hb8⟩
      have HEJ := Lib.hid (EJ.of HEI.out hb8)
      clear hb8
      go_wp2_with fail
      go_meet
      exact ⟨_, _, rfl, HEJ⟩
  obtain ⟨b10, cO, rfl, HEJ⟩ := hcut
  rename World => w9
  obtain ⟨oO, rvO, mnO, mxO, lzO, svO, rfl, ⟨i1, i2, i3, rfl⟩, i4, i5, i6, rfl⟩ := HEJ.out.hO.form
  clear l0 l1 l2 l3 l4 l5 l6 m0 m1 m2 m3 m4 m5 m6 HEI
  obtain ⟨⟨l0, l1, l2, l3, l4, l5, l6⟩, _⟩ := cells7 HEJ.out.k10
  have hpre := either_pre r1 r2
  have hpl : places 5 (nod 19 [ex 4 r1, ex 4 r2]) ≤ 1000000000 := by
    rw [either_places]
    have h1 := Nat.le_trans (ex_places 4 r1) (show exP 4 ≤ 500000000 by decide)
    have h2 := Nat.le_trans (ex_places 4 r2) (show exP 4 ≤ 500000000 by decide)
    omega
  have hmd := modest_any 5 (nod 19 [ex 4 r1, ex 4 r2]) _ 1 w9 HEJ.out.hO hpre.wf hpre.lf hpl (by omega)
  rw [Nat.mul_one] at hmd
  obtain ⟨mb, hmb⟩ : ∃ mb, mb = decide (places 5 (nod 19 [ex 4 r1, ex 4 r2]) ≤ 160) := ⟨_, rfl⟩
  rw [← hmb] at hmd
  have HMD := Lib.hid hmd
  have HMB := Lib.hid (And.intro hmb (And.intro hpre hpl))
  clear hmd hmb hpre hpl
  go_wp2_with fail
  refine HMD.out.mono ?_
  rintro e w10 ⟨rfl, hb10⟩
  have HEJ10 := Lib.hid (HEJ.out.below hb10)
  clear hb10 HEJ l0 l1 l2 l3 l4 l5 l6
  cases mb with
  | false =>
    go_wp2_with fail
    go_ret
    exact ⟨rfl, HEJ10.out.ei.bl⟩
  | true =>
  have hmo := of_decide_eq_true HMB.out.1.symm
  obtain ⟨hfO, hsA, hsB, hpA, hpB⟩ := either_say hmo
  have hL10 : Laid w10 ad := HL.out.below HEJ10.out.ei.bl
  have hpO := fun (W : World) (hb : Below w10.heap.size w10 W) => rpath_any ad 5 (nod 19 [ex 4 r1, ex 4 r2]) _ s' W (RxV.below hb _ _ _ HEJ10.out.hO) hfO.wf hfO.bd (hL10.below hb) hfO.sz (by omega)
  have hpA' := fun (W : World) (hb : Below w10.heap.size w10 W) => rpath_any ad 4 (ex 4 r1) _ s' W (RxV.below hb _ _ _ HEJ10.out.ei.hA) (ex_wf 4 r1 (by omega)) (ex_bad 4 r1) (hL10.below hb) hsA (by omega)
  have hpB' := fun (W : World) (hb : Below w10.heap.size w10 W) => rpath_any ad 4 (ex 4 r2) _ s' W (RxV.below hb _ _ _ HEJ10.out.ei.hB) (ex_wf 4 r2 (by omega)) (ex_bad 4 r2) (hL10.below hb) hsB (by omega)
  have hsm := fun (W : World) (hb : Below w10.heap.size w10 W) (hb5 : 5 < places 5 (nod 19 [ex 4 r1, ex 4 r2])) => (decide_eq_false (show ¬ places 5 (nod 19 [ex 4 r1, ex 4 r2]) ≤ 5 by omega)) ▸ small_any 5 (nod 19 [ex 4 r1, ex 4 r2]) _ W (RxV.below hb _ _ _ HEJ10.out.hO) hfO.wf hfO.lf HMB.out.2.2
  have hkO := fun (W : World) (hb : Below w10.heap.size w10 W) => (cells7 ((Mod.of_below (F := fun _ => False) hb).heap HEJ10.out.k10 (fun h => h))).1
  have hkA := fun (W : World) (hb : Below w10.heap.size w10 W) => (cells7 ((Mod.of_below (F := fun _ => False) hb).heap HEJ10.out.ei.k7 (fun h => h))).1
  have hkB := fun (W : World) (hb : Below w10.heap.size w10 W) => (cells7 ((Mod.of_below (F := fun _ => False) hb).heap HEJ10.out.ei.k8 (fun h => h))).1
  have hbl := HEJ10.out.ei.bl
  have HPO := Lib.hid hpO
  have HPA := Lib.hid hpA'
  have HPB := Lib.hid hpB'
  have HSM := Lib.hid hsm
  have HKO := Lib.hid hkO
  have HKA := Lib.hid hkA
  have HKB := Lib.hid hkB
  have HBL := Lib.hid hbl
  have HPL := Lib.hid (either_places (ex 4 r1) (ex 4 r2))
  clear hpO hpA' hpB' hsm hkO hkA hkB hbl hmo hfO hsA hsB hpA hpB hL10 HMD HMB HEJ10
  obtain ⟨l0, l1, l2, l3, l4, l5, l6⟩ := HKO.out w10 (Below.refl _ _)
  go_wp2_with fail
  refine (HPO.out w10 (Below.refl _ _)).mono ?_
  rintro e w11 h11
  have HB11 := Lib.hid h11.1
  clear l0 l1 l2 l3 l4 l5 l6
  obtain ⟨l0, l1, l2, l3, l4, l5, l6⟩ := HKA.out w11 HB11.out
  rcases h11.2 with ⟨v1, v2, ms, cs, rfl, hr1, hr2, hsay⟩ | ⟨rfl, hpl⟩
  · obtain ⟨m1, c1, rfl⟩ := hr1.form
    obtain ⟨m2, c2, rfl⟩ := hr2.form
    have HR := Lib.hid (And.intro hr1 (And.intro hr2 hsay))
    clear hr1 hr2 hsay h11
    go_wp2_with fail
    refine (HPA.out w11 HB11.out).mono ?_
    rintro e w12 h12
    have HB12 := Lib.hid (HB11.out.trans (h12.1.mono HB11.out.size))
    clear l0 l1 l2 l3 l4 l5 l6
    obtain ⟨l0, l1, l2, l3, l4, l5, l6⟩ := HKB.out w12 HB12.out
    rcases h12.2 with ⟨v3, v4, ms', cs', rfl, hr3, hr4, hsay'⟩ | ⟨rfl, hpl⟩
    · obtain ⟨m3, c3, rfl⟩ := hr3.form
      obtain ⟨m4, c4, rfl⟩ := hr4.form
      have HR2 := Lib.hid (And.intro hr3 (And.intro hr4 hsay'))
      have HRa := Lib.hid (And.intro (HR.out.1.below h12.1) (And.intro (HR.out.2.1.below h12.1) HR.out.2.2))
      clear hr3 hr4 hsay' h12 HR
      go_wp2_with fail
      refine (HPB.out w12 HB12.out).mono ?_
      rintro e w13 h13
      have HB13 := Lib.hid (HB12.out.trans (h13.1.mono HB12.out.size))
      clear l0 l1 l2 l3 l4 l5 l6
      rcases h13.2 with ⟨v5, v6, ms'', cs'', rfl, hr5, hr6, hsay''⟩ | ⟨rfl, hpl⟩
      · obtain ⟨m5, c5, rfl⟩ := hr5.form
        obtain ⟨m6, c6, rfl⟩ := hr6.form
        have HR3 := Lib.hid (And.intro hr5 (And.intro hr6 hsay''))
        have HRc := Lib.hid (And.intro (HRa.out.1.below h13.1) (And.intro (HRa.out.2.1.below h13.1) HRa.out.2.2))
        have HRb := Lib.hid (And.intro (HR2.out.1.below h13.1) (And.intro (HR2.out.2.1.below h13.1) HR2.out.2.2))
        clear hr5 hr6 hsay'' h13 HR2 HRa
        go_wp2_with fail
        go_loopw [20] (fun iv wr => ∃ k : Nat, iv = .int .i64 k ∧ k ≤ s'.size + 1 ∧ Hid (Below w13.heap.size w13 wr)) (fun iv _ => s'.size + 1 - (intOf iv).toNat)
        case atStart => exact ⟨0, rfl, Nat.zero_le _, Lib.hid (Below.refl _ _)⟩
        case round =>
          obtain ⟨k, rfl, hk, HBW⟩ := hrel
          by_cases hlt : k ≤ s'.size
          · obtain ⟨⟨x1, ka, kb⟩, ⟨x2, kc, kd⟩⟩ := HRc.out.2.2 k hlt
            obtain ⟨⟨x3, ke, kf⟩, ⟨x4, kg, kh⟩⟩ := HRb.out.2.2 k hlt
            obtain ⟨⟨x5, ki, kj⟩, ⟨x6, kl, km⟩⟩ := HR3.out.2.2 k hlt
            have g1 : x1 = (x3 || x5) := three_say kb kf kj
            have g2 : x2 = (x4 || x6) := three_can kd kh km
            obtain ⟨d1, d2, d3, q1, f1, u1, n1⟩ := Reads.one Value.bool (HRc.out.1.below HBW.out) (k := k) (by omega)
            obtain ⟨d4, d5, d6, q2, f2, u2, n2⟩ := Reads.one Value.bool (HRc.out.2.1.below HBW.out) (k := k) (by omega)
            obtain ⟨d7, d8, d9, q3, f3, u3, n3⟩ := Reads.one Value.bool (HRb.out.1.below HBW.out) (k := k) (by omega)
            obtain ⟨t1, t2, t3, q4, f4, u4, n4⟩ := Reads.one Value.bool (HRb.out.2.1.below HBW.out) (k := k) (by omega)
            obtain ⟨t4, t5, t6, q5, f5, u5, n5⟩ := Reads.one Value.bool (HR3.out.1.below HBW.out) (k := k) (by omega)
            obtain ⟨t7, t8, t9, q6, f6, u6, n6⟩ := Reads.one Value.bool (HR3.out.2.1.below HBW.out) (k := k) (by omega)
            obtain rfl : q1 = x1 := Option.some.inj (u1.symm.trans ka)
            obtain rfl : q2 = x2 := Option.some.inj (u2.symm.trans kc)
            obtain rfl : q3 = x3 := Option.some.inj (u3.symm.trans ke)
            obtain rfl : q4 = x4 := Option.some.inj (u4.symm.trans kg)
            obtain rfl : q5 = x5 := Option.some.inj (u5.symm.trans ki)
            obtain rfl : q6 = x6 := Option.some.inj (u6.symm.trans kl)
            cases f1
            cases f2
            cases f3
            cases f4
            cases f5
            cases f6
            clear ka kb kc kd ke kf kg kh ki kj kl km u1 u2 u3 u4 u5 u6
            cases q3 <;> cases q4
            all_goals
              simp only [Bool.true_or, Bool.false_or] at g1 g2
              subst g1 g2
              go_wp2_with fail
              go_quiet (fail)
              go_wp2_with fail
              go_roundw
              case rel => exact ⟨k + 1, by go_num, by omega, Lib.hid (below_drewN HBW.out _)⟩
              case measure => simp [intOf]; omega
          · obtain rfl : k = s'.size + 1 := by omega
            go_wp2_with fail
            go_ret
            exact ⟨rfl, (HBL.out.trans (HB13.out.mono HBL.out.size)).trans (HBW.out.mono (by have := HB13.out.size; have := HBL.out.size; omega))⟩
      · have HS := Lib.hid (HSM.out w13 HB13.out (by have := HPL.out; omega))
        obtain ⟨l0, l1, l2, l3, l4, l5, l6⟩ := HKO.out w13 HB13.out
        clear hpl h13
        go_wp2_with fail
        refine HS.out.mono ?_
        rintro e w14 ⟨rfl, hb14⟩
        have HB14 := Lib.hid (HB13.out.trans (hb14.mono HB13.out.size))
        clear hb14
        go_wp2_with fail
        go_ret
        exact ⟨rfl, HBL.out.trans (HB14.out.mono HBL.out.size)⟩
    · have hp5 : 5 < places 5 (nod 19 [ex 4 r1, ex 4 r2]) := by have := HPL.out; omega
      have HP5 := Lib.hid hp5
      clear hpl hp5 h12
      go_wp2_with fail
      refine (HPB.out w12 HB12.out).mono ?_
      rintro e w13 h13
      obtain ⟨hb13, v1, v2, v3, v4, v5, v6, v7, rfl⟩ := h13.weak
      have HB13 := Lib.hid (HB12.out.trans (hb13.mono HB12.out.size))
      have HS := Lib.hid (HSM.out w13 HB13.out HP5.out)
      clear l0 l1 l2 l3 l4 l5 l6 h13 hb13
      obtain ⟨l0, l1, l2, l3, l4, l5, l6⟩ := HKO.out w13 HB13.out
      go_wp2_with fail
      refine HS.out.mono ?_
      rintro e w14 ⟨rfl, hb14⟩
      have HB14 := Lib.hid (HB13.out.trans (hb14.mono HB13.out.size))
      clear hb14
      go_wp2_with fail
      go_ret
      exact ⟨rfl, HBL.out.trans (HB14.out.mono HBL.out.size)⟩
  · have HP5 := Lib.hid hpl
    clear hpl h11
    go_wp2_with fail
    refine (HPA.out w11 HB11.out).mono ?_
    rintro e w12 h12
    obtain ⟨hb12, u1, u2, u3, u4, u5, u6, u7, rfl⟩ := h12.weak
    have HB12 := Lib.hid (HB11.out.trans (hb12.mono HB11.out.size))
    clear l0 l1 l2 l3 l4 l5 l6 h12 hb12
    obtain ⟨l0, l1, l2, l3, l4, l5, l6⟩ := HKB.out w12 HB12.out
    go_wp2_with fail
    refine (HPB.out w12 HB12.out).mono ?_
    rintro e w13 h13
    obtain ⟨hb13, v1, v2, v3, v4, v5, v6, v7, rfl⟩ := h13.weak
    have HB13 := Lib.hid (HB12.out.trans (hb13.mono HB12.out.size))
    have HS := Lib.hid (HSM.out w13 HB13.out HP5.out)
    clear l0 l1 l2 l3 l4 l5 l6 h13 hb13
    obtain ⟨l0, l1, l2, l3, l4, l5, l6⟩ := HKO.out w13 HB13.out
    go_wp2_with fail
    refine HS.out.mono ?_
    rintro e w14 ⟨rfl, hb14⟩
    have HB14 := Lib.hid (HB13.out.trans (hb14.mono HB13.out.size))
    clear hb14
    go_wp2_with fail
    go_ret
    exact ⟨rfl, HBL.out.trans (HB14.out.mono HBL.out.size)⟩
end Go.Proofs.YtnpchkohfomagaaDoor.Rgy
