/- spec.Expression: its walk. -/
import Derived.Test.YtnpchkohfomagaaDoorRgH1
import Derived.Deep.DeepCutAuto
import Derived.Deep.CutRange
namespace Go.Proofs.YtnpchkohfomagaaDoor.Rgy
open Go.ChangeShapes Go.WideShapes Go.ChangeAt Go.RowKit Go.Trav Go.Rg Go.Utf Go.Proofs.YtnpchkohfomagaaDoor.Seq Go.Proofs.YtnpchkohfomagaaDoor.Sparse Go.Proofs.YtnpchkohfomagaaDoor.Rgw
set_option linter.unusedVariables false
set_option linter.unusedSimpArgs false
set_option maxRecDepth 100000
/-- What Expression answers. -/
def XPost (d : Nat) (r : Rw) (w : World) (e : Ending) (w' : World) : Prop :=
  ∃ cs : List Value, e = .returned (.agg cs.toArray) ∧ cs.length = 7 ∧ Below w.heap.size w w' ∧ RxI w' (fun g => w.heap.size ≤ g ∧ g < w'.heap.size) d (ex d r) cs
def lfB (d : Nat) (r : Rw) : Bool := decide (d = 0) || decide (r.subs.length = 0)
theorem ex_a {d : Nat} {r : Rw} {o : Nat} (ho : exOp (lfB d r) r = o) (h : o = 2 ∨ o = 5 ∨ o = 6) : ex (d + 1) r = .mk o false false [] 0 0 [] := by
  unfold lfB at ho
  rw [ex, ho, if_pos h]
theorem ex_b {d : Nat} {r : Rw} (ho : exOp (lfB d r) r = 3) : ex (d + 1) r = .mk 3 false false (litP r.runes) 0 0 [] := by
  unfold lfB at ho
  rw [ex, ho]; rfl
theorem ex_c {d : Nat} {r : Rw} (ho : exOp (lfB d r) r = 4) : ex (d + 1) r = .mk 4 false false (pairsP r.runes) 0 0 [] := by
  unfold lfB at ho
  rw [ex, ho]; rfl
theorem ex_d {d : Nat} {r : Rw} {o : Nat} (ho : exOp (lfB d r) r = o) (h : 13 ≤ o) : ex (d + 1) r = .mk o false false [] (if o = 17 then (atP r.mn 4 : Int) else 0) (if o = 17 then mxP r.mn r.mx else 0) ((r.subs.take (if 18 ≤ o then 3 else 1)).map (ex d)) := by
  unfold lfB at ho
  rw [ex, ho]
  rw [if_neg (by omega), if_neg (by omega), if_neg (by omega)]
theorem ops_tab (x : Int) : ∃ (j o0 : Nat), atP x 14 = j ∧ j < 14 ∧ ops14[j]? = some o0 ∧ (2 ≤ o0 ∧ o0 ≤ 19 ∧ (o0 ≤ 6 ∨ 13 ≤ o0)) ∧ ∀ (lf : Bool) (r : Rw), r.op = x → exOp lf r = if lf = true ∧ 6 < o0 then 3 else o0 := by
  have h := atP_lt x 14 (by omega)
  obtain ⟨j, hj⟩ : ∃ j, j = atP x 14 := ⟨_, rfl⟩
  rw [← hj] at h
  have hl : j < ops14.length := h
  refine ⟨j, ops14[j], hj.symm, h, List.getElem?_eq_getElem hl, ?_, fun lf r hr => ?_⟩
  · have : ∀ (k : Nat) (hk : k < ops14.length), 2 ≤ ops14[k] ∧ ops14[k] ≤ 19 ∧ (ops14[k] ≤ 6 ∨ 13 ≤ ops14[k]) := by decide
    exact this j hl
  · unfold exOp
    rw [hr, ← hj, List.getD_eq_getElem?_getD, List.getElem?_eq_getElem hl]
    rfl
/-- Behind the choice of the node. -/
structure PI (B : Nat) (rc : Array Value) (o : Nat) (w wr : World) : Prop where
  raw : wr.heap[B]? = some (.cells rc 35 (0, 0))
  res : wr.heap[B + 1]? = some (.cells #[.int .i64 0, .slice none 0 0, .int .i64 0, .int .i64 0, .bool false, .bool false, .slice none 0 0] 35 (0, 0))
  nod : wr.heap[B + 3]? = some (.cells (xC o (.slice none 0 0) 0 0 (.slice none 0 0)) 35 (0, 0))
  bl : Below B w wr
  sz : wr.heap.size = B + 4
theorem PI.start {rc : Array Value} {w W3 : World} (b0 : W3.heap[w.heap.size]? = some (.cells rc 35 (0, 0))) (b1 : W3.heap[w.heap.size + 1]? = some (.cells #[.int .i64 0, .slice none 0 0, .int .i64 0, .int .i64 0, .bool false, .bool false, .slice none 0 0] 35 (0, 0))) (hb : Below w.heap.size w W3) (hs : W3.heap.size = w.heap.size + 3) (o : Nat) :
    PI w.heap.size rc o w (W3.alloc (.cells #[.int .i64 (o : Int), .slice none 0 0, .int .i64 0, .int .i64 0, .bool false, .bool false, .slice none 0 0] 35)) := by
  have h := heap_alloc_new W3 (.cells #[.int .i64 (o : Int), .slice none 0 0, .int .i64 0, .int .i64 0, .bool false, .bool false, .slice none 0 0] 35)
  rw [hs] at h
  exact ⟨block_alloc b0, block_alloc b1, h, hb.alloc hb.size _, by simp [hs]⟩
theorem PI.put3 {B o : Nat} {rc : Array Value} {w wr : World} (h : PI B rc o w wr) : PI B rc 3 w (wr.setCell ⟨B + 3, 0, none⟩ (.int .i64 3)) := by
  have m : Mod (fun z => z = B + 3) wr (wr.setCell ⟨B + 3, 0, none⟩ (.int .i64 3)) := Mod.setCell (F := fun z => z = B + 3) (Mod.refl _ wr) (p := ⟨B + 3, 0, none⟩) (fun _ => rfl) _
  refine ⟨m.heap h.raw (by omega), m.heap h.res (by omega), ?_, h.bl.trans (m.toBelow (by have := h.sz; omega) fun g _ hg => by omega), by simpa using h.sz⟩
  rw [block_set h.nod]; rfl
theorem cells7 {W : World} {b : Nat} {c0 c1 c2 c3 c4 c5 c6 : Value} {T : TypeId} (h : W.heap[b]? = some (.cells #[c0, c1, c2, c3, c4, c5, c6] T (0, 0))) : (W.cell? ⟨b, 0, none⟩ = some c0 ∧ W.cell? ⟨b, 1, none⟩ = some c1 ∧ W.cell? ⟨b, 2, none⟩ = some c2 ∧ W.cell? ⟨b, 3, none⟩ = some c3 ∧ W.cell? ⟨b, 4, none⟩ = some c4 ∧ W.cell? ⟨b, 5, none⟩ = some c5 ∧ W.cell? ⟨b, 6, none⟩ = some c6) ∧ W.frozen? ⟨b, 0, none⟩ = false ∧ W.frozen? ⟨b, 1, none⟩ = false ∧ W.frozen? ⟨b, 2, none⟩ = false ∧ W.frozen? ⟨b, 3, none⟩ = false ∧ W.frozen? ⟨b, 4, none⟩ = false ∧ W.frozen? ⟨b, 5, none⟩ = false ∧ W.frozen? ⟨b, 6, none⟩ = false :=
  ⟨⟨block_cell h rfl, block_cell h rfl, block_cell h rfl, block_cell h rfl, block_cell h rfl, block_cell h rfl, block_cell h rfl⟩, block_free h, block_free h, block_free h, block_free h, block_free h, block_free h, block_free h⟩
/-- Behind k letters; the argument and the answer's place as they were. -/
structure LJ (rc : Array Value) (rv : Value) (zs : List Int) (w wr : World) : Prop where
  li : LI w.heap.size (w.heap.size + 3) rv zs w wr
  raw : wr.heap[w.heap.size]? = some (.cells rc 35 (0, 0))
  res : wr.heap[w.heap.size + 1]? = some (.cells #[.int .i64 0, .slice none 0 0, .int .i64 0, .int .i64 0, .bool false, .bool false, .slice none 0 0] 35 (0, 0))
theorem LJ.start {rc : Array Value} {w wr : World} (h : PI w.heap.size rc 3 w wr) : LJ rc (.slice none 0 0) [] w wr :=
  ⟨⟨h.nod, World.ownsRow_nil _ _ _ _, h.bl, by omega⟩, h.raw, h.res⟩
theorem LJ.below {rc : Array Value} {rv : Value} {zs : List Int} {w wr w2 : World} (h : LJ rc rv zs w wr) (hb : Below wr.heap.size wr w2) : LJ rc rv zs w w2 := by
  have m : Mod (fun _ => False) wr w2 := Mod.of_below hb
  exact ⟨h.li.below hb h.li.bl.size, m.heap h.raw (fun h => h), m.heap h.res (fun h => h)⟩
theorem LJ.push {rc : Array Value} {rv v6 : Value} {zs : List Int} {z : Int} {w w2 W w6 : World} (h : LJ rc rv zs w w2) (hW : Mod (fun _ => False) w2 W) (hgr : W.grownBy w6 rv.ownBlock) (hown6 : w6.ownsRow (w.heap.size + 3 + 1) 21 1 v6 (zs.length + 1) (zs.map rV ++ [rV z])) : LJ rc v6 (zs ++ [z]) w (w6.setCell ⟨w.heap.size + 3, 1, none⟩ v6) := by
  have m1 : Mod (fun z => rv.ownBlock = some z) w2 w6 := (hW.mono fun _ _ h => h.elim).grown hgr fun k hk _ => hk
  have m2 : Mod (fun z => z = w.heap.size + 3) w6 (w6.setCell ⟨w.heap.size + 3, 1, none⟩ v6) := Mod.setCell (F := fun z => z = w.heap.size + 3) (Mod.refl _ w6) (p := ⟨w.heap.size + 3, 1, none⟩) (fun _ => rfl) _
  have m : Mod (fun z => rv.ownBlock = some z ∨ z = w.heap.size + 3) w2 (w6.setCell ⟨w.heap.size + 3, 1, none⟩ v6) := (m1.mono fun _ _ h => Or.inl h).trans (m2.mono fun _ _ h => Or.inr h)
  refine ⟨h.li.push hW hgr hown6, m.heap h.raw ?_, m.heap h.res ?_⟩
  · rintro (h1 | h1)
    · have := (h.li.own.lt _ h1).1; omega
    · omega
  · rintro (h1 | h1)
    · have := (h.li.own.lt _ h1).1; omega
    · omega
theorem info_rx : (Tryd.prog.info? 35).map (fun i => (i.zero, i.size, i.bytes)) = some (some (.agg #[.int .i64 0, .slice none 0 0, .int .i64 0, .int .i64 0, .bool false, .bool false, .slice none 0 0]), 7, 80) := by kernel_rfl
/-- Behind k parts; the argument and the answer's place as they were. -/
structure XJ (d : Nat) (rc : Array Value) (o : Nat) (sv : Value) (mn mx : Int) (l : List Tr) (css : List (List Value)) (w wr : World) : Prop where
  xi : XI w.heap.size (w.heap.size + 3) o (.slice none 0 0) sv mn mx [] d l css w wr
  raw : wr.heap[w.heap.size]? = some (.cells rc 35 (0, 0))
  res : wr.heap[w.heap.size + 1]? = some (.cells #[.int .i64 0, .slice none 0 0, .int .i64 0, .int .i64 0, .bool false, .bool false, .slice none 0 0] 35 (0, 0))
theorem XJ.start {d o : Nat} {rc : Array Value} {w wr : World} (h : PI w.heap.size rc o w wr) : XJ d rc o (.slice none 0 0) 0 0 [] [] w wr := by
  refine ⟨⟨h.nod, reads_of_owns (World.ownsRow_nil wr 0 21 1), fun g hg => by simp [Value.ownBlock] at hg, World.ownsRow_nil _ _ _ _, rfl, fun c hc => by simp at hc, fun i c s hc => by simp at hc, h.bl, by omega⟩, h.raw, h.res⟩
theorem XJ.below {d o : Nat} {rc : Array Value} {sv : Value} {mn mx : Int} {l : List Tr} {css : List (List Value)} {w wr w2 : World} (h : XJ d rc o sv mn mx l css w wr) (hb : Below wr.heap.size wr w2) : XJ d rc o sv mn mx l css w w2 := by
  have m : Mod (fun _ => False) wr w2 := Mod.of_below hb
  exact ⟨h.xi.below hb h.xi.bl.size, m.heap h.raw (fun h => h), m.heap h.res (fun h => h)⟩
theorem XJ.push {d o c : Nat} {rc : Array Value} {sv v6 : Value} {mn mx : Int} {l : List Tr} {css : List (List Value)} {s : Tr} {cs : List Value} {w w2 W w6 : World} (h : XJ d rc o sv mn mx l css w w2) (hA : RxI w2 (fun g => c ≤ g ∧ g < w2.heap.size) d s cs) (h7 : cs.length = 7) (hc1 : w.heap.size + 3 < c) (hc2 : ∀ g, sv.ownBlock = some g → g < c)
    (hW : Mod (fun _ => False) w2 W) (hgr : W.grownBy w6 sv.ownBlock) (hown6 : w6.ownsRow (w.heap.size + 3 + 1) 35 7 v6 (css.length + 1) (css.flatten ++ cs)) (hat : v6.ownBlock = sv.ownBlock ∨ ∀ g, v6.ownBlock = some g → w2.heap.size ≤ g) : XJ d rc o v6 mn mx (l ++ [s]) (css ++ [cs]) w (w6.setCell ⟨w.heap.size + 3, 6, none⟩ v6) := by
  have m1 : Mod (fun z => sv.ownBlock = some z) w2 w6 := (hW.mono fun _ _ h => h.elim).grown hgr fun k hk _ => hk
  have m2 : Mod (fun z => z = w.heap.size + 3) w6 (w6.setCell ⟨w.heap.size + 3, 6, none⟩ v6) := Mod.setCell (F := fun z => z = w.heap.size + 3) (Mod.refl _ w6) (p := ⟨w.heap.size + 3, 6, none⟩) (fun _ => rfl) _
  have m : Mod (fun z => sv.ownBlock = some z ∨ z = w.heap.size + 3) w2 (w6.setCell ⟨w.heap.size + 3, 6, none⟩ v6) := (m1.mono fun _ _ h => Or.inl h).trans (m2.mono fun _ _ h => Or.inr h)
  refine ⟨h.xi.push hA h7 hc1 hc2 hW hgr hown6 hat, m.heap h.raw ?_, m.heap h.res ?_⟩
  · rintro (h1 | h1)
    · have := (h.xi.own.lt _ h1).1; omega
    · omega
  · rintro (h1 | h1)
    · have := (h.xi.own.lt _ h1).1; omega
    · omega
theorem XJ.set {d o : Nat} {rc : Array Value} {sv : Value} {mn mx : Int} {l : List Tr} {css : List (List Value)} {w wr : World} (h : XJ d rc o sv mn mx l css w wr) (i : Nat) (v : Value) (mn' mx' : Int) (hx : (xC o (.slice none 0 0) mn mx sv).set! i v = xC o (.slice none 0 0) mn' mx' sv) : XJ d rc o sv mn' mx' l css w (wr.setCell ⟨w.heap.size + 3, i, none⟩ v) := by
  have m : Mod (fun z => z = w.heap.size + 3) wr (wr.setCell ⟨w.heap.size + 3, i, none⟩ v) := Mod.setCell (F := fun z => z = w.heap.size + 3) (Mod.refl _ wr) (p := ⟨w.heap.size + 3, i, none⟩) (fun _ => rfl) _
  exact ⟨h.xi.set i v _ _ mn' mx' hx rfl rfl, m.heap h.raw (by omega), m.heap h.res (by omega)⟩
/-- A node that is whole, but for the answer's place. -/
structure GJ (d : Nat) (r : Rw) (o : Nat) (sv : Value) (mn mx : Int) (w wr : World) : Prop where
  blk : wr.heap[w.heap.size + 3]? = some (.cells (xC o (.slice none 0 0) mn mx sv) 35 (0, 0))
  res : wr.heap[w.heap.size + 1]? = some (.cells #[.int .i64 0, .slice none 0 0, .int .i64 0, .int .i64 0, .bool false, .bool false, .slice none 0 0] 35 (0, 0))
  ok : RxI wr (fun g => w.heap.size + 3 < g ∧ g < wr.heap.size) (d + 1) (ex (d + 1) r) (xC o (.slice none 0 0) mn mx sv).toList
  bl : Below w.heap.size w wr
  fm : ∃ a n c, sv = .slice a n c
theorem GJ.of {d o : Nat} {r : Rw} {rc : Array Value} {sv : Value} {mn mx : Int} {l : List Tr} {css : List (List Value)} {w wr : World} (h : XJ d rc o sv mn mx l css w wr) (ho : o < 256) (hl : l.length ≤ 1000) (he : ex (d + 1) r = .mk o false false [] mn mx l) : GJ d r o sv mn mx w wr :=
  ⟨h.xi.blk, h.res, by rw [he]; exact h.xi.fin ho (by simp) hl, h.xi.bl, by obtain ⟨a, c, e⟩ := ownsRow_form h.xi.own; exact ⟨_, _, _, e⟩⟩
/-- A literal that is whole, but for the answer's place. -/
structure FJ (d : Nat) (r : Rw) (rv : Value) (w wr : World) : Prop where
  blk : wr.heap[w.heap.size + 3]? = some (.cells (xC 3 rv 0 0 (.slice none 0 0)) 35 (0, 0))
  res : wr.heap[w.heap.size + 1]? = some (.cells #[.int .i64 0, .slice none 0 0, .int .i64 0, .int .i64 0, .bool false, .bool false, .slice none 0 0] 35 (0, 0))
  ok : RxI wr (fun g => w.heap.size + 3 < g ∧ g < wr.heap.size) (d + 1) (.mk 3 false false (litP r.runes) 0 0 []) (xC 3 rv 0 0 (.slice none 0 0)).toList
  bl : Below w.heap.size w wr
  fm : ∃ a n c, rv = .slice a n c
theorem FJ.of {d : Nat} {r : Rw} {rc : Array Value} {rv : Value} {zs : List Int} {w wr : World} (h : LJ rc rv zs w wr) (hz : zs.length ≤ 1000) (hl : litP r.runes = zs) : FJ d r rv w wr :=
  ⟨h.li.blk, h.res, hl ▸ h.li.fin hz d, h.li.bl, by obtain ⟨a, c, e⟩ := ownsRow_form h.li.own; exact ⟨_, _, _, e⟩⟩
theorem FJ.new {d : Nat} {r : Rw} {rc : Array Value} {rv : Value} {zs : List Int} {w wr : World} (h : LJ rc rv zs w wr) (hl : litP r.runes = [97]) :
    FJ d r (.slice (some ⟨wr.heap.size, 0, none⟩) 1 1) w ((wr.alloc (.cells #[.int .i32 97] 21)).setCell ⟨w.heap.size + 3, 1, none⟩ (.slice (some ⟨wr.heap.size, 0, none⟩) 1 1)) := by
  obtain ⟨W5, hW5⟩ : ∃ W5, W5 = wr.alloc (.cells #[.int .i32 97] 21) := ⟨_, rfl⟩
  have hr5 : Reads W5 (.slice (some ⟨wr.heap.size, 0, none⟩) 1 1) 1 1 ([97].map rV) := by
    rw [hW5]
    refine ⟨some ⟨wr.heap.size, 0, none⟩, 1, rfl, Nat.le_refl _, by unfold maxLen; omega, fun h => by simp at h, rfl, fun _ => ⟨wr.heap.size, 0, rfl, fun j u hj => block_cell (heap_alloc_new wr _) ?_⟩⟩
    rw [Nat.zero_add]; simpa [rV] using hj
  have hb5 : Below w.heap.size w W5 := by rw [hW5]; exact h.li.bl.alloc h.li.bl.size _
  have hs5 : W5.heap.size = wr.heap.size + 1 := by rw [hW5]; simp
  have hl5 := block_lt h.li.blk
  have hblk5 : W5.heap[w.heap.size + 3]? = some (.cells (xC 3 rv 0 0 (.slice none 0 0)) 35 (0, 0)) := by rw [hW5]; exact block_alloc h.li.blk
  have hres5 : W5.heap[w.heap.size + 1]? = some (.cells #[.int .i64 0, .slice none 0 0, .int .i64 0, .int .i64 0, .bool false, .bool false, .slice none 0 0] 35 (0, 0)) := by rw [hW5]; exact block_alloc h.res
  have m3 : Mod (fun z => z = w.heap.size + 3) W5 (W5.setCell ⟨w.heap.size + 3, 1, none⟩ (.slice (some ⟨wr.heap.size, 0, none⟩) 1 1)) := Mod.setCell (F := fun z => z = w.heap.size + 3) (Mod.refl _ W5) (p := ⟨w.heap.size + 3, 1, none⟩) (fun _ => rfl) _
  have hs6 := m3.size
  have hob6 : ∀ g, (Value.slice (some ⟨wr.heap.size, 0, none⟩) 1 1).ownBlock = some g → w.heap.size + 3 < g ∧ g < (W5.setCell ⟨w.heap.size + 3, 1, none⟩ (.slice (some ⟨wr.heap.size, 0, none⟩) 1 1)).heap.size := fun g hg => by
    have : wr.heap.size = g := by simpa [Value.ownBlock] using hg
    omega
  rw [← hW5]
  refine ⟨by rw [block_set hblk5]; rfl, m3.heap hres5 (by omega), ?_, hb5.trans (m3.toBelow (by omega) fun g _ hg => by omega), _, _, _, rfl⟩
  rw [hl]
  exact runes_fin (zs := [97]) 3 (by omega) (hr5.mod m3 fun g hg => by have := hob6 g hg; omega) hob6 (by simp) d
/-- The node put where the answer lies. -/
theorem done7 {B o d : Nat} {r : Rw} {rv sv : Value} {mn mx : Int} {w wr : World} {t : Tr} {c : Array Value} (hB : B = w.heap.size) (hc : c = #[.int .i64 0, .slice none 0 0, .int .i64 0, .int .i64 0, .bool false, .bool false, .slice none 0 0]) (hres : wr.heap[B + 1]? = some (.cells c 35 (0, 0)))
    (hx : RxI wr (fun g => B + 3 < g ∧ g < wr.heap.size) (d + 1) t (xC o rv mn mx sv).toList) (hbl : Below B w wr) (ht : ex (d + 1) r = t) :
    (set7 wr (B + 1) (.int .i64 (o : Int)) rv (.int .i64 mn) (.int .i64 mx) (.bool false) (.bool false) sv).heap[B + 1]? = some (.cells #[.int .i64 (o : Int), rv, .int .i64 mn, .int .i64 mx, .bool false, .bool false, sv] 35 (0, 0)) ∧
      XPost (d + 1) r w (.returned (.agg #[.int .i64 (o : Int), rv, .int .i64 mn, .int .i64 mx, .bool false, .bool false, sv])) (set7 wr (B + 1) (.int .i64 (o : Int)) rv (.int .i64 mn) (.int .i64 mx) (.bool false) (.bool false) sv) := by
  subst hc hB
  have m := set7_mod wr (w.heap.size + 1) (.int .i64 (o : Int)) rv (.int .i64 mn) (.int .i64 mx) (.bool false) (.bool false) sv
  have hs := m.size
  have hle := hbl.size
  refine ⟨set7_blk hres _ _ _ _ _ _ _, _, rfl, rfl, hbl.trans (m.toBelow hbl.size fun g _ hg => by omega), ?_⟩
  rw [ht]
  exact RxI.wide (fun g hg => ⟨by omega, by omega⟩) _ _ _ (RxI.mod m (fun g hg => by omega) _ _ _ hx)
set_option maxHeartbeats 8000000 in
theorem expr_step (d : Nat) (hd9 : d ≤ 1000) (ih : 0 < d → ∀ (n : Nat) (r : Rw) (cs : List Value) (w : World), RwV w n r cs → Calls Tryd.prog 16 #[.agg cs.toArray, .int .i64 (d : Int)] w (XPost d r w))
    (n : Nat) (r : Rw) (cs : List Value) (w : World) (h : RwV w n r cs) : Calls Tryd.prog 16 #[.agg cs.toArray, .int .i64 ((d + 1 : Nat) : Int)] w (XPost (d + 1) r w) := by
  cases n with
  | zero => exact h.elim
  | succ n =>
  obtain ⟨rv, sv, lz, fo, css, rfl, hR, hcl, hS, h7, hsub⟩ := h
  obtain ⟨ra, rc, rfl⟩ := hR.form
  obtain ⟨sa, sc, rfl⟩ := hS.form
  have hRb := hR.bound
  have hSb := hS.bound
  obtain ⟨j, o0, hj, hj14, hjo, ho0, hex⟩ := ops_tab r.op
  obtain ⟨rl, hrl⟩ : ∃ n, n = r.runes.length := ⟨_, rfl⟩
  obtain ⟨sl, hsl⟩ : ∃ n, n = css.length := ⟨_, rfl⟩
  rw [← hrl] at hRb ⊢
  rw [← hsl] at hSb ⊢
  have hat := fun W => at_any r.op 14 W (by omega) (by omega)
  rw [hj] at hat
  have hcell : ∀ (W : World) (C : Nat) (T : TypeId) (fr : Nat × Nat), W.heap[C]? = some (.cells #[.int .i64 2, .int .i64 3, .int .i64 3, .int .i64 4, .int .i64 4, .int .i64 6, .int .i64 5, .int .i64 18, .int .i64 19, .int .i64 14, .int .i64 15, .int .i64 16, .int .i64 17, .int .i64 13] T fr) → W.cell? ⟨C, j, none⟩ = some (.int .i64 (o0 : Int)) := fun W C T fr h => by
    refine block_cell h ?_
    have h9 : (ops14.map (fun x : Nat => Value.int .i64 (x : Int)))[j]? = some (.int .i64 (o0 : Int)) := by rw [List.getElem?_map, hjo]; rfl
    simpa [ops14] using h9
  have hw2 : IntKind.i64.wrap (j : Int) = (j : Int) := IntWalk.i64_in _ (by omega)
  have hj0 : (0 : Int) ≤ (j : Int) := by omega
  have hj12 : (j : Int) < 14 := by omega
  have HAT := Lib.hid hat
  have HCE := Lib.hid hcell
  have HIH := Lib.hid ih
  have HALL := Lib.hid (And.intro hR (And.intro hcl (And.intro hS (And.intro h7 hsub))))
  have HEX := Lib.hid hex
  have HRL := Lib.hid (And.intro hrl hsl)
  obtain ⟨o, hoo⟩ : ∃ o, exOp (lfB d r) r = o := ⟨_, rfl⟩
  have HO := Lib.hid hoo
  clear hat hcell ih hR hcl hS h7 hsub hex hrl hsl hj hjo hoo
  obtain ⟨lf, hlf⟩ : ∃ lf, lf = lfB d r := ⟨_, rfl⟩
  have HLF := Lib.hid hlf
  clear hlf
  obtain ⟨W3, hW3⟩ : ∃ W3, W3 = (((w.alloc (.cells #[.int .i64 r.op, .slice ra rl rc, .int .i64 r.mn, .int .i64 r.mx, .bool lz, .bool fo, .slice sa sl sc] 35)).alloc (.cells #[.int .i64 0, .slice none 0 0, .int .i64 0, .int .i64 0, .bool false, .bool false, .slice none 0 0] 35)).alloc (.cells #[.int .i64 2, .int .i64 3, .int .i64 3, .int .i64 4, .int .i64 4, .int .i64 6, .int .i64 5, .int .i64 18, .int .i64 19, .int .i64 14, .int .i64 15, .int .i64 16, .int .i64 17, .int .i64 13] 88)) := ⟨_, rfl⟩
  have b0 : W3.heap[w.heap.size]? = some (.cells #[.int .i64 r.op, .slice ra rl rc, .int .i64 r.mn, .int .i64 r.mx, .bool lz, .bool fo, .slice sa sl sc] 35 (0, 0)) := by
    rw [hW3]; exact block_alloc (block_alloc (heap_alloc_new w _))
  have b1 : W3.heap[w.heap.size + 1]? = some (.cells #[.int .i64 0, .slice none 0 0, .int .i64 0, .int .i64 0, .bool false, .bool false, .slice none 0 0] 35 (0, 0)) := by
    have h := heap_alloc_new (w.alloc (.cells #[.int .i64 r.op, .slice ra rl rc, .int .i64 r.mn, .int .i64 r.mx, .bool lz, .bool fo, .slice sa sl sc] 35)) (.cells #[.int .i64 0, .slice none 0 0, .int .i64 0, .int .i64 0, .bool false, .bool false, .slice none 0 0] 35)
    rw [hW3]
    refine block_alloc ?_
    simpa using h
  have b2 : W3.cell? ⟨w.heap.size + 2, j, none⟩ = some (.int .i64 (o0 : Int)) := by
    have h := heap_alloc_new ((w.alloc (.cells #[.int .i64 r.op, .slice ra rl rc, .int .i64 r.mn, .int .i64 r.mx, .bool lz, .bool fo, .slice sa sl sc] 35)).alloc (.cells #[.int .i64 0, .slice none 0 0, .int .i64 0, .int .i64 0, .bool false, .bool false, .slice none 0 0] 35)) (.cells #[.int .i64 2, .int .i64 3, .int .i64 3, .int .i64 4, .int .i64 4, .int .i64 6, .int .i64 5, .int .i64 18, .int .i64 19, .int .i64 14, .int .i64 15, .int .i64 16, .int .i64 17, .int .i64 13] 88)
    rw [← hW3] at h
    have e : ((w.alloc (.cells #[.int .i64 r.op, .slice ra rl rc, .int .i64 r.mn, .int .i64 r.mx, .bool lz, .bool fo, .slice sa sl sc] 35)).alloc (.cells #[.int .i64 0, .slice none 0 0, .int .i64 0, .int .i64 0, .bool false, .bool false, .slice none 0 0] 35)).heap.size = w.heap.size + 2 := by simp
    rw [e] at h
    exact HCE.out W3 _ _ _ h
  have hsz3 : W3.heap.size = w.heap.size + 3 := by rw [hW3]; simp
  have hbl3 : Below w.heap.size w W3 := by rw [hW3]; exact (((Below.refl _ _).alloc (Nat.le_refl _) _).alloc (by simp) _).alloc (by simp; omega) _
  have HB3 := Lib.hid (And.intro b0 (And.intro b1 hbl3))
  have k0 : W3.cell? ⟨w.heap.size, 0, none⟩ = some (.int .i64 r.op) := block_cell b0 rfl
  clear HCE
  go_enter Tryd.func16, Tryd.ntmps16
  go_wp2_with fail
  refine (HAT.out _).mono ?_
  rintro e w1 ⟨rfl, rfl⟩
  rw [← hW3]
  have k6 : ∀ oo, (W3.alloc oo).cell? ⟨w.heap.size, 6, none⟩ = some (.slice sa sl sc) := fun oo => block_cell (block_alloc b0) rfl
  have n0 : ∀ oo, (W3.alloc oo).cell? ⟨w.heap.size + 3, 0, none⟩ = some (.int .i64 (o0 : Int)) → True := fun _ _ => trivial
  have hst := PI.start b0 b1 hbl3 hsz3 o0
  have HST := Lib.hid hst
  clear hW3 b0 b1 hbl3 n0 hst
  obtain ⟨W4, hW4⟩ : ∃ W4, W4 = W3.alloc (.cells #[.int .i64 (o0 : Int), .slice none 0 0, .int .i64 0, .int .i64 0, .bool false, .bool false, .slice none 0 0] 35) := ⟨_, rfl⟩
  have q6 : W4.cell? ⟨w.heap.size, 6, none⟩ = some (.slice sa sl sc) := by rw [hW4]; exact k6 _
  rw [← hW4] at HST
  go_upto_region 3 with (fail)
  rw [← hW4]
  clear hW4 k6
  go_cut [24] (fun v wx => v = .bool lf ∧ W4 = wx)
  case first =>
    as_aux_lemma =>
      by_cases hd0 : d = 0
      · have hi : decide ((d : Int) + 1 ≤ 1) = true := by rw [decide_eq_true_eq]; omega
        have hlt : lf = true := by rw [HLF.out, lfB, decide_eq_true hd0]; rfl
        clear hd0
        subst hlt
        go_wp2_with fail
        go_meet
        exact ⟨rfl, rfl⟩
      · have hi : decide ((d : Int) + 1 ≤ 1) = false := by rw [decide_eq_false_iff_not]; omega
        have hsl : sl = r.subs.length := HRL.out.2.trans HALL.out.2.1
        by_cases hs0 : sl = 0
        · have hlt : lf = true := by rw [HLF.out, lfB, decide_eq_true (show r.subs.length = 0 by omega), Bool.or_true]
          have hs1 : ((sl : Int) == 0) = true := by rw [beq_iff_eq]; omega
          clear hd0 hs0 hsl
          subst hlt
          go_wp2_with fail
          go_meet
          exact ⟨rfl, rfl⟩
        · have hlt : lf = false := by rw [HLF.out, lfB, decide_eq_false hd0, decide_eq_false (show ¬ r.subs.length = 0 by omega)]; rfl
          have hs1 : ((sl : Int) == 0) = false := beq_eq_false_iff_ne.2 (by omega)
          clear hd0 hs0 hsl
          subst hlt
          go_wp2_with fail
          go_meet
          exact ⟨rfl, rfl⟩
  obtain ⟨rfl, rfl⟩ := hcut
  have q0 : W4.cell? ⟨w.heap.size + 3, 0, none⟩ = some (.int .i64 (o0 : Int)) := block_cell HST.out.nod rfl
  have f0 : W4.frozen? ⟨w.heap.size + 3, 0, none⟩ = false := block_free HST.out.nod
  go_upto_if 24 with (fail)
  go_cut [] (fun wx => Hid (PI w.heap.size #[.int .i64 r.op, .slice ra rl rc, .int .i64 r.mn, .int .i64 r.mx, .bool lz, .bool fo, .slice sa sl sc] o w wx))
  case first =>
    as_aux_lemma =>
      cases lf with
      | false =>
        have ho : o = o0 := by rw [← HO.out, ← HLF.out, HEX.out false r rfl, if_neg (by simp)]
        have HO3 := Lib.hid ho
        clear ho
        go_wp2_with fail
        go_meet
        rw [HO3.out]
        exact HST
      | true =>
        by_cases h6 : 6 < o0
        · have ho : o = 3 := by rw [← HO.out, ← HLF.out, HEX.out true r rfl, if_pos ⟨rfl, h6⟩]
          have n2 : ¬ (o0 : Int) = 2 := by omega
          have n3 : ¬ (o0 : Int) = 3 := by omega
          have n4 : ¬ (o0 : Int) = 4 := by omega
          have n5 : ¬ (o0 : Int) = 5 := by omega
          have n6 : ¬ (o0 : Int) = 6 := by omega
          have HO3 := Lib.hid ho
          clear ho
          go_wp2_with fail
          go_meet
          rw [HO3.out]
          exact Lib.hid HST.out.put3
        · have ho : o = o0 := by rw [← HO.out, ← HLF.out, HEX.out true r rfl, if_neg (by simp [h6])]
          have HO3 := Lib.hid ho
          clear ho
          obtain e | e | e | e | e : (o0 : Int) = 2 ∨ (o0 : Int) = 3 ∨ (o0 : Int) = 4 ∨ (o0 : Int) = 5 ∨ (o0 : Int) = 6 := by omega
          all_goals
            go_wp2_with fail
            go_meet
            rw [HO3.out]
            exact HST
  have HP := hcut
  have ho := exOp_le (lfB d r) r
  rw [HO.out] at ho
  clear hcut HST q6 q0 f0 k0 hsz3 HB3 HAT ho0 HEX hj14 hw2 hj0 hj12 b2
  have p0 : wc.cell? ⟨w.heap.size + 3, 0, none⟩ = some (.int .i64 (o : Int)) := block_cell HP.out.nod rfl
  have p1 : wc.cell? ⟨w.heap.size + 3, 1, none⟩ = some (.slice none 0 0) := block_cell HP.out.nod rfl
  have p2 : wc.cell? ⟨w.heap.size + 3, 2, none⟩ = some (.int .i64 0) := block_cell HP.out.nod rfl
  have p3 : wc.cell? ⟨w.heap.size + 3, 3, none⟩ = some (.int .i64 0) := block_cell HP.out.nod rfl
  have p4 : wc.cell? ⟨w.heap.size + 3, 4, none⟩ = some (.bool false) := block_cell HP.out.nod rfl
  have p5 : wc.cell? ⟨w.heap.size + 3, 5, none⟩ = some (.bool false) := block_cell HP.out.nod rfl
  have p6 : wc.cell? ⟨w.heap.size + 3, 6, none⟩ = some (.slice none 0 0) := block_cell HP.out.nod rfl
  by_cases hA : o = 2 ∨ o = 5 ∨ o = 6
  · --A<
    have hf := done7 (d := d) (r := r) (w := w) rfl rfl HP.out.res (leaf_fin wc _ o (by omega) d) HP.out.bl (ex_a HO.out hA)
    obtain ⟨HZ, HX⟩ := And.intro (Lib.hid hf.1) (Lib.hid hf.2)
    have g0 := block_free (i := 0) HP.out.res
    have g1 := block_free (i := 1) HP.out.res
    have g2 := block_free (i := 2) HP.out.res
    have g3 := block_free (i := 3) HP.out.res
    have g4 := block_free (i := 4) HP.out.res
    have g5 := block_free (i := 5) HP.out.res
    have g6 := block_free (i := 6) HP.out.res
    have e0 : wc.cell? ⟨w.heap.size + 1, 0, none⟩ = some (.int .i64 0) := block_cell HP.out.res rfl
    have e1 : wc.cell? ⟨w.heap.size + 1, 1, none⟩ = some (.slice none 0 0) := block_cell HP.out.res rfl
    have e2 : wc.cell? ⟨w.heap.size + 1, 2, none⟩ = some (.int .i64 0) := block_cell HP.out.res rfl
    have e3 : wc.cell? ⟨w.heap.size + 1, 3, none⟩ = some (.int .i64 0) := block_cell HP.out.res rfl
    have e4 : wc.cell? ⟨w.heap.size + 1, 4, none⟩ = some (.bool false) := block_cell HP.out.res rfl
    have e5 : wc.cell? ⟨w.heap.size + 1, 5, none⟩ = some (.bool false) := block_cell HP.out.res rfl
    have e6 : wc.cell? ⟨w.heap.size + 1, 6, none⟩ = some (.slice none 0 0) := block_cell HP.out.res rfl
    have hoi : (o : Int) = 2 ∨ (o : Int) = 5 ∨ (o : Int) = 6 := by omega
    clear hf hA ho
    obtain ⟨oi, hoe⟩ : ∃ oi, oi = (o : Int) := ⟨_, rfl⟩
    rw [← hoe] at HZ HX p0 hoi
    clear hoe
    rcases hoi with rfl | rfl | rfl
    all_goals
      go_wp2_with fail
      try simp only [Exit.inBlock, Exit.then]
      refine bodyPost_ret (results_cell_row rfl _ _ (w.heap.size + 1) 35 _ (0, 0) _ rfl HZ.out Tryd.underlying35 rfl (by kernel_rfl)) rfl ?_
      exact HX.out
    --A>
  by_cases hC : o = 4
  · --C<
    have hR := HALL.out.1.below HP.out.bl
    have hrl := HRL.out.1
    rw [← hrl] at hR
    have hpa := pairs_any r.runes (.slice ra rl rc) wc (by rw [← hrl]; exact hR)
    have q1 : wc.cell? ⟨w.heap.size, 1, none⟩ = some (.slice ra rl rc) := block_cell HP.out.raw rfl
    have hoi : (o : Int) = 4 := by omega
    have HPA := Lib.hid hpa
    have HOC := Lib.hid (ex_c (show exOp (lfB d r) r = 4 by rw [HO.out]; exact hC))
    clear hR hrl hpa
    rw [hoi] at p0
    have hp1 : ∀ (v : Nat) W', Below wc.heap.size wc W' → W'.cell? ⟨w.heap.size + 3, 1, none⟩ = some (.slice none 0 0) ∧ W'.frozen? ⟨w.heap.size + 3, 1, none⟩ = false := fun v W' hb => by
      have hbk := (Mod.of_below (F := fun _ => False) hb).heap HP.out.nod (fun h => h)
      exact ⟨block_cell hbk rfl, block_free hbk⟩
    have HP1 := Lib.hid hp1
    clear hp1 hoi hA ho
    go_wp2_with fail
    refine HPA.out.mono ?_
    rintro e w2 ⟨v, rfl, hb2, hrd, hob⟩
    obtain ⟨va, vc, rfl⟩ := hrd.form
    obtain ⟨m1, f1⟩ := HP1.out 0 w2 hb2
    have hHP : PI w.heap.size #[.int .i64 r.op, .slice ra rl rc, .int .i64 r.mn, .int .i64 r.mx, .bool lz, .bool fo, .slice sa sl sc] o w wc := HP.out
    have hblk2 := (Mod.of_below (F := fun _ => False) hb2).heap hHP.nod (fun h => h)
    have hres2 := (Mod.of_below (F := fun _ => False) hb2).heap hHP.res (fun h => h)
    have hsz2 := hb2.size
    have hblk3 : (w2.setCell ⟨w.heap.size + 3, 1, none⟩ (.slice va (pairsP r.runes).length vc)).heap[w.heap.size + 3]? = some (.cells (xC o (.slice va (pairsP r.runes).length vc) 0 0 (.slice none 0 0)) 35 (0, 0)) := by
      rw [block_set hblk2]; rfl
    have m3 : Mod (fun z => z = w.heap.size + 3) w2 (w2.setCell ⟨w.heap.size + 3, 1, none⟩ (.slice va (pairsP r.runes).length vc)) := Mod.setCell (F := fun z => z = w.heap.size + 3) (Mod.refl _ w2) (p := ⟨w.heap.size + 3, 1, none⟩) (fun _ => rfl) _
    obtain ⟨w3, hw3⟩ : ∃ w3, w3 = w2.setCell ⟨w.heap.size + 3, 1, none⟩ (.slice va (pairsP r.runes).length vc) := ⟨_, rfl⟩
    rw [← hw3] at hblk3 m3
    have hsz3 := m3.size
    have hres3 := m3.heap hres2 (by omega)
    have hob3 : ∀ g, (Value.slice va (pairsP r.runes).length vc).ownBlock = some g → w.heap.size + 3 < g ∧ g < w3.heap.size := fun g hg => by have := hob g hg; have := hHP.sz; omega
    have hrd3 : Reads w3 (.slice va (pairsP r.runes).length vc) (pairsP r.runes).length 1 ((pairsP r.runes).map rV) := hrd.mod m3 fun g hg e => by have := hob3 g hg; omega
    have hbl3 : Below w.heap.size w w3 := (hHP.bl.trans (hb2.mono (by have := hHP.sz; omega))).trans (m3.toBelow (by have := hHP.sz; omega) fun g _ hg => by omega)
    have hpl := (pairs_ok r.runes).2.1
    have hf := done7 (d := d) (r := r) (w := w) (o := 4) (mn := 0) (mx := 0) (sv := .slice none 0 0) rfl rfl hres3 (runes_fin 4 (by omega) hrd3 hob3 (by obtain ⟨j, h1, h2⟩ := hpl; omega) d) hbl3 HOC.out
    rw [hw3] at hf
    obtain ⟨HZ, HX⟩ := And.intro (Lib.hid hf.1) (Lib.hid hf.2)
    rw [hw3] at hblk3 hres3
    have g0 := block_free (i := 0) hres3
    have g1 := block_free (i := 1) hres3
    have g2 := block_free (i := 2) hres3
    have g3 := block_free (i := 3) hres3
    have g4 := block_free (i := 4) hres3
    have g5 := block_free (i := 5) hres3
    have g6 := block_free (i := 6) hres3
    have e0 : (w2.setCell ⟨w.heap.size + 3, 1, none⟩ (.slice va (pairsP r.runes).length vc)).cell? ⟨w.heap.size + 1, 0, none⟩ = some (.int .i64 0) := block_cell hres3 rfl
    have e1 : (w2.setCell ⟨w.heap.size + 3, 1, none⟩ (.slice va (pairsP r.runes).length vc)).cell? ⟨w.heap.size + 1, 1, none⟩ = some (.slice none 0 0) := block_cell hres3 rfl
    have e2 : (w2.setCell ⟨w.heap.size + 3, 1, none⟩ (.slice va (pairsP r.runes).length vc)).cell? ⟨w.heap.size + 1, 2, none⟩ = some (.int .i64 0) := block_cell hres3 rfl
    have e3 : (w2.setCell ⟨w.heap.size + 3, 1, none⟩ (.slice va (pairsP r.runes).length vc)).cell? ⟨w.heap.size + 1, 3, none⟩ = some (.int .i64 0) := block_cell hres3 rfl
    have e4 : (w2.setCell ⟨w.heap.size + 3, 1, none⟩ (.slice va (pairsP r.runes).length vc)).cell? ⟨w.heap.size + 1, 4, none⟩ = some (.bool false) := block_cell hres3 rfl
    have e5 : (w2.setCell ⟨w.heap.size + 3, 1, none⟩ (.slice va (pairsP r.runes).length vc)).cell? ⟨w.heap.size + 1, 5, none⟩ = some (.bool false) := block_cell hres3 rfl
    have e6 : (w2.setCell ⟨w.heap.size + 3, 1, none⟩ (.slice va (pairsP r.runes).length vc)).cell? ⟨w.heap.size + 1, 6, none⟩ = some (.slice none 0 0) := block_cell hres3 rfl
    have hoi : (o : Int) = 4 := by omega
    rw [hC] at hblk3
    have x0 : (w2.setCell ⟨w.heap.size + 3, 1, none⟩ (.slice va (pairsP r.runes).length vc)).cell? ⟨w.heap.size + 3, 0, none⟩ = some (.int .i64 4) := block_cell hblk3 rfl
    have x1 : (w2.setCell ⟨w.heap.size + 3, 1, none⟩ (.slice va (pairsP r.runes).length vc)).cell? ⟨w.heap.size + 3, 1, none⟩ = some (.slice va (pairsP r.runes).length vc) := block_cell hblk3 rfl
    have x2 : (w2.setCell ⟨w.heap.size + 3, 1, none⟩ (.slice va (pairsP r.runes).length vc)).cell? ⟨w.heap.size + 3, 2, none⟩ = some (.int .i64 0) := block_cell hblk3 rfl
    have x3 : (w2.setCell ⟨w.heap.size + 3, 1, none⟩ (.slice va (pairsP r.runes).length vc)).cell? ⟨w.heap.size + 3, 3, none⟩ = some (.int .i64 0) := block_cell hblk3 rfl
    have x4 : (w2.setCell ⟨w.heap.size + 3, 1, none⟩ (.slice va (pairsP r.runes).length vc)).cell? ⟨w.heap.size + 3, 4, none⟩ = some (.bool false) := block_cell hblk3 rfl
    have x5 : (w2.setCell ⟨w.heap.size + 3, 1, none⟩ (.slice va (pairsP r.runes).length vc)).cell? ⟨w.heap.size + 3, 5, none⟩ = some (.bool false) := block_cell hblk3 rfl
    have x6 : (w2.setCell ⟨w.heap.size + 3, 1, none⟩ (.slice va (pairsP r.runes).length vc)).cell? ⟨w.heap.size + 3, 6, none⟩ = some (.slice none 0 0) := block_cell hblk3 rfl
    clear hf hblk3 hres3 m3 hrd3 hob3 hbl3 hsz3 hsz2 hblk2 hres2 hHP hob hrd hb2 hoi hpl hw3 p0 p1 p2 p3 p4 p5 p6 q1
    go_wp2_with fail
    try simp only [Exit.inBlock, Exit.then]
    refine bodyPost_ret (results_cell_row rfl _ _ (w.heap.size + 1) 35 _ (0, 0) _ rfl HZ.out Tryd.underlying35 rfl (by kernel_rfl)) rfl ?_
    exact HX.out
    --C>
  by_cases hD : o = 3
  · --L<
    have hOC := ex_b (show exOp (lfB d r) r = 3 by rw [HO.out]; exact hD)
    have hLJ := LJ.start (hD ▸ HP.out)
    have HOC := Lib.hid hOC
    have HL0 := Lib.hid hLJ
    have hoi : (o : Int) = 3 := by omega
    rw [hoi] at p0
    have hlet := fun x W => letter_any x W
    have HLET := Lib.hid hlet
    have HRR := Lib.hid (And.intro HALL.out.1 HRL.out.1)
    obtain ⟨i0, hi0, hz0, hz1, hz2⟩ := info_parts info_i32y
    clear hoi hA hC hD ho hLJ hOC hlet HIH HALL HO HLF
    go_wp2_with fail
    go_loopw [7] (fun iv wr => ∃ (k : Nat) (rvk : Value), iv = .int .i64 k ∧ k ≤ rl ∧ k ≤ 4 ∧ Hid (LJ #[.int .i64 r.op, .slice ra rl rc, .int .i64 r.mn, .int .i64 r.mx, .bool lz, .bool fo, .slice sa sl sc] rvk ((r.runes.take k).map letP) w wr)) (fun iv _ => 4 - (intOf iv).toNat)
    case atStart => exact ⟨0, _, rfl, Nat.zero_le _, Nat.zero_le _, Lib.hid HL0.out⟩
    case round =>
      obtain ⟨k, rvk, rfl, hk, hk4, HI⟩ := hrel
      have hLI := HI.out
      have hzl : ((r.runes.take k).map letP).length = k := by have := HRR.out.2; simp; omega
      obtain ⟨zs, hzs⟩ : ∃ zs, zs = (r.runes.take k).map letP := ⟨_, rfl⟩
      rw [← hzs] at hLI hzl
      obtain ⟨xo, xc, rfl⟩ := ownsRow_form hLI.li.own
      rw [hzl] at hLI
      have j1 : wr.cell? ⟨w.heap.size + 3, 1, none⟩ = some (.slice xo k xc) := block_cell hLI.li.blk rfl
      have j2 : wr.cell? ⟨w.heap.size, 1, none⟩ = some (.slice ra rl rc) := block_cell hLI.raw rfl
      by_cases hlt : k < rl ∧ k < 4
      · obtain ⟨hlt1, hlt2⟩ := hlt
        obtain ⟨sb, so, cp, x, e1, hx, hc⟩ := (HRR.out.1.below hLI.li.bl).one rV (k := k) (by have := HRR.out.2; omega)
        have hra : ra = some ⟨sb, so, none⟩ := by injection e1
        subst hra
        have c0 : wr.cell? ⟨sb, so + k, none⟩ = some (.int .i32 x) := hc
        have hl1 : (k : Int) < (rl : Int) := by omega
        have hl4 : (k : Int) < 4 := by omega
        have hw1 : IntKind.i64.wrap ((k : Int) + 1) = (k : Int) + 1 := IntWalk.i64_in _ (by omega)
        have HT := Lib.hid hLI
        have HZ := Lib.hid (show zs ++ [letP x] = (r.runes.take (k + 1)).map letP by rw [List.take_add_one, hx, List.map_append, hzs]; rfl)
        have HZL := Lib.hid hzl
        clear hLI HI hzs hx hc e1 hzl
        --R<
        go_wp2_with fail
        go_region_law (first
          | (go_simp; (with_reducible refine (HLET.out _ _).mono ?_); rintro e w2 ⟨rfl, hb2⟩
             have hbb : Below wr.heap.size wr w2 := (by first | exact hb2 | exact ((Below.refl wr.heap.size wr).drew).trans hb2)
             have hT2 := HT.out.below hbb
             have u2 : w2.cell? ⟨w.heap.size + 3, 1, none⟩ = some (.slice xo k xc) := block_cell hT2.li.blk rfl
             have al2 : ∀ oo, (w2.alloc oo).cell? ⟨w.heap.size + 3, 1, none⟩ = some (.slice xo k xc) := fun oo => block_cell (block_alloc hT2.li.blk) rfl
             have HT2 := Lib.hid hT2
             have hOW : ∀ oo, (w2.alloc oo).ownsRow (w.heap.size + 3 + 1) 21 1 (.slice xo k xc) k (zs.map rV) := fun oo => by have h := hT2.li.own.alloc oo; rw [HZL.out] at h; exact h
             have HOW := Lib.hid hOW
             clear hb2 hbb hT2 hOW)
          | (refine step_append_lies _ rfl (.tmp 55) (.tmp 62) 32 rfl (w.heap.size + 3 + 1) 21 i0 (.int .i32 0) 1 4 Tryd.underlying32 hi0 hz0 hz1 hz2 rfl (by decide) (.slice xo k xc) k (zs.map rV) (by simp [Act.eval, Act.put]) (HOW.out _) ⟨w2.heap.size, 0, none⟩ 1 1 [rV (letP x)] (by simp [Act.eval, Act.put]) rfl (World.news_of_block (heap_alloc_new _ _)) (by simp [rV, Value.oneCell']) (by omega) (by unfold maxLen; omega) (by omega) (by simp; have := block_lt HT2.out.li.blk; omega) _ rfl ?_
             intro g6 cap6 w6 hown6 hgr6 hat6 hlt6
             have hB6 := (hgr6.block (w.heap.size + 3) (by simp; have := block_lt HT2.out.li.blk; omega) (fun e => by have := (HT2.out.li.own.lt _ e.symm).1; omega)).trans (block_alloc HT2.out.li.blk)
             have f6 : w6.frozen? ⟨w.heap.size + 3, 1, none⟩ = false := block_free hB6
             have u6 : w6.cell? ⟨w.heap.size + 3, 1, none⟩ = some (.slice xo k xc) := block_cell hB6 rfl
             have HX6 := Lib.hid (And.intro hown6 (And.intro hgr6 hat6))
             clear hown6 hgr6 hat6 hlt6 hB6))
        all_goals
          go_wp2_with fail
          go_roundw
          case rel =>
            have hx := HX6.out
            refine ⟨k + 1, _, by go_num, by omega, by omega, Lib.hid (HZ.out ▸ HT2.out.push ((Mod.refl _ w2).alloc _) hx.2.1 (by rw [HZL.out]; exact hx.1))⟩
          case measure => simp [intOf]; omega
        --R>
      · have hkm : (k < rl ∧ ¬ k < 4) ∨ ¬ k < rl := by omega
        have hlit : litP r.runes = if k = 0 then [97] else zs := by
          have h1 := HRR.out.2
          unfold litP
          by_cases h0 : k = 0
          · rw [if_pos h0, if_pos (by omega)]
          · rw [if_neg h0, if_neg (by omega), hzs]
            rcases Nat.lt_or_ge k 4 with h | h
            · rw [List.take_of_length_le (by omega), List.take_of_length_le (by omega)]
            · have : k = 4 := by omega
              rw [this]
        have hfr : ∀ oo, (wr.alloc oo).frozen? ⟨w.heap.size + 3, 1, none⟩ = false := fun oo => block_free (block_alloc hLI.li.blk)
        have hal : ∀ oo, (wr.alloc oo).cell? ⟨w.heap.size + 3, 1, none⟩ = some (.slice xo k xc) := fun oo => block_cell (block_alloc hLI.li.blk) rfl
        have HLI := Lib.hid hLI
        have HLT := Lib.hid (And.intro hlit hzl)
        clear hLI hlit hzl hzs HI
        by_cases hkr : k < rl
        case' pos => have q2 : ¬ k < 4 := by omega
        case' neg => have q2 : True := trivial
        all_goals
          clear hkm hlt
          go_upto_if 68 with (fail)
          go_cut [] (fun wx => Hid (∃ rv', FJ d r rv' w wx))
          case first =>
            as_aux_lemma =>
              by_cases hk0 : k = 0
              · first
                  | (exfalso; omega)
                  | (have q3 : ((k : Int) == 0) = true := by rw [beq_iff_eq]; omega
                     have HFJ := Lib.hid (FJ.new (d := d) (r := r) HLI.out (by rw [HLT.out.1, if_pos hk0]))
                     clear hk0
                     go_wp2_with fail
                     go_meet
                     exact Lib.hid ⟨_, HFJ.out⟩)
              · have q3 : ((k : Int) == 0) = false := beq_eq_false_iff_ne.2 (by omega)
                have HFJ := Lib.hid (FJ.of (d := d) (r := r) HLI.out (by rw [HLT.out.2]; omega) (by rw [HLT.out.1, if_neg hk0]))
                clear hk0
                go_wp2_with fail
                go_meet
                exact Lib.hid ⟨_, HFJ.out⟩
          obtain ⟨rv', hfj⟩ := hcut.out
          obtain ⟨va, vn, vc, rfl⟩ := hfj.fm
          obtain ⟨⟨y0, y1, y2, y3, y4, y5, y6⟩, _⟩ := cells7 hfj.blk
          obtain ⟨⟨e0, e1, e2, e3, e4, e5, e6⟩, g0, g1, g2, g3, g4, g5, g6⟩ := cells7 hfj.res
          have hf := done7 (d := d) (r := r) (w := w) (o := 3) (mn := 0) (mx := 0) (sv := .slice none 0 0) rfl rfl hfj.res hfj.ok hfj.bl HOC.out
          obtain ⟨HZ, HX⟩ := And.intro (Lib.hid hf.1) (Lib.hid hf.2)
          clear hf hfj hcut
          go_wp2_with fail
          try simp only [Exit.inBlock, Exit.then]
          refine bodyPost_ret (results_cell_row rfl _ _ (w.heap.size + 1) 35 _ (0, 0) _ rfl HZ.out Tryd.underlying35 rfl (by kernel_rfl)) rfl ?_
          exact HX.out
    --L>
  · obtain ⟨h13, hlff⟩ : 13 ≤ o ∧ lfB d r = false := by
      rcases ho.2.2 with h | h
      · omega
      · exact h
    have hd0 : 0 < d ∧ r.subs ≠ [] := by
      unfold lfB at hlff
      simp only [Bool.or_eq_false_iff, decide_eq_false_iff_not] at hlff
      exact ⟨by omega, fun e => hlff.2 (by rw [e]; rfl)⟩
    have hed := ex_d HO.out h13
    obtain ⟨M, hM⟩ : ∃ M, M = (if 18 ≤ o then 3 else 1) := ⟨_, rfl⟩
    rw [← hM] at hed
    obtain ⟨b18, hb18⟩ : ∃ b18, b18 = decide (18 ≤ o) := ⟨_, rfl⟩
    have hM1 : 1 ≤ M ∧ M ≤ 3 := by rw [hM]; split <;> omega
    have hMb : b18 = true → M = 3 := fun h => by rw [hb18, decide_eq_true_eq] at h; rw [hM, if_pos h]
    have hMc : b18 = false → M = 1 := fun h => by rw [hb18, decide_eq_false_iff_not] at h; rw [hM, if_neg h]
    have hoo : o ≤ 19 := ho.2.1
    have t2 : ((o : Int) == 2) = false := beq_eq_false_iff_ne.2 (by omega)
    have t3 : ((o : Int) == 3) = false := beq_eq_false_iff_ne.2 (by omega)
    have t4 : ((o : Int) == 4) = false := beq_eq_false_iff_ne.2 (by omega)
    have t5 : ((o : Int) == 5) = false := beq_eq_false_iff_ne.2 (by omega)
    have t6 : ((o : Int) == 6) = false := beq_eq_false_iff_ne.2 (by omega)
    have HED := Lib.hid (And.intro hed (And.intro hd0.2 hb18))
    have HM := Lib.hid (And.intro hMb hMc)
    have HXJ := Lib.hid (XJ.start (d := d) HP.out)
    have hd1 := hd0.1
    have hcall0 := HIH.out hd1
    have HIC := Lib.hid hcall0
    clear hA hC hD ho hlff hd0 hed hM hb18 hMb hMc hcall0 HIH HLF
    go_upto_region 28 with (fail)
    go_cut [86] (fun v wx => v = .bool b18 ∧ wc = wx)
    case first =>
      as_aux_lemma =>
        have h1 := HED.out.2.2
        obtain h | h | h : o ≤ 17 ∨ o = 18 ∨ o = 19 := by omega
        · have u1 : ((o : Int) == 18) = false := beq_eq_false_iff_ne.2 (by omega)
          have u2 : ((o : Int) == 19) = false := beq_eq_false_iff_ne.2 (by omega)
          have h2 : b18 = false := by rw [h1, decide_eq_false_iff_not]; omega
          subst h2
          clear h1 h
          go_wp2_with fail
          go_meet
          exact ⟨rfl, rfl⟩
        · have u1 : ((o : Int) == 18) = true := by rw [beq_iff_eq]; omega
          have h2 : b18 = true := by rw [h1, decide_eq_true_eq]; omega
          subst h2
          clear h1 h
          go_wp2_with fail
          go_meet
          exact ⟨rfl, rfl⟩
        · have u1 : ((o : Int) == 18) = false := beq_eq_false_iff_ne.2 (by omega)
          have u2 : ((o : Int) == 19) = true := by rw [beq_iff_eq]; omega
          have h2 : b18 = true := by rw [h1, decide_eq_true_eq]; omega
          subst h2
          clear h1 h
          go_wp2_with fail
          go_meet
          exact ⟨rfl, rfl⟩
    obtain ⟨rfl, rfl⟩ := hcut
    go_upto_if 86 with (fail)
    go_cut [8] (fun v wx => v = .int .i64 (M : Int) ∧ wc = wx)
    case first =>
      as_aux_lemma =>
        cases b18 with
        | true =>
          have h := HM.out.1 rfl
          subst h
          go_wp2_with fail
          go_meet
          exact ⟨rfl, rfl⟩
        | false =>
          have h := HM.out.2 rfl
          subst h
          go_wp2_with fail
          go_meet
          exact ⟨rfl, rfl⟩
    obtain ⟨rfl, rfl⟩ := hcut
    clear p0 p1 p2 p3 p4 p5 p6
    obtain ⟨i1, hi1, hy0, hy1, hy2⟩ := info_parts info_rx
    have hslr : sl = r.subs.length := HRL.out.2.trans HALL.out.2.1
    have HSLR := Lib.hid hslr
    clear hslr
    go_wp2_with fail
    go_loopw [9] (fun iv wr => ∃ (k : Nat) (sv1 : Value) (cs1 : List (List Value)), iv = .int .i64 k ∧ k ≤ sl ∧ k ≤ M ∧ Hid (XJ d #[.int .i64 r.op, .slice ra rl rc, .int .i64 r.mn, .int .i64 r.mx, .bool lz, .bool fo, .slice sa sl sc] o sv1 0 0 ((r.subs.take k).map (ex d)) cs1 w wr)) (fun iv _ => 4 - (intOf iv).toNat)
    case atStart => exact ⟨0, _, _, rfl, Nat.zero_le _, Nat.zero_le _, Lib.hid HXJ.out⟩
    case round =>
      obtain ⟨k, sv1, cs1, rfl, hk, hkM, HI⟩ := hrel
      have hXJ := HI.out
      have hcl1 : cs1.length = k := by rw [hXJ.xi.len]; have := HSLR.out; simp; omega
      obtain ⟨xo, xc, rfl⟩ := ownsRow_form hXJ.xi.own
      rw [hcl1] at hXJ
      obtain ⟨ts, hts⟩ : ∃ ts, ts = (r.subs.take k).map (ex d) := ⟨_, rfl⟩
      rw [← hts] at hXJ
      have j6 : wr.cell? ⟨w.heap.size + 3, 6, none⟩ = some (.slice xo k xc) := block_cell hXJ.xi.blk rfl
      have j2 : wr.cell? ⟨w.heap.size, 6, none⟩ = some (.slice sa sl sc) := block_cell hXJ.raw rfl
      by_cases hlt : k < sl ∧ k < M
      · --S<
        obtain ⟨hlt1, hlt2⟩ := hlt
        obtain ⟨c, hc⟩ : ∃ c, css[k]? = some c := ⟨_, List.getElem?_eq_getElem (by have := HRL.out.2; omega)⟩
        obtain ⟨s, hs⟩ : ∃ s, r.subs[k]? = some s := ⟨_, List.getElem?_eq_getElem (by have := HSLR.out; omega)⟩
        have hxw : RwV w n s c := HALL.out.2.2.2.2 k c s hc hs
        obtain ⟨rv1, lz1, fo1, sv2, rfl, ⟨ra1, rb1, rc1, rfl⟩, sa1, sb1, sc1, rfl⟩ := hxw.form
        have hSr := HALL.out.2.2.1.below hXJ.xi.bl
        rw [HRL.out.2] at hlt1 hk j2
        obtain ⟨sb, so, hsa, hcells⟩ := row7 hSr HALL.out.2.2.2.1 hc
        rw [← HRL.out.2] at hlt1 hk j2
        subst hsa
        have q0 := hcells 0 _ rfl
        rw [Nat.add_zero] at q0
        have q1 := hcells 1 _ rfl
        have q2 := hcells 2 _ rfl
        have q3 := hcells 3 _ rfl
        have q4 := hcells 4 _ rfl
        have q5 := hcells 5 _ rfl
        have q6 := hcells 6 _ rfl
        have hcall := fun (W : World) (hb : Below wr.heap.size wr W) => HIC.out n s _ W (RwV.below (hXJ.xi.bl.trans (hb.mono hXJ.xi.bl.size)) n s _ hxw)
        have HCALL := Lib.hid hcall
        have HT := Lib.hid hXJ
        have HZ := Lib.hid (show ts ++ [ex d s] = (r.subs.take (k + 1)).map (ex d) by rw [List.take_add_one, hs, List.map_append, hts]; rfl)
        have HCL := Lib.hid hcl1
        have hwd : IntKind.i64.wrap (d : Int) = (d : Int) := IntWalk.i64_in _ (by omega)
        clear hXJ HI hts hs hc hcells hxw hSr hcall hcl1
        go_wp2_with fail
        go_region_law (first
          | (go_simp; (with_reducible refine Calls.mono (HCALL.out _ (by first | exact Below.refl _ _ | exact (Below.refl _ _).drew)) ?_); rintro e w2 ⟨cs2, he2, hl2, hb2, hR2⟩
             obtain ⟨o1, rv3, mn3, mx3, lz3, sv3, rfl, ⟨ra3, rb3, rc3, rfl⟩, sa3, sb3, sc3, rfl⟩ := hR2.form
             obtain rfl := he2
             have hbb : Below wr.heap.size wr w2 := (by first | exact hb2 | exact ((Below.refl wr.heap.size wr).drew).trans hb2)
             have hT2 := HT.out.below hbb
             have u2 : w2.cell? ⟨w.heap.size + 3, 6, none⟩ = some (.slice xo k xc) := block_cell hT2.xi.blk rfl
             have al2 : ∀ oo, (w2.alloc oo).cell? ⟨w.heap.size + 3, 6, none⟩ = some (.slice xo k xc) := fun oo => block_cell (block_alloc hT2.xi.blk) rfl
             have hOW : ∀ oo, (w2.alloc oo).ownsRow (w.heap.size + 3 + 1) 35 7 (.slice xo k xc) k cs1.flatten := fun oo => by have h := hT2.xi.own.alloc oo; rw [HCL.out] at h; exact h
             have HOW := Lib.hid hOW
             have HT2 := Lib.hid hT2
             have HR2 := Lib.hid hR2
             clear hb2 hbb hT2 hOW hR2 hl2)
          | (refine step_append_lies _ rfl (.tmp 100) (.tmp 109) 33 rfl (w.heap.size + 3 + 1) 35 i1 _ 7 80 Tryd.underlying33 hi1 hy0 hy1 hy2 rfl (by decide) (.slice xo k xc) k cs1.flatten (by simp [Act.eval, Act.put]) (HOW.out _) ⟨w2.heap.size, 0, none⟩ 1 1 [.int .i64 o1, .slice ra3 rb3 rc3, .int .i64 mn3, .int .i64 mx3, .bool lz3, .bool false, .slice sa3 sb3 sc3] (by simp [Act.eval, Act.put]) rfl (World.news_of_block (heap_alloc_new _ _)) (by simp [Value.oneCell']) (by omega) (by unfold maxLen; omega) (by omega) (by simp; have := block_lt HT2.out.xi.blk; omega) _ rfl ?_
             intro g6 cap6 w6 hown6 hgr6 hat6 hlt6
             have hB6 := (hgr6.block (w.heap.size + 3) (by simp; have := block_lt HT2.out.xi.blk; omega) (fun e => by have := (HT2.out.xi.own.lt _ e.symm).1; omega)).trans (block_alloc HT2.out.xi.blk)
             have f6 : w6.frozen? ⟨w.heap.size + 3, 6, none⟩ = false := block_free hB6
             have u6 : w6.cell? ⟨w.heap.size + 3, 6, none⟩ = some (.slice xo k xc) := block_cell hB6 rfl
             have HX6 := Lib.hid (And.intro hown6 (And.intro hgr6 hat6))
             clear hown6 hgr6 hat6 hlt6 hB6))
        all_goals
          go_wp2_with fail
          go_roundw
          case rel =>
            have hx := HX6.out
            refine ⟨k + 1, _, cs1 ++ [[.int .i64 o1, .slice ra3 rb3 rc3, .int .i64 mn3, .int .i64 mx3, .bool lz3, .bool false, .slice sa3 sb3 sc3]], by go_num, by omega, by omega, Lib.hid (HZ.out ▸ HT2.out.push HR2.out rfl (by have := block_lt HT.out.xi.blk; simpa using this) (fun g hg => by have := (HT.out.xi.own.lt g hg).2; simpa using this) ((Mod.refl _ w2).alloc _) hx.2.1 (by rw [HCL.out]; exact hx.1) ?_)⟩
            rcases hx.2.2 with h | h
            · exact Or.inl h.symm
            · exact Or.inr fun g hg => by simp [Value.ownBlock] at hg h; omega
          case measure => simp [intOf]; omega
        --S>
      · have hkm : (k < sl ∧ ¬ k < M) ∨ ¬ k < sl := by omega
        have hed := HED.out.1
        have hte : (r.subs.take M).map (ex d) = ts := by
          rw [hts]
          rcases Nat.lt_or_ge k M with h | h
          · rw [List.take_of_length_le (by have := HSLR.out; omega), List.take_of_length_le (by have := HSLR.out; omega)]
          · have : k = M := by omega
            rw [this]
        rw [hte] at hed
        have htl : ts.length ≤ 1000 := by rw [← hte]; simp; omega
        have HLI := Lib.hid hXJ
        have HLT := Lib.hid (And.intro hed htl)
        clear hXJ hed htl hte hts HI hcl1
        by_cases hkr : k < sl
        case' pos => have q2 : ¬ k < M := by omega
        case' neg => have q2 : True := trivial
        all_goals
          clear hkm hlt
          have p0 : wr.cell? ⟨w.heap.size + 3, 0, none⟩ = some (.int .i64 (o : Int)) := block_cell HLI.out.xi.blk rfl
          go_upto_if 114 with (fail)
          go_cut [] (fun wx => Hid (∃ sv' mn' mx', GJ d r o sv' mn' mx' w wx))
          case first =>
            as_aux_lemma =>
              by_cases ho17 : o = 17
              · have t17 : ((o : Int) == 17) = true := by rw [beq_iff_eq]; omega
                obtain ⟨a, ha⟩ : ∃ a, a = atP r.mn 4 := ⟨_, rfl⟩
                obtain ⟨b, hb⟩ : ∃ b, b = atP r.mx 3 := ⟨_, rfl⟩
                have ha4 : a < 4 := by rw [ha]; exact atP_lt _ _ (by omega)
                have hb3 : b < 3 := by rw [hb]; exact atP_lt _ _ (by omega)
                have hca := fun W => at_any r.mn 4 W (by omega) (by omega)
                have hcb := fun W => at_any r.mx 3 W (by omega) (by omega)
                rw [← ha] at hca
                rw [← hb] at hcb
                have HCA := Lib.hid hca
                have HCB := Lib.hid hcb
                have hX3 := (HLI.out.set 2 (.int .i64 (a : Int)) (a : Int) 0 rfl).set 3 (.int .i64 (-1)) (a : Int) (-1) rfl
                have hed := HLT.out.1
                rw [if_pos ho17, if_pos ho17, ← ha] at hed
                have hmp : mxP r.mn r.mx = if 0 ≤ r.mx then max 1 ((a : Int) + (b : Int)) else -1 := by unfold mxP; rw [← ha, ← hb]
                rw [hmp] at hed
                have z2 : wr.cell? ⟨w.heap.size, 2, none⟩ = some (.int .i64 r.mn) := block_cell HLI.out.raw rfl
                obtain ⟨⟨p0', p1, p2, p3, p4, p5, p6⟩, u0, u1, u2, u3, u4, u5, u6⟩ := cells7 HLI.out.xi.blk
                have z3 := block_cell (i := 3) hX3.raw rfl
                obtain ⟨⟨x0, x1, x2, x3, x4, x5, x6⟩, v0, v1, v2, v3, v4, v5, v6⟩ := cells7 hX3.xi.blk
                have HX3 := Lib.hid hX3
                have HE := Lib.hid hed
                have ho256 : o < 256 := by omega
                clear hca hcb ha hb hX3 hed hmp ho17
                by_cases hr0 : 0 ≤ r.mx
                · have hw1 : IntKind.i64.wrap ((a : Int) + (b : Int)) = (a : Int) + (b : Int) := IntWalk.i64_in _ (by omega)
                  have hedm := HE.out
                  rw [if_pos hr0] at hedm
                  have HE2 := Lib.hid hedm
                  clear hedm
                  go_wp2_with fail
                  refine (HCA.out _).mono ?_
                  rintro e w1 ⟨rfl, rfl⟩
                  go_wp2_with fail
                  go_region_with (first | (go_at_call 31; refine (HCB.out _).mono ?_; rintro e w1 ⟨rfl, rfl⟩))
                  all_goals
                    go_wp2_with fail
                    go_meet
                    exact Lib.hid ⟨_, _, _, GJ.of (r := r) ((HX3.out.set 3 (.int .i64 (max 1 ((a : Int) + (b : Int)))) (a : Int) (max 1 ((a : Int) + (b : Int))) rfl).below ((Below.refl _ _).drew)) ho256 HLT.out.2 HE2.out⟩
                · have HR0 := Lib.hid hr0
                  go_wp2_with fail
                  refine (HCA.out _).mono ?_
                  rintro e w1 ⟨rfl, rfl⟩
                  go_wp2_with fail
                  go_meet
                  exact Lib.hid ⟨_, _, _, GJ.of (r := r) HX3.out ho256 HLT.out.2 (by rw [HE.out, if_neg (show ¬ 0 ≤ r.mx by have := HR0.out; omega)])⟩
              · have t17 : ((o : Int) == 17) = false := beq_eq_false_iff_ne.2 (by omega)
                have hgj := GJ.of (r := r) HLI.out (by omega) HLT.out.2 (by rw [HLT.out.1, if_neg ho17, if_neg ho17])
                have HGJ := Lib.hid hgj
                clear hgj ho17
                go_wp2_with fail
                go_meet
                exact Lib.hid ⟨_, _, _, HGJ.out⟩
          obtain ⟨sv', mn', mx', hgj⟩ := hcut.out
          obtain ⟨va, vn, vc, rfl⟩ := hgj.fm
          obtain ⟨⟨y0, y1, y2, y3, y4, y5, y6⟩, _⟩ := cells7 hgj.blk
          obtain ⟨⟨e0, e1, e2, e3, e4, e5, e6⟩, g0, g1, g2, g3, g4, g5, g6⟩ := cells7 hgj.res
          have hf := done7 (d := d) (r := r) (w := w) (o := o) rfl rfl hgj.res hgj.ok hgj.bl rfl
          obtain ⟨HZ, HX⟩ := And.intro (Lib.hid hf.1) (Lib.hid hf.2)
          clear hf hgj hcut
          go_wp2_with fail
          try simp only [Exit.inBlock, Exit.then]
          refine bodyPost_ret (results_cell_row rfl _ _ (w.heap.size + 1) 35 _ (0, 0) _ rfl HZ.out Tryd.underlying35 rfl (by kernel_rfl)) rfl ?_
          exact HX.out
/-- spec.Expression: what it makes. -/
theorem expr_any : ∀ (d : Nat), d ≤ 1000 → 0 < d → ∀ (n : Nat) (r : Rw) (cs : List Value) (w : World), RwV w n r cs → Calls Tryd.prog 16 #[.agg cs.toArray, .int .i64 (d : Int)] w (XPost d r w) := by
  intro d
  induction d with
  | zero => intro _ h; omega
  | succ d ih => intro h9 _ n r cs w h; exact expr_step d (by omega) (fun hd => ih (by omega) hd) n r cs w h
end Go.Proofs.YtnpchkohfomagaaDoor.Rgy
