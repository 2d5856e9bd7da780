/- impl.tree: its walk. -/
import Derived.Test.YtnpchkohfomagaaDoorRgXa
namespace Go.Proofs.YtnpchkohfomagaaDoor.Rgw
open Go.ChangeShapes Go.WideShapes Go.ChangeAt Go.RowKit Go.Trav Go.Rg Go.Proofs.YtnpchkohfomagaaDoor.Seq Go.Utf Go.Proofs.YtnpchkohfomagaaDoor.Sparse
set_option linter.unusedVariables false
set_option linter.unusedSimpArgs false
set_option maxRecDepth 100000
theorem info_i32 : (Tryd.prog.info? 21).map (fun i => (i.zero, i.size, i.bytes)) = some (some (.int .i32 0), 1, 4) := by kernel_rfl
theorem info_pre : (Tryd.prog.info? 69).map (fun i => (i.zero, i.size, i.bytes)) = some (some (.pointer none), 1, 8) := by kernel_rfl
theorem AstIn.lt {w : World} {R : Nat → Prop} : ∀ (d : Nat) (t : Tr) (b : Nat), AstIn w R d t b → AstIn w (fun g => R g ∧ g < w.heap.size) d t b := by
  intro d
  induction d with
  | zero => intro t b h; exact h
  | succ d ih =>
    rintro t b ⟨hb, sv, s0, rv, r0, r1, cp, nm, h1, h2, bs, h3, h4, h5, h6, h7⟩
    exact ⟨⟨hb, block_lt h1⟩, sv, s0, rv, r0, r1, cp, nm, h1, ⟨h2.1, fun g hg => ⟨h2.2 g hg, by obtain ⟨T, _, hT⟩ := h2.1.off g hg; exact ty_lt hT⟩⟩, bs, h3, h4, fun g hg => ⟨(h5 g hg).1, (h5 g hg).2, by obtain ⟨T, _, hT⟩ := (h5 g hg).1; exact ty_lt hT⟩, fun i b' s hb hs => ih s b' (h6 i b' s hb hs), h7⟩
/-- The node's block. -/
def reC (fl : Int) (t : Tr) (rv sv : Value) : Array Value := #[.int .u8 (t.op : Int), .int .u16 fl, sv, .pointer none, rv, .int .i32 0, .int .i32 0, .int .i64 t.mn, .int .i64 t.mx, .int .i64 0, .string ⟨#[]⟩]
/-- Behind k parts. -/
structure TI (w : World) (b : Nat) (rv sv : Value) (bs : List Nat) (fl : Int) (d : Nat) (t : Tr) (k : Nat) (wr : World) : Prop where
  blk : wr.heap[b]? = some (.cells (reC fl t rv sv) 77 (0, 0))
  len : bs.length = k
  own : wr.ownsRow (b + 1) 69 1 sv k (bs.map ptr)
  old : ∀ (i : Nat) b' s, bs[i]? = some b' → t.subs[i]? = some s → AstIn wr (fun g => b < g ∧ sv.ownBlock ≠ some g) d s b'
  rr : RR wr rv t.runes
  rn : ∀ g, rv.ownBlock = some g → w.heap.size ≤ g ∧ g < b
  bl : Below w.heap.size w wr
  le : w.heap.size < b
theorem TI.fin {w wr : World} {b : Nat} {rv sv : Value} {bs : List Nat} {d : Nat} {t : Tr} (h : TI w b rv sv bs (flg t) d t t.subs.length wr) : AstIn wr (fun g => w.heap.size ≤ g) (d + 1) t b := by
  have hle := h.le
  refine ⟨by omega, sv, .pointer none, rv, .int .i32 0, .int .i32 0, .int .i64 0, .string ⟨#[]⟩, h.blk, ⟨h.rr, fun g hg => (h.rn g hg).1⟩, bs, h.len, ?_, fun g hg => ⟨⟨69, by decide, ty_own h.own hg⟩, ?_⟩, fun i b' s hb hs => AstIn.wide (fun g hg => ?_) d s b' (h.old i b' s hb hs), rfl, 0, 0, rfl, rfl⟩
  · rw [h.len]; exact reads_of_owns h.own
  · have := (h.own.lt g hg).1; omega
  · have := hg.1; omega
theorem TI.below {w wr w2 : World} {b : Nat} {rv sv : Value} {bs : List Nat} {fl : Int} {d : Nat} {t : Tr} {k : Nat} (h : TI w b rv sv bs fl d t k wr) (hb : Below wr.heap.size wr w2) : TI w b rv sv bs fl d t k w2 := by
  have m : Mod (fun _ => False) wr w2 := Mod.of_below hb
  exact ⟨m.heap h.blk (fun h => h), h.len, ownsRow_mod h.own m fun _ _ h => h, fun i b' s hb hs => AstIn.mod m (fun _ _ h => h) d s b' (h.old i b' s hb hs), h.rr.below hb, h.rn, h.bl.trans (hb.mono h.bl.size), h.le⟩
theorem TI.flag {w wr : World} {b : Nat} {rv sv : Value} {bs : List Nat} {fl : Int} {d : Nat} {t : Tr} (h : TI w b rv sv bs fl d t 0 wr) (f : Int) : TI w b rv sv bs f d t 0 (wr.setCell ⟨b, 1, none⟩ (.int .u16 f)) := by
  have hle := h.le
  have m : Mod (fun z => z = b) wr (wr.setCell ⟨b, 1, none⟩ (.int .u16 f)) := Mod.setCell (F := fun z => z = b) (Mod.refl _ wr) (p := ⟨b, 1, none⟩) (fun _ => rfl) _
  have hnb : some b ≠ sv.ownBlock := fun e => by have := (h.own.lt b e.symm).1; omega
  have hrn : ∀ g, rv.ownBlock = some g → ¬ g = b := fun g hg => by have := (h.rn g hg).2; omega
  obtain rfl : bs = [] := List.eq_nil_of_length_eq_zero h.len
  refine ⟨?_, rfl, ownsRow_setCell_ne h.own hnb _, fun i b' s hb => by simp at hb, ⟨h.rr.rd.mod m hrn, fun g hg => ?_⟩, h.rn, h.bl.trans (m.toBelow h.bl.size fun g _ hg => by omega), h.le⟩
  · rw [block_set h.blk]; rfl
  · obtain ⟨T, k1, k2⟩ := h.rr.off g hg
    exact ⟨T, k1, ty_mod k2 m (hrn g hg)⟩
theorem TI.push {w w2 W w6 : World} {b b' c : Nat} {rv sv v6 : Value} {bs : List Nat} {fl : Int} {d : Nat} {t s : Tr} {k : Nat} (h : TI w b rv sv bs fl d t k w2) (hs : t.subs[k]? = some s) (hA : AstIn w2 (fun g => c ≤ g) d s b') (hc1 : b < c) (hc2 : ∀ g, sv.ownBlock = some g → g < c)
    (hW : Mod (fun _ => False) w2 W) (hgr : W.grownBy w6 sv.ownBlock) (hown6 : w6.ownsRow (b + 1) 69 1 v6 (k + 1) (bs.map ptr ++ [ptr b'])) (hat : v6.ownBlock = sv.ownBlock ∨ ∀ g, v6.ownBlock = some g → w2.heap.size ≤ g) : TI w b rv v6 (bs ++ [b']) fl d t (k + 1) (w6.setCell ⟨b, 2, none⟩ v6) := by
  have hle := h.le
  have hnb : sv.ownBlock ≠ some b := fun e => by have := (h.own.lt b e).1; omega
  have hnb6 : some b ≠ v6.ownBlock := fun e => by have := (hown6.lt b e.symm).1; omega
  have m1 : Mod (fun z => sv.ownBlock = some z) w2 w6 := (hW.mono fun _ _ h => h.elim).grown hgr fun k hk _ => hk
  have m2 : Mod (fun z => z = b) w6 (w6.setCell ⟨b, 2, none⟩ v6) := Mod.setCell (F := fun z => z = b) (Mod.refl _ w6) (p := ⟨b, 2, none⟩) (fun _ => rfl) _
  have m : Mod (fun z => sv.ownBlock = some z ∨ z = b) w2 (w6.setCell ⟨b, 2, none⟩ v6) := (m1.mono fun _ _ h => Or.inl h).trans (m2.mono fun _ _ h => Or.inr h)
  have hrn : ∀ g, rv.ownBlock = some g → ¬ (sv.ownBlock = some g ∨ g = b) := fun g hg => by
    have h1 := h.rn g hg
    rintro (h2 | h2)
    · have := (h.own.lt g h2).1; omega
    · omega
  have hold : ∀ (x : Tr) (y : Nat), AstIn w2 (fun g => b < g ∧ sv.ownBlock ≠ some g) d x y → AstIn (w6.setCell ⟨b, 2, none⟩ v6) (fun g => b < g ∧ v6.ownBlock ≠ some g) d x y := fun x y hx => by
    have q1 := AstIn.mod (R := fun g => (b < g ∧ sv.ownBlock ≠ some g) ∧ g < w2.heap.size) m (fun g hg hF => by
      rcases hF with hF | hF
      · exact hg.1.2 hF
      · omega) d x y (AstIn.lt d x y hx)
    refine AstIn.wide (R := fun g => (b < g ∧ sv.ownBlock ≠ some g) ∧ g < w2.heap.size) (fun g hg => ⟨hg.1.1, fun e => ?_⟩) d x y q1
    rcases hat with hat | hat
    · exact hg.1.2 (hat ▸ e)
    · have := hat g e; omega
  refine ⟨?_, by simp [h.len], ?_, ?_, ⟨h.rr.rd.mod m hrn, fun g hg => ?_⟩, h.rn, h.bl.trans (m.toBelow h.bl.size fun g _ hg => ?_), h.le⟩
  · rw [block_set (m1.heap h.blk hnb)]; rfl
  · rw [List.map_append]; exact ownsRow_setCell_ne hown6 hnb6 _
  · intro i y x hy hx
    by_cases hi : i < k
    · rw [List.getElem?_append_left (by rw [h.len]; exact hi)] at hy
      exact hold x y (h.old i y x hy hx)
    · have hl := (List.getElem?_eq_some_iff.1 hy).1
      obtain rfl : i = k := by simp [h.len] at hl; omega
      rw [List.getElem?_append_right (by rw [h.len]; exact Nat.le_refl _)] at hy
      simp [h.len] at hy
      subst hy
      rw [hs] at hx; cases hx
      exact hold s b' (AstIn.wide (fun g hg => ⟨by omega, fun e => by have := hc2 g e; omega⟩) d s b' hA)
  · obtain ⟨T, k1, k2⟩ := h.rr.off g hg
    exact ⟨T, k1, ty_mod k2 m (hrn g hg)⟩
  · rcases hg with hg | hg
    · have := (h.own.lt g hg).1; omega
    · omega
theorem RxV.form {w : World} {d : Nat} {t : Tr} {cs : List Value} (h : RxV w d t cs) : ∃ (o : Int) (rv : Value) (mn mx : Int) (lz : Bool) (sv : Value), cs = [.int .i64 o, rv, .int .i64 mn, .int .i64 mx, .bool lz, .bool false, sv] ∧ (∃ a b c, rv = .slice a b c) ∧ ∃ a b c, sv = .slice a b c := by
  cases d with
  | zero => exact h.elim
  | succ d =>
    obtain ⟨rv, sv, css, rfl, _, h2, _, h4, _⟩ := h
    obtain ⟨a, c, rfl⟩ := h2.form
    obtain ⟨a', c', rfl⟩ := h4.form
    exact ⟨_, _, _, _, _, _, rfl, ⟨_, _, _, rfl⟩, _, _, _, rfl⟩
theorem row7 {w : World} {a : Option Addr} {cap : Nat} {css : List (List Value)} (hS : Reads w (.slice a css.length cap) css.length 7 css.flatten) (h7 : ∀ c ∈ css, c.length = 7) {k : Nat} {c : List Value} (hc : css[k]? = some c) :
    ∃ sb so, a = some ⟨sb, so, none⟩ ∧ ∀ j u, c[j]? = some u → w.cell? ⟨sb, so + k * 7 + j, none⟩ = some u := by
  obtain ⟨ao, cap', e, h1, h2, h3, h4, h5⟩ := hS
  have hk := (List.getElem?_eq_some_iff.1 hc).1
  have hlc := h7 c (List.mem_of_getElem? hc)
  obtain ⟨b, off, e1, e2⟩ := h5 (by rw [h4]; omega)
  have ea : a = ao := by injection e
  refine ⟨b, off, by rw [ea, e1], fun j u hu => ?_⟩
  have hj := (List.getElem?_eq_some_iff.1 hu).1
  rw [Nat.add_assoc]
  refine e2 _ _ ?_
  rw [(at_bound (by omega) h7 (k := k * 7 + j) (by rw [h4]; omega)).2, show (k * 7 + j) / 7 = k by omega, show (k * 7 + j) % 7 = j by omega, hc]
  exact hu
set_option maxHeartbeats 8000000 in
theorem tree_step (d : Nat) (ih : ∀ (t : Tr) (cs : List Value) (w : World), RxV w d t cs → Calls Tryd.prog 43 #[.agg cs.toArray] w fun e w' => ∃ b, e = .returned (ptr b) ∧ Below w.heap.size w w' ∧ AstIn w' (fun g => w.heap.size ≤ g) d t b)
    (t : Tr) (rv sv : Value) (css : List (List Value)) (w : World) (hop : t.op < 256) (hrl : t.runes.length ≤ 1000) (hsl : css.length ≤ 1000) (hR : Reads w rv t.runes.length 1 (t.runes.map rV)) (hcl : css.length = t.subs.length) (hS : Reads w sv css.length 7 css.flatten) (h7 : ∀ c ∈ css, c.length = 7)
    (hsub : ∀ (i : Nat) c s, css[i]? = some c → t.subs[i]? = some s → RxV w d s c) :
    Calls Tryd.prog 43 #[.agg #[.int .i64 (t.op : Int), rv, .int .i64 t.mn, .int .i64 t.mx, .bool t.lazy, .bool false, sv]] w fun e w' => ∃ b, e = .returned (ptr b) ∧ Below w.heap.size w w' ∧ AstIn w' (fun g => w.heap.size ≤ g) (d + 1) t b := by
  obtain ⟨ra, rc, rfl⟩ := hR.form
  obtain ⟨sa, sc, rfl⟩ := hS.form
  have hwop : IntKind.u8.wrap (t.op : Int) = (t.op : Int) := by rw [IntKind.wrap_u8]; omega
  obtain ⟨i0, hi0, hz0, hz1, hz2⟩ := info_parts info_i32
  have hnews : ∀ u ∈ t.runes.map rV, u.oneCell' = true := by intro u hu; obtain ⟨x, _, rfl⟩ := List.mem_map.1 hu; rfl
  have HS := Lib.hid hS
  have HN := Lib.hid hnews
  have HSUB := Lib.hid (And.intro h7 hsub)
  have HB := Lib.hid (And.intro hop (And.intro hrl (And.intro hsl hcl)))
  have HR := Lib.hid hR
  cases hlz : t.lazy with
  | false =>
    clear hS hnews h7 hsub hop hrl hsl hcl hR
    go_enter Tryd.func43, Tryd.ntmps43
    go_wp2_with fail
    obtain ⟨W0, hW0⟩ : ∃ W0, W0 = w.alloc (.cells #[.int .i64 (t.op : Int), .slice ra t.runes.length rc, .int .i64 t.mn, .int .i64 t.mx, .bool false, .bool false, .slice sa css.length sc] 35) := ⟨_, rfl⟩
    have hblk : W0.heap[w.heap.size]? = some (.cells #[.int .i64 (t.op : Int), .slice ra t.runes.length rc, .int .i64 t.mn, .int .i64 t.mx, .bool false, .bool false, .slice sa css.length sc] 35 (0, 0)) := by rw [hW0]; exact heap_alloc_new w _
    have hsz0 : W0.heap.size = w.heap.size + 1 := by rw [hW0]; simp
    have hbl0 : Below w.heap.size w W0 := by rw [hW0]; exact (Below.refl _ _).alloc (Nat.le_refl _) _
    have k0 : W0.cell? ⟨w.heap.size, 0, none⟩ = some (.int .i64 (t.op : Int)) := block_cell hblk rfl
    have k1 : W0.cell? ⟨w.heap.size, 1, none⟩ = some (.slice ra t.runes.length rc) := block_cell hblk rfl
    have k2 : W0.cell? ⟨w.heap.size, 2, none⟩ = some (.int .i64 t.mn) := block_cell hblk rfl
    have k3 : W0.cell? ⟨w.heap.size, 3, none⟩ = some (.int .i64 t.mx) := block_cell hblk rfl
    rw [← hW0]
    have HBL0 := Lib.hid hbl0
    have HBK := Lib.hid hblk
    have hown0 : ((W0.alloc (.cells #[] 21)).drew).ownsRow (w.heap.size + 1) 21 1 (.slice (some ⟨w.heap.size + 1, 0, none⟩) 0 0) 0 [] := by
      have h := (owns_new W0 21 1 (w.heap.size + 1) (by omega)).drew
      rw [hsz0] at h; exact h
    have HO0 := Lib.hid hown0
    clear hW0 hblk hbl0 hown0
    go_region_held3 (fun w' => w'.cell? ⟨w.heap.size, 0, none⟩ = some (.int .i64 (t.op : Int)) ∧ w'.cell? ⟨w.heap.size, 1, none⟩ = some (.slice ra t.runes.length rc) ∧ w'.cell? ⟨w.heap.size, 2, none⟩ = some (.int .i64 t.mn) ∧ w'.cell? ⟨w.heap.size, 3, none⟩ = some (.int .i64 t.mx))
      (first
        | go_keep
        | (go_split_ands
           refine ⟨?_, ?_, ?_, ?_⟩ <;> (rw [hgrow.cell_far _ (by simp; omega) (by simp [Value.ownBlock] <;> omega)]; assumption)))
      ((refine step_append_reads (by rfl) _ _ _ (by rfl) (w.heap.size + 1) 21 i0 _ 1 4 Tryd.underlying32 hi0 hz0 hz1 hz2 rfl (by omega) (.slice (some ⟨w.heap.size + 1, 0, none⟩) 0 0) 0 [] (by rfl) HO0.out (.slice ra t.runes.length rc) t.runes.length (t.runes.map rV) (by rfl) (((HR.out.below HBL0.out).alloc _).drewN 1) HN.out (by have := HB.out.2.1; unfold maxLen; omega) (by have := HB.out.2.1; omega) (by simp; omega) ?_; intro ao1 cap1 w1 hown1 hgrow hat1))
    obtain ⟨b, hb⟩ : ∃ b, b = w1.heap.size := ⟨_, rfl⟩
    have hbelow : Below w.heap.size w w1 := ((HBL0.out.alloc (by omega) _).drew).grown hgrow (by simp; omega) (fun g hg => by simp [Value.ownBlock] at hg; omega)
    have hbx : w1.heap[w.heap.size]? = some (.cells #[.int .i64 (t.op : Int), .slice ra t.runes.length rc, .int .i64 t.mn, .int .i64 t.mx, .bool false, .bool false, .slice sa css.length sc] 35 (0, 0)) := (hgrow.block w.heap.size (by simp; omega) (fun e => by simp [Value.ownBlock] at e)).trans (block_alloc HBK.out)
    have hlb : w.heap.size < b := by rw [hb]; exact block_lt hbx
    have hown1' : w1.ownsRow (w.heap.size + 1) 21 1 (.slice ao1 t.runes.length cap1) t.runes.length (t.runes.map rV) := by simpa using hown1
    have hTI : TI w b (.slice ao1 t.runes.length cap1) (.slice none 0 0) [] 0 d t 0 (w1.alloc (.cells (reC 0 t (.slice ao1 t.runes.length cap1) (.slice none 0 0)) 77)) := by
      refine ⟨by rw [hb]; exact heap_alloc_new w1 _, rfl, World.ownsRow_nil _ _ _ _, fun i b' s h => by simp at h, ⟨(reads_of_owns hown1').alloc _, fun g hg => ⟨21, by decide, ?_⟩⟩, fun g hg => ?_, hbelow.alloc hbelow.size _, hlb⟩
      · exact ty_mod (F := fun _ => False) (ty_own hown1' hg) ((Mod.refl _ w1).alloc _) (fun h => h)
      · have := hown1'.lt g hg; omega
    obtain ⟨W2, hW2⟩ : ∃ W2, W2 = w1.alloc (.cells #[.int .u8 (t.op : Int), .int .u16 0, .slice none 0 0, .pointer none, .slice ao1 t.runes.length cap1, .int .i32 0, .int .i32 0, .int .i64 t.mn, .int .i64 t.mx, .int .i64 0, .string ⟨#[]⟩] 77) := ⟨_, rfl⟩
    have hTI2 : TI w b (.slice ao1 t.runes.length cap1) (.slice none 0 0) [] 0 d t 0 W2 := by rw [hW2]; exact hTI
    have hbx2 : W2.heap[w.heap.size]? = some (.cells #[.int .i64 (t.op : Int), .slice ra t.runes.length rc, .int .i64 t.mn, .int .i64 t.mx, .bool false, .bool false, .slice sa css.length sc] 35 (0, 0)) := by rw [hW2]; exact block_alloc hbx
    rw [← hW2, ← hb]
    have k4 : W2.cell? ⟨w.heap.size, 4, none⟩ = some (.bool false) := block_cell hbx2 rfl
    have k5 : W2.cell? ⟨w.heap.size, 5, none⟩ = some (.bool false) := block_cell hbx2 rfl
    have k6 : W2.cell? ⟨w.heap.size, 6, none⟩ = some (.slice sa css.length sc) := block_cell hbx2 rfl
    have HT0 := Lib.hid (And.intro hTI2 hbx2)
    clear hTI hTI2 hbx hbx2 hown1' hown1 hgrow hat1 hbelow hW2 hb k0 k1 k2 k3
    go_wp2_with fail
    have hcl9 : css.length ≤ 1000 := HB.out.2.2.1
    go_loopw [5, 40] (fun _ ix wr => ∃ (k : Nat) (sv1 : Value) (bs : List Nat), ix = .int .i64 k ∧ k ≤ css.length ∧ Hid (TI w b (.slice ao1 t.runes.length cap1) sv1 bs 0 d t k wr)) (fun _ ix _ => css.length - (intOf ix).toNat)
    case atStart => exact ⟨0, _, [], rfl, Nat.zero_le _, Lib.hid HT0.out.1⟩
    case round =>
      obtain ⟨k, sv1, bs, rfl, hk, HI⟩ := hrel
      by_cases hlt : k < css.length
      · obtain ⟨c, hc⟩ : ∃ c, css[k]? = some c := ⟨_, List.getElem?_eq_getElem hlt⟩
        obtain ⟨s, hs⟩ : ∃ s, t.subs[k]? = some s := ⟨_, List.getElem?_eq_getElem (by rw [← HB.out.2.2.2]; exact hlt)⟩
        have hxw : RxV w d s c := HSUB.out.2 k c s hc hs
        obtain ⟨o1, rv1, mn1, mx1, lz1, sv2, rfl, ⟨ra1, rb1, rc1, rfl⟩, sa1, sb1, sc1, rfl⟩ := hxw.form
        obtain ⟨sb, so, rfl, hcells⟩ := row7 (HS.out.below HI.out.bl) HSUB.out.1 hc
        have q0 := hcells 0 _ rfl
        rw [Nat.add_zero] at q0
        have q1 := hcells 1 _ rfl
        have q2 := hcells 2 _ rfl
        have q3 := hcells 3 _ rfl
        have q4 := hcells 4 _ rfl
        have q5 := hcells 5 _ rfl
        have q6 := hcells 6 _ rfl
        have hTI := HI.out
        obtain ⟨xo, xc, rfl⟩ := ownsRow_form hTI.own
        have al : ∀ oo, (wr.alloc oo).cell? ⟨b, 2, none⟩ = some (.slice xo k xc) := fun oo => block_cell (block_alloc hTI.blk) rfl
        obtain ⟨X, hX⟩ : ∃ X : Obj, X = .cells #[.int .i64 o1, .slice ra1 rb1 rc1, .int .i64 mn1, .int .i64 mx1, .bool lz1, .bool false, .slice sa1 sb1 sc1] 35 (0, 0) := ⟨_, rfl⟩
        have hbz : Below wr.heap.size wr (wr.alloc X).drew := ((Below.refl _ _).alloc (Nat.le_refl _) _).drew
        have hxz : RxV (wr.alloc X).drew d s _ := RxV.below (hTI.bl.trans (hbz.mono hTI.bl.size)) d s _ hxw
        have hcall := ih s _ _ hxz
        have hTZ := hTI.below hbz
        have hszz : (wr.alloc X).drew.heap.size = wr.heap.size + 1 := by simp
        have hbw : b < wr.heap.size := block_lt hTI.blk
        have hc2 : ∀ g, (Value.slice xo k xc).ownBlock = some g → g < wr.heap.size + 1 := fun g hg => by have := (hTI.own.lt g hg).2; omega
        obtain ⟨i1, hi1, hy0, hy1, hy2⟩ := info_parts info_pre
        rw [hX] at hcall hTZ hszz
        have HCALL := Lib.hid hcall
        have HTZ := Lib.hid hTZ
        have HSZ := Lib.hid hszz
        have HS2 := Lib.hid hs
        have HC2 := Lib.hid hc2
        clear hTI hX hbz hxz hcall hTZ hszz hs hxw hcells hc2 HI
        go_wp2_with fail
        go_region_law (first
          | (go_simp; (with_reducible refine HCALL.out.mono ?_); rintro e w2 ⟨b2, he2, hb2, hA2⟩; obtain rfl : e = .returned (.pointer (some ⟨b2, 0, none⟩)) := he2
             have hT2 := HTZ.out.below hb2
             have u2 : w2.cell? ⟨b, 2, none⟩ = some (.slice xo k xc) := block_cell hT2.blk rfl
             have al2 : ∀ oo, (w2.alloc oo).cell? ⟨b, 2, none⟩ = some (.slice xo k xc) := fun oo => block_cell (block_alloc hT2.blk) rfl
             have HT2 := Lib.hid hT2
             have HA2 := Lib.hid hA2
             clear hb2 hT2 hA2)
          | (refine step_append_lies _ rfl (.tmp 48) (.tmp 51) 73 rfl (b + 1) 69 i1 (.pointer none) 1 8 Tryd.underlying73 hi1 hy0 hy1 hy2 rfl (by decide) (.slice xo k xc) k (bs.map ptr) (by simp [Act.eval, Act.put]) (HT2.out.own.alloc _) ⟨w2.heap.size, 0, none⟩ 1 1 [ptr b2] (by simp [Act.eval, Act.put]) rfl (World.news_of_block (heap_alloc_new _ _)) (by simp [ptr, Value.oneCell']) (by omega) (by unfold maxLen; omega) (by omega) (by simp; have := block_lt HT2.out.blk; omega) _ rfl ?_
             intro g6 cap6 w6 hown6 hgr6 hat6 hlt6
             have hB6 := (hgr6.block b (by simp; have := block_lt HT2.out.blk; omega) (fun e => by have := (HT2.out.own.lt b e.symm).1; omega)).trans (block_alloc HT2.out.blk)
             have f6 : w6.frozen? ⟨b, 2, none⟩ = false := block_free hB6
             have u6 : w6.cell? ⟨b, 2, none⟩ = some (.slice xo k xc) := block_cell hB6 rfl
             have HX6 := Lib.hid (And.intro hown6 (And.intro hgr6 hat6))
             clear hown6 hgr6 hat6 hlt6 hB6))
        all_goals
          go_wp2_with fail
          go_roundw
          case rel =>
            have hx := HX6.out
            refine ⟨k + 1, _, bs ++ [b2], by go_num, by omega, Lib.hid (HT2.out.push HS2.out HA2.out (by have := HSZ.out; omega) (fun g hg => by have := HC2.out g hg; have := HSZ.out; omega) ((Mod.refl _ w2).alloc _) hx.2.1 hx.1 ?_)⟩
            rcases hx.2.2 with h | h
            · exact Or.inl h.symm
            · exact Or.inr fun g hg => by simp [Value.ownBlock] at hg h; omega
          case measure => simp [intOf]; omega
      · obtain rfl : k = css.length := by omega
        go_wp2_with fail
        go_ret
        exact ⟨b, rfl, HI.out.bl, TI.fin (by rw [← HB.out.2.2.2]; simpa [flg, hlz] using HI.out)⟩
  | true =>
    clear hS hnews h7 hsub hop hrl hsl hcl hR
    have hbits : bits BinOp.or IntKind.u16 0 32 = 32 := by decide
    go_enter Tryd.func43, Tryd.ntmps43
    go_wp2_with fail
    obtain ⟨W0, hW0⟩ : ∃ W0, W0 = w.alloc (.cells #[.int .i64 (t.op : Int), .slice ra t.runes.length rc, .int .i64 t.mn, .int .i64 t.mx, .bool true, .bool false, .slice sa css.length sc] 35) := ⟨_, rfl⟩
    have hblk : W0.heap[w.heap.size]? = some (.cells #[.int .i64 (t.op : Int), .slice ra t.runes.length rc, .int .i64 t.mn, .int .i64 t.mx, .bool true, .bool false, .slice sa css.length sc] 35 (0, 0)) := by rw [hW0]; exact heap_alloc_new w _
    have hsz0 : W0.heap.size = w.heap.size + 1 := by rw [hW0]; simp
    have hbl0 : Below w.heap.size w W0 := by rw [hW0]; exact (Below.refl _ _).alloc (Nat.le_refl _) _
    have k0 : W0.cell? ⟨w.heap.size, 0, none⟩ = some (.int .i64 (t.op : Int)) := block_cell hblk rfl
    have k1 : W0.cell? ⟨w.heap.size, 1, none⟩ = some (.slice ra t.runes.length rc) := block_cell hblk rfl
    have k2 : W0.cell? ⟨w.heap.size, 2, none⟩ = some (.int .i64 t.mn) := block_cell hblk rfl
    have k3 : W0.cell? ⟨w.heap.size, 3, none⟩ = some (.int .i64 t.mx) := block_cell hblk rfl
    rw [← hW0]
    have HBL0 := Lib.hid hbl0
    have HBK := Lib.hid hblk
    have hown0 : ((W0.alloc (.cells #[] 21)).drew).ownsRow (w.heap.size + 1) 21 1 (.slice (some ⟨w.heap.size + 1, 0, none⟩) 0 0) 0 [] := by
      have h := (owns_new W0 21 1 (w.heap.size + 1) (by omega)).drew
      rw [hsz0] at h; exact h
    have HO0 := Lib.hid hown0
    clear hW0 hblk hbl0 hown0
    go_region_held3 (fun w' => w'.cell? ⟨w.heap.size, 0, none⟩ = some (.int .i64 (t.op : Int)) ∧ w'.cell? ⟨w.heap.size, 1, none⟩ = some (.slice ra t.runes.length rc) ∧ w'.cell? ⟨w.heap.size, 2, none⟩ = some (.int .i64 t.mn) ∧ w'.cell? ⟨w.heap.size, 3, none⟩ = some (.int .i64 t.mx))
      (first
        | go_keep
        | (go_split_ands
           refine ⟨?_, ?_, ?_, ?_⟩ <;> (rw [hgrow.cell_far _ (by simp; omega) (by simp [Value.ownBlock] <;> omega)]; assumption)))
      ((refine step_append_reads (by rfl) _ _ _ (by rfl) (w.heap.size + 1) 21 i0 _ 1 4 Tryd.underlying32 hi0 hz0 hz1 hz2 rfl (by omega) (.slice (some ⟨w.heap.size + 1, 0, none⟩) 0 0) 0 [] (by rfl) HO0.out (.slice ra t.runes.length rc) t.runes.length (t.runes.map rV) (by rfl) (((HR.out.below HBL0.out).alloc _).drewN 1) HN.out (by have := HB.out.2.1; unfold maxLen; omega) (by have := HB.out.2.1; omega) (by simp; omega) ?_; intro ao1 cap1 w1 hown1 hgrow hat1))
    obtain ⟨b, hb⟩ : ∃ b, b = w1.heap.size := ⟨_, rfl⟩
    have hbelow : Below w.heap.size w w1 := ((HBL0.out.alloc (by omega) _).drew).grown hgrow (by simp; omega) (fun g hg => by simp [Value.ownBlock] at hg; omega)
    have hbx : w1.heap[w.heap.size]? = some (.cells #[.int .i64 (t.op : Int), .slice ra t.runes.length rc, .int .i64 t.mn, .int .i64 t.mx, .bool true, .bool false, .slice sa css.length sc] 35 (0, 0)) := (hgrow.block w.heap.size (by simp; omega) (fun e => by simp [Value.ownBlock] at e)).trans (block_alloc HBK.out)
    have hlb : w.heap.size < b := by rw [hb]; exact block_lt hbx
    have hown1' : w1.ownsRow (w.heap.size + 1) 21 1 (.slice ao1 t.runes.length cap1) t.runes.length (t.runes.map rV) := by simpa using hown1
    have hTI : TI w b (.slice ao1 t.runes.length cap1) (.slice none 0 0) [] 0 d t 0 (w1.alloc (.cells (reC 0 t (.slice ao1 t.runes.length cap1) (.slice none 0 0)) 77)) := by
      refine ⟨by rw [hb]; exact heap_alloc_new w1 _, rfl, World.ownsRow_nil _ _ _ _, fun i b' s h => by simp at h, ⟨(reads_of_owns hown1').alloc _, fun g hg => ⟨21, by decide, ?_⟩⟩, fun g hg => ?_, hbelow.alloc hbelow.size _, hlb⟩
      · exact ty_mod (F := fun _ => False) (ty_own hown1' hg) ((Mod.refl _ w1).alloc _) (fun h => h)
      · have := hown1'.lt g hg; omega
    obtain ⟨W2, hW2⟩ : ∃ W2, W2 = w1.alloc (.cells #[.int .u8 (t.op : Int), .int .u16 0, .slice none 0 0, .pointer none, .slice ao1 t.runes.length cap1, .int .i32 0, .int .i32 0, .int .i64 t.mn, .int .i64 t.mx, .int .i64 0, .string ⟨#[]⟩] 77) := ⟨_, rfl⟩
    have hTI2 : TI w b (.slice ao1 t.runes.length cap1) (.slice none 0 0) [] 0 d t 0 W2 := by rw [hW2]; exact hTI
    have hbx2 : W2.heap[w.heap.size]? = some (.cells #[.int .i64 (t.op : Int), .slice ra t.runes.length rc, .int .i64 t.mn, .int .i64 t.mx, .bool true, .bool false, .slice sa css.length sc] 35 (0, 0)) := by rw [hW2]; exact block_alloc hbx
    rw [← hW2, ← hb]
    have k4 : W2.cell? ⟨w.heap.size, 4, none⟩ = some (.bool true) := block_cell hbx2 rfl
    have k5 : W2.cell? ⟨w.heap.size, 5, none⟩ = some (.bool false) := block_cell hbx2 rfl
    have k6 : W2.cell? ⟨w.heap.size, 6, none⟩ = some (.slice sa css.length sc) := block_cell hbx2 rfl
    have p1 : W2.cell? ⟨b, 1, none⟩ = some (.int .u16 0) := block_cell hTI2.blk rfl
    have p2 : W2.frozen? ⟨b, 1, none⟩ = false := block_free hTI2.blk
    have hbx3 : (W2.setCell ⟨b, 1, none⟩ (.int .u16 32)).heap[w.heap.size]? = some (.cells #[.int .i64 (t.op : Int), .slice ra t.runes.length rc, .int .i64 t.mn, .int .i64 t.mx, .bool true, .bool false, .slice sa css.length sc] 35 (0, 0)) := block_set_ne hbx2 (by show b ≠ _; omega)
    have p5 : (W2.setCell ⟨b, 1, none⟩ (.int .u16 32)).cell? ⟨w.heap.size, 5, none⟩ = some (.bool false) := block_cell hbx3 rfl
    have p6 : (W2.setCell ⟨b, 1, none⟩ (.int .u16 32)).cell? ⟨w.heap.size, 6, none⟩ = some (.slice sa css.length sc) := block_cell hbx3 rfl
    have HT0 := Lib.hid (And.intro (hTI2.flag 32) hbx3)
    clear hTI hTI2 hbx hbx2 hbx3 k5 k6 hown1' hown1 hgrow hat1 hbelow hW2 hb k0 k1 k2 k3
    go_wp2_with fail
    have hcl9 : css.length ≤ 1000 := HB.out.2.2.1
    go_loopw [5, 40] (fun _ ix wr => ∃ (k : Nat) (sv1 : Value) (bs : List Nat), ix = .int .i64 k ∧ k ≤ css.length ∧ Hid (TI w b (.slice ao1 t.runes.length cap1) sv1 bs 32 d t k wr)) (fun _ ix _ => css.length - (intOf ix).toNat)
    case atStart => exact ⟨0, _, [], rfl, Nat.zero_le _, Lib.hid HT0.out.1⟩
    case round =>
      obtain ⟨k, sv1, bs, rfl, hk, HI⟩ := hrel
      by_cases hlt : k < css.length
      · obtain ⟨c, hc⟩ : ∃ c, css[k]? = some c := ⟨_, List.getElem?_eq_getElem hlt⟩
        obtain ⟨s, hs⟩ : ∃ s, t.subs[k]? = some s := ⟨_, List.getElem?_eq_getElem (by rw [← HB.out.2.2.2]; exact hlt)⟩
        have hxw : RxV w d s c := HSUB.out.2 k c s hc hs
        obtain ⟨o1, rv1, mn1, mx1, lz1, sv2, rfl, ⟨ra1, rb1, rc1, rfl⟩, sa1, sb1, sc1, rfl⟩ := hxw.form
        obtain ⟨sb, so, rfl, hcells⟩ := row7 (HS.out.below HI.out.bl) HSUB.out.1 hc
        have q0 := hcells 0 _ rfl
        rw [Nat.add_zero] at q0
        have q1 := hcells 1 _ rfl
        have q2 := hcells 2 _ rfl
        have q3 := hcells 3 _ rfl
        have q4 := hcells 4 _ rfl
        have q5 := hcells 5 _ rfl
        have q6 := hcells 6 _ rfl
        have hTI := HI.out
        obtain ⟨xo, xc, rfl⟩ := ownsRow_form hTI.own
        have al : ∀ oo, (wr.alloc oo).cell? ⟨b, 2, none⟩ = some (.slice xo k xc) := fun oo => block_cell (block_alloc hTI.blk) rfl
        obtain ⟨X, hX⟩ : ∃ X : Obj, X = .cells #[.int .i64 o1, .slice ra1 rb1 rc1, .int .i64 mn1, .int .i64 mx1, .bool lz1, .bool false, .slice sa1 sb1 sc1] 35 (0, 0) := ⟨_, rfl⟩
        have hbz : Below wr.heap.size wr (wr.alloc X).drew := ((Below.refl _ _).alloc (Nat.le_refl _) _).drew
        have hxz : RxV (wr.alloc X).drew d s _ := RxV.below (hTI.bl.trans (hbz.mono hTI.bl.size)) d s _ hxw
        have hcall := ih s _ _ hxz
        have hTZ := hTI.below hbz
        have hszz : (wr.alloc X).drew.heap.size = wr.heap.size + 1 := by simp
        have hbw : b < wr.heap.size := block_lt hTI.blk
        have hc2 : ∀ g, (Value.slice xo k xc).ownBlock = some g → g < wr.heap.size + 1 := fun g hg => by have := (hTI.own.lt g hg).2; omega
        obtain ⟨i1, hi1, hy0, hy1, hy2⟩ := info_parts info_pre
        rw [hX] at hcall hTZ hszz
        have HCALL := Lib.hid hcall
        have HTZ := Lib.hid hTZ
        have HSZ := Lib.hid hszz
        have HS2 := Lib.hid hs
        have HC2 := Lib.hid hc2
        clear hTI hX hbz hxz hcall hTZ hszz hs hxw hcells hc2 HI
        go_wp2_with fail
        go_region_law (first
          | (go_simp; (with_reducible refine HCALL.out.mono ?_); rintro e w2 ⟨b2, he2, hb2, hA2⟩; obtain rfl : e = .returned (.pointer (some ⟨b2, 0, none⟩)) := he2
             have hT2 := HTZ.out.below hb2
             have u2 : w2.cell? ⟨b, 2, none⟩ = some (.slice xo k xc) := block_cell hT2.blk rfl
             have al2 : ∀ oo, (w2.alloc oo).cell? ⟨b, 2, none⟩ = some (.slice xo k xc) := fun oo => block_cell (block_alloc hT2.blk) rfl
             have HT2 := Lib.hid hT2
             have HA2 := Lib.hid hA2
             clear hb2 hT2 hA2)
          | (refine step_append_lies _ rfl (.tmp 48) (.tmp 51) 73 rfl (b + 1) 69 i1 (.pointer none) 1 8 Tryd.underlying73 hi1 hy0 hy1 hy2 rfl (by decide) (.slice xo k xc) k (bs.map ptr) (by simp [Act.eval, Act.put]) (HT2.out.own.alloc _) ⟨w2.heap.size, 0, none⟩ 1 1 [ptr b2] (by simp [Act.eval, Act.put]) rfl (World.news_of_block (heap_alloc_new _ _)) (by simp [ptr, Value.oneCell']) (by omega) (by unfold maxLen; omega) (by omega) (by simp; have := block_lt HT2.out.blk; omega) _ rfl ?_
             intro g6 cap6 w6 hown6 hgr6 hat6 hlt6
             have hB6 := (hgr6.block b (by simp; have := block_lt HT2.out.blk; omega) (fun e => by have := (HT2.out.own.lt b e.symm).1; omega)).trans (block_alloc HT2.out.blk)
             have f6 : w6.frozen? ⟨b, 2, none⟩ = false := block_free hB6
             have u6 : w6.cell? ⟨b, 2, none⟩ = some (.slice xo k xc) := block_cell hB6 rfl
             have HX6 := Lib.hid (And.intro hown6 (And.intro hgr6 hat6))
             clear hown6 hgr6 hat6 hlt6 hB6))
        all_goals
          go_wp2_with fail
          go_roundw
          case rel =>
            have hx := HX6.out
            refine ⟨k + 1, _, bs ++ [b2], by go_num, by omega, Lib.hid (HT2.out.push HS2.out HA2.out (by have := HSZ.out; omega) (fun g hg => by have := HC2.out g hg; have := HSZ.out; omega) ((Mod.refl _ w2).alloc _) hx.2.1 hx.1 ?_)⟩
            rcases hx.2.2 with h | h
            · exact Or.inl h.symm
            · exact Or.inr fun g hg => by simp [Value.ownBlock] at hg h; omega
          case measure => simp [intOf]; omega
      · obtain rfl : k = css.length := by omega
        go_wp2_with fail
        go_ret
        exact ⟨b, rfl, HI.out.bl, TI.fin (by rw [← HB.out.2.2.2]; simpa [flg, hlz] using HI.out)⟩
/-- impl.tree: the package's expression, in blocks of its own. -/
theorem tree_any : ∀ (d : Nat) (t : Tr) (cs : List Value) (w : World), RxV w d t cs → Calls Tryd.prog 43 #[.agg cs.toArray] w fun e w' => ∃ b, e = .returned (ptr b) ∧ Below w.heap.size w w' ∧ AstIn w' (fun g => w.heap.size ≤ g) d t b := by
  intro d
  induction d with
  | zero => intro t cs w h; exact h.elim
  | succ d ih =>
    rintro t cs w ⟨rv, sv, css, rfl, ⟨h1, h2, h3⟩, hR, hcl, hS, h7, hsub⟩
    exact tree_step d ih t rv sv css w h1 h2 h3 hR hcl hS h7 hsub
end Go.Proofs.YtnpchkohfomagaaDoor.Rgw
