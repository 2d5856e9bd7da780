/- Expressions of the statements as cells, in blocks of a set. -/
import Derived.Test.YtnpchkohfomagaaDoorRgEa
import Derived.Test.YtnpchkohfomagaaDoorRgX3
namespace Go.Proofs.YtnpchkohfomagaaDoor.Rgy
open Go.ChangeShapes Go.WideShapes Go.ChangeAt Go.RowKit Go.Trav Go.Rg Go.Utf Go.Proofs.YtnpchkohfomagaaDoor.Seq Go.Proofs.YtnpchkohfomagaaDoor.Sparse Go.Proofs.YtnpchkohfomagaaDoor.Rgw
set_option linter.unusedVariables false
set_option linter.unusedSimpArgs false
set_option maxRecDepth 100000
/-- An expression of the statements, as its seven cells, its rows in blocks of R. -/
def RxI (w : World) (R : Nat → Prop) : Nat → Tr → List Value → Prop
  | 0, _, _ => False
  | d + 1, t, cs => ∃ (rv sv : Value) (css : List (List Value)), cs = [.int .i64 (t.op : Int), rv, .int .i64 t.mn, .int .i64 t.mx, .bool t.lazy, .bool false, sv] ∧ (t.op < 256 ∧ t.runes.length ≤ 1000 ∧ css.length ≤ 1000) ∧ (Reads w rv t.runes.length 1 (t.runes.map rV) ∧ ∀ g, rv.ownBlock = some g → R g) ∧
      css.length = t.subs.length ∧ (Reads w sv css.length 7 css.flatten ∧ ∀ g, sv.ownBlock = some g → R g) ∧ (∀ c ∈ css, c.length = 7) ∧ ∀ (i : Nat) c s, css[i]? = some c → t.subs[i]? = some s → RxI w R d s c
theorem RxI.rx {w : World} {R : Nat → Prop} : ∀ (d : Nat) (t : Tr) (cs : List Value), RxI w R d t cs → RxV w d t cs := by
  intro d
  induction d with
  | zero => intro t cs h; exact h
  | succ d ih =>
    rintro t cs ⟨rv, sv, css, h1, h0, h2, h3, h4, h5, h6⟩
    exact ⟨rv, sv, css, h1, h0, h2.1, h3, h4.1, h5, fun i c s hc hs => ih s c (h6 i c s hc hs)⟩
theorem RxI.mod {w w' : World} {R : Nat → Prop} {F : Nat → Prop} (m : Mod F w w') (hF : ∀ k, R k → ¬ F k) : ∀ (d : Nat) (t : Tr) (cs : List Value), RxI w R d t cs → RxI w' R d t cs := by
  intro d
  induction d with
  | zero => intro t cs h; exact h
  | succ d ih =>
    rintro t cs ⟨rv, sv, css, h1, h0, h2, h3, h4, h5, h6⟩
    exact ⟨rv, sv, css, h1, h0, ⟨h2.1.mod m fun g hg => hF g (h2.2 g hg), h2.2⟩, h3, ⟨h4.1.mod m fun g hg => hF g (h4.2 g hg), h4.2⟩, h5, fun i c s hc hs => ih s c (h6 i c s hc hs)⟩
theorem RxI.below {w w' : World} {R : Nat → Prop} (hb : Below w.heap.size w w') (d : Nat) (t : Tr) (cs : List Value) (h : RxI w R d t cs) : RxI w' R d t cs := RxI.mod (F := fun _ => False) (Mod.of_below hb) (fun _ _ h => h) d t cs h
theorem RxI.wide {w : World} {R R' : Nat → Prop} (hR : ∀ k, R k → R' k) : ∀ (d : Nat) (t : Tr) (cs : List Value), RxI w R d t cs → RxI w R' d t cs := by
  intro d
  induction d with
  | zero => intro t cs h; exact h
  | succ d ih =>
    rintro t cs ⟨rv, sv, css, h1, h0, h2, h3, h4, h5, h6⟩
    exact ⟨rv, sv, css, h1, h0, ⟨h2.1, fun g hg => hR g (h2.2 g hg)⟩, h3, ⟨h4.1, fun g hg => hR g (h4.2 g hg)⟩, h5, fun i c s hc hs => ih s c (h6 i c s hc hs)⟩
theorem RxI.up {w : World} {R : Nat → Prop} : ∀ (d : Nat) (t : Tr) (cs : List Value), RxI w R d t cs → RxI w R (d + 1) t cs := by
  intro d
  induction d with
  | zero => intro t cs h; exact h.elim
  | succ d ih =>
    rintro t cs ⟨rv, sv, css, h1, h0, h2, h3, h4, h5, h6⟩
    exact ⟨rv, sv, css, h1, h0, h2, h3, h4, h5, fun i c s hc hs => ih s c (h6 i c s hc hs)⟩
theorem RxI.form {w : World} {R : Nat → Prop} {d : Nat} {t : Tr} {cs : List Value} (h : RxI w R d t cs) : ∃ (o : Int) (rv : Value) (mn mx : Int) (lz : Bool) (sv : Value), cs = [.int .i64 o, rv, .int .i64 mn, .int .i64 mx, .bool lz, .bool false, sv] ∧ (∃ a b c, rv = .slice a b c) ∧ ∃ a b c, sv = .slice a b c := (RxI.rx d t cs h).form
theorem RwV.form {w : World} {n : Nat} {r : Rw} {cs : List Value} (h : RwV w n r cs) : ∃ (rv : Value) (lz fo : Bool) (sv : Value), cs = [.int .i64 r.op, rv, .int .i64 r.mn, .int .i64 r.mx, .bool lz, .bool fo, sv] ∧ (∃ a b c, rv = .slice a b c) ∧ ∃ a b c, sv = .slice a b c := by
  cases n with
  | zero => exact h.elim
  | succ d =>
    obtain ⟨rv, sv, lz, fo, css, rfl, h2, _, h4, _⟩ := h
    obtain ⟨a, c, rfl⟩ := h2.form
    obtain ⟨a', c', rfl⟩ := h4.form
    exact ⟨_, lz, fo, _, rfl, ⟨_, _, _, rfl⟩, _, _, _, rfl⟩
/-- The cells of an expression that is being made. -/
def xC (o : Int) (rv : Value) (mn mx : Int) (sv : Value) : Array Value := #[.int .i64 o, rv, .int .i64 mn, .int .i64 mx, .bool false, .bool false, sv]
/-- Behind k parts: the node b, its parts' row sv. -/
structure XI (B b : Nat) (o : Nat) (rv sv : Value) (mn mx : Int) (rs : List Int) (d : Nat) (l : List Tr) (css : List (List Value)) (w wr : World) : Prop where
  blk : wr.heap[b]? = some (.cells (xC o rv mn mx sv) 35 (0, 0))
  rr : Reads wr rv rs.length 1 (rs.map rV)
  rn : ∀ g, rv.ownBlock = some g → b < g ∧ g < wr.heap.size ∧ sv.ownBlock ≠ some g
  own : wr.ownsRow (b + 1) 35 7 sv css.length css.flatten
  len : css.length = l.length
  c7 : ∀ c ∈ css, c.length = 7
  old : ∀ (i : Nat) c s, css[i]? = some c → l[i]? = some s → RxI wr (fun g => b < g ∧ g < wr.heap.size ∧ sv.ownBlock ≠ some g) d s c
  bl : Below B w wr
  le : B ≤ b
theorem XI.below {B b o : Nat} {rv sv : Value} {mn mx : Int} {rs : List Int} {d : Nat} {l : List Tr} {css : List (List Value)} {w wr w2 : World} (h : XI B b o rv sv mn mx rs d l css w wr) (hb : Below wr.heap.size wr w2) (hB : B ≤ wr.heap.size) : XI B b o rv sv mn mx rs d l css w w2 := by
  have m : Mod (fun _ => False) wr w2 := Mod.of_below hb
  have hs := m.size
  exact ⟨m.heap h.blk (fun h => h), h.rr.below hb, fun g hg => ⟨(h.rn g hg).1, Nat.lt_of_lt_of_le (h.rn g hg).2.1 hs, (h.rn g hg).2.2⟩, ownsRow_mod h.own m fun _ _ h => h, h.len, h.c7, fun i c s hc hs' => RxI.wide (fun g hg => ⟨hg.1, Nat.lt_of_lt_of_le hg.2.1 hs, hg.2.2⟩) d s c (RxI.mod m (fun _ _ h => h) d s c (h.old i c s hc hs')), h.bl.trans (hb.mono hB), h.le⟩
theorem XI.fin {B b o : Nat} {rv sv : Value} {mn mx : Int} {rs : List Int} {d : Nat} {l : List Tr} {css : List (List Value)} {w wr : World} (h : XI B b o rv sv mn mx rs d l css w wr) (ho : o < 256) (hr : rs.length ≤ 1000) (hl : l.length ≤ 1000) : RxI wr (fun g => b < g ∧ g < wr.heap.size) (d + 1) (.mk o false false rs mn mx l) (xC o rv mn mx sv).toList := by
  refine ⟨rv, sv, css, rfl, ⟨ho, hr, by rw [h.len]; exact hl⟩, ⟨h.rr, fun g hg => ⟨(h.rn g hg).1, (h.rn g hg).2.1⟩⟩, h.len, ⟨reads_of_owns h.own, fun g hg => ⟨(h.own.lt g hg).1, (h.own.lt g hg).2⟩⟩, h.c7, fun i c s hc hs => RxI.wide (fun g hg => ⟨hg.1, hg.2.1⟩) d s c (h.old i c s hc hs)⟩
theorem XI.set {B b o : Nat} {rv sv : Value} {mn mx : Int} {rs : List Int} {d : Nat} {l : List Tr} {css : List (List Value)} {w wr : World} (h : XI B b o rv sv mn mx rs d l css w wr) (i : Nat) (v : Value) (rv' sv' : Value) (mn' mx' : Int) (hx : (xC o rv mn mx sv).set! i v = xC o rv' mn' mx' sv') (hrv : rv' = rv) (hsv : sv' = sv) : XI B b o rv' sv' mn' mx' rs d l css w (wr.setCell ⟨b, i, none⟩ v) := by
  subst hrv hsv
  have m : Mod (fun z => z = b) wr (wr.setCell ⟨b, i, none⟩ v) := Mod.setCell (F := fun z => z = b) (Mod.refl _ wr) (p := ⟨b, i, none⟩) (fun _ => rfl) _
  have hs := m.size
  refine ⟨?_, h.rr.mod m fun g hg => ?_, fun g hg => ⟨(h.rn g hg).1, Nat.lt_of_lt_of_le (h.rn g hg).2.1 hs, (h.rn g hg).2.2⟩, ownsRow_mod h.own m fun g hg e => ?_, h.len, h.c7, fun i c s hc hs' => RxI.wide (fun g hg => ⟨hg.1, Nat.lt_of_lt_of_le hg.2.1 hs, hg.2.2⟩) d s c (RxI.mod m (fun g hg e => ?_) d s c (h.old i c s hc hs')), h.bl.trans (m.toBelow (by have := block_lt h.blk; have := h.le; omega) fun g _ hg => ?_), h.le⟩
  · rw [block_set h.blk, ← hx]; rfl
  · have := (h.rn g hg).1; omega
  · have := (h.own.lt g hg).1; omega
  · have := hg.1; omega
  · have := h.le; omega
theorem XI.push {B b o : Nat} {rv sv v6 : Value} {mn mx : Int} {rs : List Int} {d c : Nat} {l : List Tr} {s : Tr} {cs : List Value} {css : List (List Value)} {w w2 W w6 : World} (h : XI B b o rv sv mn mx rs d l css w w2) (hA : RxI w2 (fun g => c ≤ g ∧ g < w2.heap.size) d s cs) (h7 : cs.length = 7) (hc1 : b < c) (hc2 : ∀ g, sv.ownBlock = some g → g < c)
    (hW : Mod (fun _ => False) w2 W) (hgr : W.grownBy w6 sv.ownBlock) (hown6 : w6.ownsRow (b + 1) 35 7 v6 (css.length + 1) (css.flatten ++ cs)) (hat : v6.ownBlock = sv.ownBlock ∨ ∀ g, v6.ownBlock = some g → w2.heap.size ≤ g) : XI B b o rv v6 mn mx rs d (l ++ [s]) (css ++ [cs]) w (w6.setCell ⟨b, 6, none⟩ v6) := by
  have hle := h.le
  have hnb : sv.ownBlock ≠ some b := fun e => by have := (h.own.lt b e).1; omega
  have hnb6 : some b ≠ v6.ownBlock := fun e => by have := (hown6.lt b e.symm).1; omega
  have m1 : Mod (fun z => sv.ownBlock = some z) w2 w6 := (hW.mono fun _ _ h => h.elim).grown hgr fun k hk _ => hk
  have m2 : Mod (fun z => z = b) w6 (w6.setCell ⟨b, 6, none⟩ v6) := Mod.setCell (F := fun z => z = b) (Mod.refl _ w6) (p := ⟨b, 6, none⟩) (fun _ => rfl) _
  have m : Mod (fun z => sv.ownBlock = some z ∨ z = b) w2 (w6.setCell ⟨b, 6, none⟩ v6) := (m1.mono fun _ _ h => Or.inl h).trans (m2.mono fun _ _ h => Or.inr h)
  have hsz := m.size
  have h6 : ∀ g, g < w2.heap.size → sv.ownBlock ≠ some g → v6.ownBlock ≠ some g := fun g hg hne e => by
    rcases hat with hat | hat
    · exact hne (hat ▸ e)
    · have := hat g e; omega
  have hrn : ∀ g, rv.ownBlock = some g → ¬ (sv.ownBlock = some g ∨ g = b) := fun g hg => by
    have h1 := h.rn g hg
    rintro (h2 | h2)
    · exact h1.2.2 h2
    · omega
  have hold : ∀ (x : Tr) (y : List Value), RxI w2 (fun g => b < g ∧ g < w2.heap.size ∧ sv.ownBlock ≠ some g) d x y → RxI (w6.setCell ⟨b, 6, none⟩ v6) (fun g => b < g ∧ g < (w6.setCell ⟨b, 6, none⟩ v6).heap.size ∧ v6.ownBlock ≠ some g) d x y := fun x y hx => by
    have q1 := RxI.mod m (fun g hg hF => by
      rcases hF with hF | hF
      · exact hg.2.2 hF
      · omega) d x y hx
    exact RxI.wide (fun g hg => ⟨hg.1, Nat.lt_of_lt_of_le hg.2.1 hsz, h6 g hg.2.1 hg.2.2⟩) d x y q1
  refine ⟨?_, h.rr.mod m hrn, fun g hg => ⟨(h.rn g hg).1, Nat.lt_of_lt_of_le (h.rn g hg).2.1 hsz, h6 g (h.rn g hg).2.1 (h.rn g hg).2.2⟩, ?_, by simp [h.len], ?_, ?_, h.bl.trans (m.toBelow (by have := block_lt h.blk; have := h.le; omega) fun g _ hg => ?_), h.le⟩
  · rw [block_set (m1.heap h.blk hnb)]; rfl
  · rw [List.length_append, List.flatten_append]
    have e : [cs].flatten = cs := by simp
    rw [e]
    exact ownsRow_setCell_ne hown6 hnb6 _
  · intro y hy
    rcases List.mem_append.1 hy with hy | hy
    · exact h.c7 y hy
    · simp at hy; subst hy; exact h7
  · intro i y x hy hx
    by_cases hi : i < css.length
    · rw [List.getElem?_append_left hi] at hy
      rw [List.getElem?_append_left (by rw [← h.len]; exact hi)] at hx
      exact hold x y (h.old i y x hy hx)
    · have hl := (List.getElem?_eq_some_iff.1 hy).1
      obtain rfl : i = css.length := by simp at hl; omega
      rw [List.getElem?_append_right (Nat.le_refl _)] at hy
      rw [h.len, List.getElem?_append_right (Nat.le_refl _)] at hx
      simp at hy hx
      subst hy hx
      exact hold s cs (RxI.wide (fun g hg => ⟨by omega, hg.2, fun e => by have := hc2 g e; omega⟩) d s cs hA)
  · rcases hg with hg | hg
    · have := (h.own.lt g hg).1; omega
    · omega
/-- Behind k letters: the node b, its letters' row. -/
structure LI (B b : Nat) (rv : Value) (zs : List Int) (w wr : World) : Prop where
  blk : wr.heap[b]? = some (.cells (xC 3 rv 0 0 (.slice none 0 0)) 35 (0, 0))
  own : wr.ownsRow (b + 1) 21 1 rv zs.length (zs.map rV)
  bl : Below B w wr
  le : B ≤ b
theorem LI.below {B b : Nat} {rv : Value} {zs : List Int} {w wr w2 : World} (h : LI B b rv zs w wr) (hb : Below wr.heap.size wr w2) (hB : B ≤ wr.heap.size) : LI B b rv zs w w2 := by
  have m : Mod (fun _ => False) wr w2 := Mod.of_below hb
  exact ⟨m.heap h.blk (fun h => h), ownsRow_mod h.own m fun _ _ h => h, h.bl.trans (hb.mono hB), h.le⟩
theorem LI.fin {B b : Nat} {rv : Value} {zs : List Int} {w wr : World} (h : LI B b rv zs w wr) (hz : zs.length ≤ 1000) (d : Nat) : RxI wr (fun g => b < g ∧ g < wr.heap.size) (d + 1) (.mk 3 false false zs 0 0 []) (xC 3 rv 0 0 (.slice none 0 0)).toList := by
  refine ⟨rv, .slice none 0 0, [], rfl, ⟨by show 3 < 256; omega, hz, by simp⟩, ⟨reads_of_owns h.own, fun g hg => ⟨(h.own.lt g hg).1, (h.own.lt g hg).2⟩⟩, rfl, ⟨reads_of_owns (World.ownsRow_nil wr (b + 1) 35 7), fun g hg => by simp [Value.ownBlock] at hg⟩, fun c hc => by simp at hc, fun i c s hc => by simp at hc⟩
theorem LI.push {B b : Nat} {rv v6 : Value} {zs : List Int} {z : Int} {w w2 W w6 : World} (h : LI B b rv zs w w2) (hW : Mod (fun _ => False) w2 W) (hgr : W.grownBy w6 rv.ownBlock) (hown6 : w6.ownsRow (b + 1) 21 1 v6 (zs.length + 1) (zs.map rV ++ [rV z])) : LI B b v6 (zs ++ [z]) w (w6.setCell ⟨b, 1, none⟩ v6) := by
  have hle := h.le
  have hnb : rv.ownBlock ≠ some b := fun e => by have := (h.own.lt b e).1; omega
  have hnb6 : some b ≠ v6.ownBlock := fun e => by have := (hown6.lt b e.symm).1; omega
  have m1 : Mod (fun z => rv.ownBlock = some z) w2 w6 := (hW.mono fun _ _ h => h.elim).grown hgr fun k hk _ => hk
  have m2 : Mod (fun z => z = b) w6 (w6.setCell ⟨b, 1, none⟩ v6) := Mod.setCell (F := fun z => z = b) (Mod.refl _ w6) (p := ⟨b, 1, none⟩) (fun _ => rfl) _
  have m : Mod (fun z => rv.ownBlock = some z ∨ z = b) w2 (w6.setCell ⟨b, 1, none⟩ v6) := (m1.mono fun _ _ h => Or.inl h).trans (m2.mono fun _ _ h => Or.inr h)
  refine ⟨?_, ?_, h.bl.trans (m.toBelow (by have := block_lt h.blk; have := h.le; omega) fun g _ hg => ?_), h.le⟩
  · rw [block_set (m1.heap h.blk hnb)]; rfl
  · rw [List.length_append, List.map_append]; exact ownsRow_setCell_ne hown6 hnb6 _
  · rcases hg with hg | hg
    · have := (h.own.lt g hg).1; omega
    · omega
/-- A node without runes and parts. -/
theorem leaf_fin (w : World) (R : Nat → Prop) (o : Nat) (ho : o < 256) (d : Nat) : RxI w R (d + 1) (.mk o false false [] 0 0 []) (xC o (.slice none 0 0) 0 0 (.slice none 0 0)).toList := by
  refine ⟨.slice none 0 0, .slice none 0 0, [], rfl, ⟨ho, by simp [Tr.runes], by simp⟩, ⟨reads_of_owns (World.ownsRow_nil w 0 21 1), fun g hg => by simp [Value.ownBlock] at hg⟩, rfl, ⟨reads_of_owns (World.ownsRow_nil w 0 35 7), fun g hg => by simp [Value.ownBlock] at hg⟩, fun c hc => by simp at hc, fun i c s hc => by simp at hc⟩
theorem runes_fin {w : World} {R : Nat → Prop} {rv : Value} {zs : List Int} (o : Nat) (ho : o < 256) (hr : Reads w rv zs.length 1 (zs.map rV)) (hR : ∀ g, rv.ownBlock = some g → R g) (hz : zs.length ≤ 1000) (d : Nat) : RxI w R (d + 1) (.mk o false false zs 0 0 []) (xC o rv 0 0 (.slice none 0 0)).toList := by
  refine ⟨rv, .slice none 0 0, [], rfl, ⟨ho, hz, by simp⟩, ⟨hr, hR⟩, rfl, ⟨reads_of_owns (World.ownsRow_nil w 0 35 7), fun g hg => by simp [Value.ownBlock] at hg⟩, fun c hc => by simp at hc, fun i c s hc => by simp at hc⟩
/-- Seven cells stored one after the other. -/
def set7 (w : World) (b : Nat) (a0 a1 a2 a3 a4 a5 a6 : Value) : World := ((((((w.setCell ⟨b, 0, none⟩ a0).setCell ⟨b, 1, none⟩ a1).setCell ⟨b, 2, none⟩ a2).setCell ⟨b, 3, none⟩ a3).setCell ⟨b, 4, none⟩ a4).setCell ⟨b, 5, none⟩ a5).setCell ⟨b, 6, none⟩ a6
theorem set7_blk {w : World} {b : Nat} {c0 c1 c2 c3 c4 c5 c6 : Value} {T : TypeId} (h : w.heap[b]? = some (.cells #[c0, c1, c2, c3, c4, c5, c6] T (0, 0))) (a0 a1 a2 a3 a4 a5 a6 : Value) : (set7 w b a0 a1 a2 a3 a4 a5 a6).heap[b]? = some (.cells #[a0, a1, a2, a3, a4, a5, a6] T (0, 0)) := by
  have h0 : (w.setCell ⟨b, 0, none⟩ a0).heap[b]? = some (.cells #[a0, c1, c2, c3, c4, c5, c6] T (0, 0)) := block_set h
  have h1 : ((w.setCell ⟨b, 0, none⟩ a0).setCell ⟨b, 1, none⟩ a1).heap[b]? = some (.cells #[a0, a1, c2, c3, c4, c5, c6] T (0, 0)) := block_set h0
  have h2 : (((w.setCell ⟨b, 0, none⟩ a0).setCell ⟨b, 1, none⟩ a1).setCell ⟨b, 2, none⟩ a2).heap[b]? = some (.cells #[a0, a1, a2, c3, c4, c5, c6] T (0, 0)) := block_set h1
  have h3 : ((((w.setCell ⟨b, 0, none⟩ a0).setCell ⟨b, 1, none⟩ a1).setCell ⟨b, 2, none⟩ a2).setCell ⟨b, 3, none⟩ a3).heap[b]? = some (.cells #[a0, a1, a2, a3, c4, c5, c6] T (0, 0)) := block_set h2
  have h4 : (((((w.setCell ⟨b, 0, none⟩ a0).setCell ⟨b, 1, none⟩ a1).setCell ⟨b, 2, none⟩ a2).setCell ⟨b, 3, none⟩ a3).setCell ⟨b, 4, none⟩ a4).heap[b]? = some (.cells #[a0, a1, a2, a3, a4, c5, c6] T (0, 0)) := block_set h3
  have h5 : ((((((w.setCell ⟨b, 0, none⟩ a0).setCell ⟨b, 1, none⟩ a1).setCell ⟨b, 2, none⟩ a2).setCell ⟨b, 3, none⟩ a3).setCell ⟨b, 4, none⟩ a4).setCell ⟨b, 5, none⟩ a5).heap[b]? = some (.cells #[a0, a1, a2, a3, a4, a5, c6] T (0, 0)) := block_set h4
  exact (block_set h5 : (((((((w.setCell ⟨b, 0, none⟩ a0).setCell ⟨b, 1, none⟩ a1).setCell ⟨b, 2, none⟩ a2).setCell ⟨b, 3, none⟩ a3).setCell ⟨b, 4, none⟩ a4).setCell ⟨b, 5, none⟩ a5).setCell ⟨b, 6, none⟩ a6).heap[b]? = some (.cells #[a0, a1, a2, a3, a4, a5, a6] T (0, 0)))
theorem set7_mod (w : World) (b : Nat) (a0 a1 a2 a3 a4 a5 a6 : Value) : Mod (fun z => z = b) w (set7 w b a0 a1 a2 a3 a4 a5 a6) :=
  (((((((Mod.refl (fun z => z = b) w).setCell (p := ⟨b, 0, none⟩) (fun _ => rfl) _).setCell (p := ⟨b, 1, none⟩) (fun _ => rfl) _).setCell (p := ⟨b, 2, none⟩) (fun _ => rfl) _).setCell (p := ⟨b, 3, none⟩) (fun _ => rfl) _).setCell (p := ⟨b, 4, none⟩) (fun _ => rfl) _).setCell (p := ⟨b, 5, none⟩) (fun _ => rfl) _).setCell (p := ⟨b, 6, none⟩) (fun _ => rfl) _
end Go.Proofs.YtnpchkohfomagaaDoor.Rgy
