/- impl.tree: an expression of the statements becomes one of the package. (and what follows) -/
import Derived.Test.YtnpchkohfomagaaDoorRgWb
import Derived.BigRegion
import Derived.Deep.AppendLies
import Derived.Deep.RegionHeld3
import Derived.Deep.RegionLaw
/-! impl.tree: an expression of the statements becomes one of the package. -/
namespace Go.Proofs.YtnpchkohfomagaaDoor.Rgw
open Go.ChangeShapes Go.WideShapes Go.ChangeAt Go.RowKit Go.Trav Go.Rg Go.Proofs.YtnpchkohfomagaaDoor.Seq Go.Utf Go.Proofs.YtnpchkohfomagaaDoor.Sparse
set_option linter.unusedVariables false
set_option linter.unusedSimpArgs false
set_option maxRecDepth 100000
/-- An expression of the statements, as its seven cells, of at most so many floors. -/
def RxV (w : World) : Nat → Tr → List Value → Prop
  | 0, _, _ => False
  | d + 1, t, cs => ∃ (rv sv : Value) (css : List (List Value)), cs = [.int .i64 (t.op : Int), rv, .int .i64 t.mn, .int .i64 t.mx, .bool t.lazy, .bool false, sv] ∧ (t.op < 256 ∧ t.runes.length ≤ 1000 ∧ css.length ≤ 1000) ∧ Reads w rv t.runes.length 1 (t.runes.map rV) ∧
      css.length = t.subs.length ∧ Reads w sv css.length 7 css.flatten ∧ (∀ c ∈ css, c.length = 7) ∧ ∀ (i : Nat) c s, css[i]? = some c → t.subs[i]? = some s → RxV w d s c
theorem RxV.below {w w' : World} (hb : Below w.heap.size w w') : ∀ (d : Nat) (t : Tr) (cs : List Value), RxV w d t cs → RxV w' d t cs := by
  intro d
  induction d with
  | zero => intro t cs h; exact h
  | succ d ih =>
    rintro t cs ⟨rv, sv, css, h1, h0, h2, h3, h4, h5, h6⟩
    exact ⟨rv, sv, css, h1, h0, h2.below hb, h3, h4.below hb, h5, fun i c s hc hs => ih s c (h6 i c s hc hs)⟩
/-- A syntax tree all of whose blocks are among R. -/
def AstIn (w : World) (R : Nat → Prop) : Nat → Tr → Nat → Prop
  | 0, _, _ => False
  | d + 1, t, b => R b ∧ (∃ sv s0 rv r0 r1 cp nm, w.heap[b]? = some (.cells #[.int .u8 (t.op : Int), .int .u16 (flg t), sv, s0, rv, r0, r1, .int .i64 t.mn, .int .i64 t.mx, cp, nm] 77 (0, 0)) ∧ (RR w rv t.runes ∧ ∀ g, rv.ownBlock = some g → R g) ∧
      ∃ bs : List Nat, bs.length = t.subs.length ∧ Reads w sv bs.length 1 (bs.map ptr) ∧ (∀ g, sv.ownBlock = some g → Off w g ∧ R g) ∧ (∀ (i : Nat) b' s, bs[i]? = some b' → t.subs[i]? = some s → AstIn w R d s b') ∧ Z0 s0 r0 r1)
theorem AstIn.at_ {w : World} {R : Nat → Prop} : ∀ (d : Nat) (t : Tr) (b : Nat), AstIn w R d t b → AstAt w d t b := by
  intro d
  induction d with
  | zero => intro t b h; exact h
  | succ d ih =>
    rintro t b ⟨hR, sv, s0, rv, r0, r1, cp, nm, h1, h2, bs, h3, h4, h5, h6, h7⟩
    exact ⟨sv, s0, rv, r0, r1, cp, nm, h1, h2.1, bs, h3, h4, fun g hg => (h5 g hg).1, fun i b' s hb hs => ih s b' (h6 i b' s hb hs), h7⟩
theorem AstIn.mod {w w' : World} {R : Nat → Prop} {F : Nat → Prop} (m : Mod F w w') (hF : ∀ k, R k → ¬ F k) : ∀ (d : Nat) (t : Tr) (b : Nat), AstIn w R d t b → AstIn w' R d t b := by
  intro d
  induction d with
  | zero => intro t b h; exact h
  | succ d ih =>
    rintro t b ⟨hR, sv, s0, rv, r0, r1, cp, nm, h1, h2, bs, h3, h4, h5, h6, h7⟩
    refine ⟨hR, sv, s0, rv, r0, r1, cp, nm, m.heap h1 (hF b hR), ⟨⟨h2.1.rd.mod m fun g hg => hF g (h2.2 g hg), fun g hg => ?_⟩, h2.2⟩, bs, h3, h4.mod m fun g hg => hF g (h5 g hg).2, fun g hg => ⟨?_, (h5 g hg).2⟩, fun i b' s hb hs => ih s b' (h6 i b' s hb hs), h7⟩
    · obtain ⟨T, k1, k2⟩ := h2.1.off g hg
      exact ⟨T, k1, ty_mod k2 m (hF g (h2.2 g hg))⟩
    · obtain ⟨T, k1, k2⟩ := (h5 g hg).1
      exact ⟨T, k1, ty_mod k2 m (hF g (h5 g hg).2)⟩
theorem AstIn.wide {w : World} {R R' : Nat → Prop} (hR : ∀ k, R k → R' k) : ∀ (d : Nat) (t : Tr) (b : Nat), AstIn w R d t b → AstIn w R' d t b := by
  intro d
  induction d with
  | zero => intro t b h; exact h
  | succ d ih =>
    rintro t b ⟨hb, sv, s0, rv, r0, r1, cp, nm, h1, h2, bs, h3, h4, h5, h6, h7⟩
    exact ⟨hR b hb, sv, s0, rv, r0, r1, cp, nm, h1, ⟨h2.1, fun g hg => hR g (h2.2 g hg)⟩, bs, h3, h4, fun g hg => ⟨(h5 g hg).1, hR g (h5 g hg).2⟩, fun i b' s hb hs => ih s b' (h6 i b' s hb hs), h7⟩
end Go.Proofs.YtnpchkohfomagaaDoor.Rgw
/-! impl.tree: its walk. -/
namespace Go.Proofs.YtnpchkohfomagaaDoor.Rgw
open Go.ChangeShapes Go.WideShapes Go.ChangeAt Go.RowKit Go.Trav Go.Rg Go.Proofs.YtnpchkohfomagaaDoor.Seq Go.Utf Go.Proofs.YtnpchkohfomagaaDoor.Sparse
set_option linter.unusedVariables false
set_option linter.unusedSimpArgs false
set_option maxRecDepth 100000
section
variable {P : Program} {w : World}
/-- 'append(s, t...)' onto a row of the call's own, t whatever reads: what it comes to. -/
theorem run_append_reads (t ty : TypeId) (base : Nat) (e : TypeId) (i : TypeInfo) (z : Value) (size bytes : Nat) (ht : P.underlying t = some (.slice e)) (hi : P.info? e = some i) (hz : i.zero = some z)
    (hsize : i.size = size) (hby : i.bytes = bytes) (hzs : z.cells.size = size) (hsz : 0 < size) (v : Value) (n : Nat) (xs : List Value) (hown : w.ownsRow base e size v n xs)
    (xv : Value) (m : Nat) (news : List Value) (hr : Reads w xv m size news) (h1 : ∀ u ∈ news, u.oneCell' = true) (h63 : n + m ≤ maxLen) (hbytes : (n + m) * bytes ≤ 140737488355328) (hbase : base ≤ w.heap.size) :
    ∃ ao cap w', (Builtin.append_ #[t, t] ty #[v, xv]).run P w = .ok (.slice ao (n + m) cap) w' ∧ w'.ownsRow base e size (.slice ao (n + m) cap) (n + m) (xs ++ news) ∧ w.grownBy w' v.ownBlock ∧
      ((Value.slice ao (n + m) cap).ownBlock = v.ownBlock ∨ (Value.slice ao (n + m) cap).ownBlock = some w.heap.size) := by
  obtain ⟨ao, cap, rfl, k1, k2, k3, k4, k5⟩ := hr
  cases ao with
  | none =>
    obtain rfl : cap = 0 := k3 rfl
    obtain rfl : m = 0 := by omega
    obtain rfl : news = [] := List.eq_nil_of_length_eq_zero (by simpa using k4)
    have hrun := run_append_owned_none (P := P) (w := w) base t ty e i size ht hi v n xs hown
    obtain ⟨ao, cap, rfl⟩ := ownsRow_form hown
    exact ⟨ao, cap, w, hrun, by simpa using hown, World.grownBy.refl _ _, Or.inl rfl⟩
  | some ad =>
    obtain ⟨v', w', hrun, h2, h3, _, h5⟩ := run_append_own_at (P := P) w base t ty e i z size bytes ht hi hz hsize hby hzs hsz v n xs hown ad m cap news k4 (by
      intro j u hj
      have hj2 : j < news.length := (List.getElem?_eq_some_iff.1 hj).1
      obtain ⟨b, off, e1, hc⟩ := k5 (by omega)
      obtain rfl : ad = ⟨b, off, none⟩ := by simpa using e1
      rw [addr_add]
      exact hc j u hj) h1 h63 hbytes hbase
    obtain ⟨ao, cap', rfl⟩ := ownsRow_form h2
    exact ⟨ao, cap', w', hrun, h2, h3, h5⟩
theorem wp_append_reads {o : Oper} {a : Act} {K : Act → World → Prop} {Q : Exit → Act → World → Prop} (s x : Operand) (t : TypeId)
    (ho : o.op = .call { callee := .builtin .append, args := #[s, x], argTypes := #[t, t] }) (base : Nat) (e : TypeId) (i : TypeInfo) (z : Value) (size bytes : Nat) (ht : P.underlying t = some (.slice e)) (hi : P.info? e = some i) (hz : i.zero = some z)
    (hsize : i.size = size) (hby : i.bytes = bytes) (hzs : z.cells.size = size) (hsz : 0 < size) (v : Value) (n : Nat) (xs : List Value) (hs : a.eval s = v) (hown : w.ownsRow base e size v n xs)
    (xv : Value) (m : Nat) (news : List Value) (hx : a.eval x = xv) (hr : Reads w xv m size news) (h1 : ∀ u ∈ news, u.oneCell' = true) (h63 : n + m ≤ maxLen) (hbytes : (n + m) * bytes ≤ 140737488355328) (hbase : base ≤ w.heap.size)
    (h : ∀ ao cap w', w'.ownsRow base e size (.slice ao (n + m) cap) (n + m) (xs ++ news) → w.grownBy w' v.ownBlock → ((Value.slice ao (n + m) cap).ownBlock = v.ownBlock ∨ (Value.slice ao (n + m) cap).ownBlock = some w.heap.size) → K (a.put o.dst (.slice ao (n + m) cap)) w') : o.wp P a w K Q := by
  obtain ⟨ao, cap, w', hrun, h2, h3, h4⟩ := run_append_reads (P := P) (w := w) t o.type base e i z size bytes ht hi hz hsize hby hzs hsz v n xs hown xv m news hr h1 h63 hbytes hbase
  unfold Oper.wp execOp
  simp only [ho, resolve, invoke, builtin, Sem.run_bind, Sem.run_pure, Result.andThen_ok, List.map_toArray, List.map_cons, List.map_nil, hs, hx, hrun]
  exact h ao cap w' h2 h3 h4
theorem step_append_reads {ops : Array Oper} {o : Oper} {a : Act} {K : Act → World → Prop} {Q : Exit → Act → World → Prop} {E : Prop} (hgd : o.guard = none) (s x : Operand) (t : TypeId)
    (ho : o.op = .call { callee := .builtin .append, args := #[s, x], argTypes := #[t, t] }) (base : Nat) (e : TypeId) (i : TypeInfo) (z : Value) (size bytes : Nat) (ht : P.underlying t = some (.slice e)) (hi : P.info? e = some i) (hz : i.zero = some z)
    (hsize : i.size = size) (hby : i.bytes = bytes) (hzs : z.cells.size = size) (hsz : 0 < size) (v : Value) (n : Nat) (xs : List Value) (hs : a.eval s = v) (hown : w.ownsRow base e size v n xs)
    (xv : Value) (m : Nat) (news : List Value) (hx : a.eval x = xv) (hr : Reads w xv m size news) (h1 : ∀ u ∈ news, u.oneCell' = true) (h63 : n + m ≤ maxLen) (hbytes : (n + m) * bytes ≤ 140737488355328) (hbase : base ≤ w.heap.size)
    (h : ∀ ao cap w', w'.ownsRow base e size (.slice ao (n + m) cap) (n + m) (xs ++ news) → w.grownBy w' v.ownBlock → ((Value.slice ao (n + m) cap).ownBlock = v.ownBlock ∨ (Value.slice ao (n + m) cap).ownBlock = some w.heap.size) → K (a.put o.dst (.slice ao (n + m) cap)) w') :
    if Region.wanted o (yielded ops a.tmps) = true then Oper.wp P o a w K Q else E := by
  have hw : Region.wanted o (yielded ops a.tmps) = true := by simp [Region.wanted, hgd]
  rw [if_pos hw]
  exact wp_append_reads s x t ho base e i z size bytes ht hi hz hsize hby hzs hsz v n xs hs hown xv m news hx hr h1 h63 hbytes hbase h
end
/-- An empty row that was just made. -/
theorem owns_new (w : World) (e : TypeId) (size base : Nat) (hb : base ≤ w.heap.size) : (w.alloc (.cells #[] e)).ownsRow base e size (.slice (some ⟨w.heap.size, 0, none⟩) 0 0) 0 [] := by
  refine ⟨by simp, .inr ⟨w.heap.size, 0, #[], by simp, hb, heap_alloc_new w _, Nat.le_refl _, by unfold maxLen; omega, by simp, by simp⟩⟩
end Go.Proofs.YtnpchkohfomagaaDoor.Rgw
