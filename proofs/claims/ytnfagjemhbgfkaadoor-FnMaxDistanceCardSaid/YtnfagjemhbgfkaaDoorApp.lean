/- append inside a region that draws, onto a row of the call's own. -/
import Derived.Test.YtnfagjemhbgfkaaDoorLib2
import Derived.Deep.RegionLaw
import Derived.Deep.AppendLies
namespace Go.Trav
open Go.ChangeShapes Go.WideShapes Go.ChangeAt Go.RowKit
set_option linter.unusedVariables false
set_option linter.unusedSimpArgs false
section
variable {P : Program} {w : World}
/-- 'append(s, t...)' onto a row of the call's own, t whatever reads: what it comes to. -/
theorem run_append_reads (t ty : TypeId) (base : Nat) (e : TypeId) (i : TypeInfo) (z : Value) (size bytes : Nat) (ht : P.underlying t = some (.slice e)) (hi : P.info? e = some i) (hz : i.zero = some z)
    (hsize : i.size = size) (hby : i.bytes = bytes) (hzs : z.cells.size = size) (hsz : 0 < size) (v : Value) (n : Nat) (xs : List Value) (hown : w.ownsRow base e size v n xs)
    (xv : Value) (m : Nat) (news : List Value) (hr : Reads w xv m size news) (h1 : ∀ u ∈ news, u.oneCell' = true) (h63 : n + m ≤ maxLen) (hbytes : (n + m) * bytes ≤ 140737488355328) (hbase : base ≤ w.heap.size) :
    ∃ ao cap w', (Builtin.append_ #[t, t] ty #[v, xv]).run P w = .ok (.slice ao (n + m) cap) w' ∧ w'.ownsRow base e size (.slice ao (n + m) cap) (n + m) (xs ++ news) ∧ w.grownBy w' v.ownBlock ∧
      ((Value.slice ao (n + m) cap).ownBlock = v.ownBlock ∨ (Value.slice ao (n + m) cap).ownBlock = some w.heap.size) := by
  obtain ⟨ao, cap, rfl, k1, k2, k3, k4, k5⟩ := hr
  cases ao with
  | none =>
    obtain rfl : cap = 0 := k3 rfl
    obtain rfl : m = 0 := by omega
    obtain rfl : news = [] := List.eq_nil_of_length_eq_zero (by simpa using k4)
    have hrun := run_append_owned_none (P := P) (w := w) base t ty e i size ht hi v n xs hown
    obtain ⟨ao, cap, rfl⟩ := ownsRow_form hown
    exact ⟨ao, cap, w, hrun, by simpa using hown, World.grownBy.refl _ _, Or.inl rfl⟩
  | some ad =>
    obtain ⟨v', w', hrun, h2, h3, _, h5⟩ := run_append_own_at (P := P) w base t ty e i z size bytes ht hi hz hsize hby hzs hsz v n xs hown ad m cap news k4 (by
      intro j u hj
      have hj2 : j < news.length := (List.getElem?_eq_some_iff.1 hj).1
      obtain ⟨b, off, e1, hc⟩ := k5 (by omega)
      obtain rfl : ad = ⟨b, off, none⟩ := by simpa using e1
      rw [addr_add]
      exact hc j u hj) h1 h63 hbytes hbase
    obtain ⟨ao, cap', rfl⟩ := ownsRow_form h2
    exact ⟨ao, cap', w', hrun, h2, h3, h5⟩
theorem wp_append_reads {o : Oper} {a : Act} {K : Act → World → Prop} {Q : Exit → Act → World → Prop} (s x : Operand) (t : TypeId)
    (ho : o.op = .call { callee := .builtin .append, args := #[s, x], argTypes := #[t, t] }) (base : Nat) (e : TypeId) (i : TypeInfo) (z : Value) (size bytes : Nat) (ht : P.underlying t = some (.slice e)) (hi : P.info? e = some i) (hz : i.zero = some z)
    (hsize : i.size = size) (hby : i.bytes = bytes) (hzs : z.cells.size = size) (hsz : 0 < size) (v : Value) (n : Nat) (xs : List Value) (hs : a.eval s = v) (hown : w.ownsRow base e size v n xs)
    (xv : Value) (m : Nat) (news : List Value) (hx : a.eval x = xv) (hr : Reads w xv m size news) (h1 : ∀ u ∈ news, u.oneCell' = true) (h63 : n + m ≤ maxLen) (hbytes : (n + m) * bytes ≤ 140737488355328) (hbase : base ≤ w.heap.size)
    (h : ∀ ao cap w', w'.ownsRow base e size (.slice ao (n + m) cap) (n + m) (xs ++ news) → w.grownBy w' v.ownBlock → ((Value.slice ao (n + m) cap).ownBlock = v.ownBlock ∨ (Value.slice ao (n + m) cap).ownBlock = some w.heap.size) → K (a.put o.dst (.slice ao (n + m) cap)) w') : o.wp P a w K Q := by
  obtain ⟨ao, cap, w', hrun, h2, h3, h4⟩ := run_append_reads (P := P) (w := w) t o.type base e i z size bytes ht hi hz hsize hby hzs hsz v n xs hown xv m news hr h1 h63 hbytes hbase
  unfold Oper.wp execOp
  simp only [ho, resolve, invoke, builtin, Sem.run_bind, Sem.run_pure, Result.andThen_ok, List.map_toArray, List.map_cons, List.map_nil, hs, hx, hrun]
  exact h ao cap w' h2 h3 h4
theorem step_append_reads {ops : Array Oper} {o : Oper} {a : Act} {K : Act → World → Prop} {Q : Exit → Act → World → Prop} {E : Prop} (hgd : o.guard = none) (s x : Operand) (t : TypeId)
    (ho : o.op = .call { callee := .builtin .append, args := #[s, x], argTypes := #[t, t] }) (base : Nat) (e : TypeId) (i : TypeInfo) (z : Value) (size bytes : Nat) (ht : P.underlying t = some (.slice e)) (hi : P.info? e = some i) (hz : i.zero = some z)
    (hsize : i.size = size) (hby : i.bytes = bytes) (hzs : z.cells.size = size) (hsz : 0 < size) (v : Value) (n : Nat) (xs : List Value) (hs : a.eval s = v) (hown : w.ownsRow base e size v n xs)
    (xv : Value) (m : Nat) (news : List Value) (hx : a.eval x = xv) (hr : Reads w xv m size news) (h1 : ∀ u ∈ news, u.oneCell' = true) (h63 : n + m ≤ maxLen) (hbytes : (n + m) * bytes ≤ 140737488355328) (hbase : base ≤ w.heap.size)
    (h : ∀ ao cap w', w'.ownsRow base e size (.slice ao (n + m) cap) (n + m) (xs ++ news) → w.grownBy w' v.ownBlock → ((Value.slice ao (n + m) cap).ownBlock = v.ownBlock ∨ (Value.slice ao (n + m) cap).ownBlock = some w.heap.size) → K (a.put o.dst (.slice ao (n + m) cap)) w') :
    if Region.wanted o (yielded ops a.tmps) = true then Oper.wp P o a w K Q else E := by
  have hw : Region.wanted o (yielded ops a.tmps) = true := by simp [Region.wanted, hgd]
  rw [if_pos hw]
  exact wp_append_reads s x t ho base e i z size bytes ht hi hz hsize hby hzs hsz v n xs hs hown xv m news hx hr h1 h63 hbytes hbase h
end
/-- An empty row that was just made. -/
theorem owns_new (w : World) (e : TypeId) (size base : Nat) (hb : base ≤ w.heap.size) : (w.alloc (.cells #[] e)).ownsRow base e size (.slice (some ⟨w.heap.size, 0, none⟩) 0 0) 0 [] := by
  refine ⟨by simp, .inr ⟨w.heap.size, 0, #[], by simp, hb, heap_alloc_new w _, Nat.le_refl _, by unfold maxLen; omega, by simp, by simp⟩⟩
end Go.Trav
