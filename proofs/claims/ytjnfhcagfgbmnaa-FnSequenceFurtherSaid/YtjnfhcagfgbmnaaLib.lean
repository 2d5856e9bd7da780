/- Own small lemmas over the kit: slices that are read (Reads), and how they stay. No program in sight. -/
import Derived.WalkKit
import Derived.ProofKit
import Derived.OpenShut
import Derived.ShutString
import Derived.Below
import Derived.ChangeOld
import Derived.Lib.Hide
import Derived.Laws.BitsAllLaws
import Derived.WalkSmall
import Derived.Laws.AppendOwnNone
namespace Go.Trav
open Go.ChangeShapes Go.WideShapes Go.ChangeAt Go.RowKit
set_option linter.unusedVariables false

/-- A slice value of n elements (size cells each) whose cells read as xs. -/
def Reads (w : World) (v : Value) (n size : Nat) (xs : List Value) : Prop :=
  ∃ ao cap, v = .slice ao n cap ∧ n ≤ cap ∧ cap ≤ maxLen ∧ (ao = none → cap = 0) ∧ xs.length = n * size ∧
    (0 < xs.length → ∃ b off, ao = some ⟨b, off, none⟩ ∧ ∀ j u, xs[j]? = some u → w.cell? ⟨b, off + j, none⟩ = some u)

theorem Reads.below {w w' : World} {v : Value} {n size : Nat} {xs : List Value} (h : Reads w v n size xs) (hb : Below w.heap.size w w') : Reads w' v n size xs := by
  obtain ⟨ao, cap, rfl, h1, h2, hn, h3, h4⟩ := h
  refine ⟨ao, cap, rfl, h1, h2, hn, h3, fun hp => ?_⟩
  obtain ⟨b, off, rfl, hc⟩ := h4 hp
  refine ⟨b, off, rfl, fun j u hj => ?_⟩
  have := hc j u hj
  rw [hb.cell (World.block_lt_of_cell? w _ this)]
  exact this

theorem below_draws (w : World) (n : Nat) : Below w.heap.size w (w.drewN n) := below_drewN (Below.refl _ _) n

theorem Reads.drewN {w : World} {v : Value} {n size : Nat} {xs : List Value} (h : Reads w v n size xs) (k : Nat) : Reads (w.drewN k) v n size xs := h.below (below_draws w k)

/-- An owned row is one that reads so. -/
theorem reads_of_owns {w : World} {base : Nat} {e : TypeId} {size : Nat} {v : Value} {n : Nat} {xs : List Value} (h : w.ownsRow base e size v n xs) : Reads w v n size xs := by
  obtain ⟨h1, h2⟩ := h
  rcases h2 with ⟨rfl, rfl⟩ | ⟨g, cap, cur, rfl, hb, hg, hn, hc, hs, ht⟩
  · exact ⟨none, 0, rfl, Nat.le_refl _, Nat.zero_le _, fun _ => rfl, h1, fun hp => by omega⟩
  · refine ⟨_, cap, rfl, hn, hc, fun h => by simp at h, h1, fun hp => ⟨g, 0, rfl, fun j u hj => ?_⟩⟩
    have hj2 : j < xs.length := (List.getElem?_eq_some_iff.1 hj).1
    subst ht
    rw [List.getElem?_take] at hj
    split at hj
    · simp only [World.cell?, hg, Nat.zero_add]
      simpa using hj
    · cases hj

/-- What an integer argument slice gives (IsRow of the frames), as a row that reads. -/
theorem reads_int {k : IntKind} {w : World} {a : Option Addr} {len cap : Nat} {zs : List Int}
    (h : (a = none ∧ len = 0 ∧ cap = 0 ∧ zs = []) ∨ ∃ x, a = some x ∧ len ≤ cap ∧ cap ≤ maxLen ∧ zs.length = cap ∧ (∀ i, i < zs.length → w.cell? (x.add i) = some (.int k (zs.getD i 0))) ∧ ∀ n ∈ zs, (Lit.int k n).wf = true) :
    Reads w (.slice a len cap) len 1 ((zs.take len).map (Value.int k)) := by
  rcases h with ⟨rfl, rfl, rfl, rfl⟩ | ⟨⟨b, off, sp⟩, rfl, hl, hm, hz, hcell, hwz⟩
  · exact ⟨none, 0, rfl, Nat.le_refl _, Nat.zero_le _, fun _ => rfl, by simp, fun hp => by simp at hp⟩
  · refine ⟨_, cap, rfl, hl, hm, fun h => by simp at h, by simp; omega, fun hp => ?_⟩
    have hp' : 0 < len := by simp at hp; omega
    have h0 := hcell 0 (by omega)
    have hspot : sp = none := by simpa [Addr.add] using World.cell?_spot h0
    subst hspot
    refine ⟨b, off, rfl, fun j u hj => ?_⟩
    simp only [List.getElem?_map, Option.map_eq_some_iff] at hj
    obtain ⟨x, hx, rfl⟩ := hj
    rw [List.getElem?_take] at hx
    split at hx
    · rename_i hjl
      have hc := hcell j (by omega)
      have e : zs.getD j 0 = x := by simp [hx]
      rw [e] at hc
      have e2 : (Addr.add ⟨b, off, none⟩ j) = ⟨b, off + j, none⟩ := by
        unfold Addr.add
        split
        · rename_i e; subst e; rfl
        · rfl
      rw [← e2]; exact hc
    · cases hx

theorem Reads.len {w : World} {v : Value} {n size : Nat} {xs : List Value} (h : Reads w v n size xs) : xs.length = n * size := by obtain ⟨_, _, _, _, _, _, h, _⟩ := h; exact h
theorem Reads.bound {w : World} {v : Value} {n size : Nat} {xs : List Value} (h : Reads w v n size xs) : n ≤ 9223372036854775807 := by
  obtain ⟨_, cap, _, h1, h2, _⟩ := h; unfold maxLen at h2; omega

/-- 'append(out, x)' of ONE element: x lies in the block that was made last. -/
theorem wpList_append_one {P : Program} {w1 : World} {ops : Array Oper} {rest : List Oper} {o : Oper} {a : Act} {Q : Exit → Act → World → Prop} (hgd : o.guard = none) (s x : Operand) (t : TypeId)
    (ho : o.op = .call { callee := .builtin .append, args := #[s, x], argTypes := #[t, t] })
    (base : Nat) (e : TypeId) (z : Value) (size bytes : Nat) (ht : P.underlying t = some (.slice e)) (hinf : (P.info? e).map (fun i => (i.zero, i.size, i.bytes)) = some (some z, size, bytes)) (hzs : z.cells.size = size) (hsz : 0 < size) (hby : bytes ≤ 1024)
    (v : Value) (n : Nat) (xs : List Value) (hs : a.eval s = v) (hown : w1.ownsRow base e size v n xs)
    (news : Array Value) (e' : TypeId) (B : Nat) (hx : a.eval x = .slice (some ⟨B, 0, none⟩) 1 1) (hB : B = w1.heap.size) (hl : news.size = size) (h1 : ∀ u ∈ news.toList, u.oneCell' = true)
    (hn : n < 68719476736) (hbase : base ≤ w1.heap.size)
    (h : ∀ v' w', w'.ownsRow base e size v' (n + 1) (xs ++ news.toList) → (w1.alloc (.cells news e')).grownBy w' v.ownBlock → wpList P ops Q rest (a.put o.dst v') w') : wpList P ops Q (o :: rest) a (w1.alloc (.cells news e')) := by
  subst hB
  obtain ⟨i, hi, hz0, hz1, hz2⟩ := info_parts hinf
  refine wpList_append_own _ hgd s x t ho base e i z size bytes ht hi hz0 hz1 hz2 hzs hsz v n xs hs (hown.alloc _) ⟨w1.heap.size, 0, none⟩ 1 1 news.toList hx (by simp [hl]) ?_ h1 (by unfold maxLen; omega) ?_ (by simp; omega) fun v' w' h2 h3 _ => h v' w' h2 h3
  · intro j u hj
    have e2 : (Addr.add ⟨w1.heap.size, 0, none⟩ j) = ⟨w1.heap.size, j, none⟩ := by
      unfold Addr.add
      split
      · rename_i e; subst e; rfl
      · simp
    rw [e2]
    have : (w1.alloc (.cells news e')).heap[w1.heap.size]? = some (.cells news e' (0, 0)) := heap_alloc_new w1 _
    simp only [World.cell?, this]
    simpa using hj
  · calc (n + 1) * bytes ≤ 68719476736 * 1024 := Nat.mul_le_mul (by omega) hby
      _ ≤ 140737488355328 := by decide

theorem below_grown {w w1 w' : World} {row : Option Nat} {B : Nat} (hb : Below B w w1) (hg : w1.grownBy w' row) (hB : B ≤ w1.heap.size) (hr : ∀ k, row = some k → B ≤ k) : Below B w w' := hb.grown hg hB hr

/-- What an append into a row of the call's own (from B on) leaves of the rest. -/
theorem below_own {w w1 w' : World} {e : TypeId} {size n : Nat} {v : Value} {xs : List Value} {B : Nat} (hb : Below B w w1) (hown : w1.ownsRow B e size v n xs) (o : Obj) (hg : (w1.alloc o).grownBy w' v.ownBlock) (hB : B ≤ w1.heap.size) : Below B w w' :=
  (hb.alloc hB o).grown hg (by simp; omega) fun k hk => (hown.lt k hk).1

theorem addr_add (b off j : Nat) : (Addr.add ⟨b, off, none⟩ j) = ⟨b, off + j, none⟩ := by
  unfold Addr.add
  split
  · rename_i e; subst e; rfl
  · rfl

/-- 'append(out, ys...)' where ys is a row that reads (nil too). -/
theorem wpList_append_reads {P : Program} {w : World} {ops : Array Oper} {rest : List Oper} {o : Oper} {a : Act} {Q : Exit → Act → World → Prop} (hgd : o.guard = none) (s x : Operand) (t : TypeId)
    (ho : o.op = .call { callee := .builtin .append, args := #[s, x], argTypes := #[t, t] })
    (base : Nat) (e : TypeId) (z : Value) (size bytes : Nat) (ht : P.underlying t = some (.slice e)) (hinf : (P.info? e).map (fun i => (i.zero, i.size, i.bytes)) = some (some z, size, bytes)) (hzs : z.cells.size = size) (hsz : 0 < size) (hby : bytes ≤ 1024)
    (v : Value) (n : Nat) (xs : List Value) (hs : a.eval s = v) (hown : w.ownsRow base e size v n xs)
    (xv : Value) (m : Nat) (news : List Value) (hx : a.eval x = xv) (hr : Reads w xv m size news) (h1 : ∀ u ∈ news, u.oneCell' = true)
    (hn : n + m ≤ 68719476736) (hbase : base ≤ w.heap.size)
    (h : ∀ v' w', w'.ownsRow base e size v' (n + m) (xs ++ news) → w.grownBy w' v.ownBlock → wpList P ops Q rest (a.put o.dst v') w') : wpList P ops Q (o :: rest) a w := by
  obtain ⟨i, hi, hz0, hz1, hz2⟩ := info_parts hinf
  obtain ⟨ao, cap, rfl, k1, k2, k3, k4, k5⟩ := hr
  cases ao with
  | none =>
    obtain rfl : cap = 0 := k3 rfl
    obtain rfl : m = 0 := by omega
    obtain rfl : news = [] := List.eq_nil_of_length_eq_zero (by simpa using k4)
    refine wpList_append_own_none hgd s x t ho base e i size ht hi v n xs hs hown hx ?_
    subst hs
    exact h _ w (by simpa using hown) (World.grownBy.refl _ _)
  | some ad =>
    refine wpList_append_own _ hgd s x t ho base e i z size bytes ht hi hz0 hz1 hz2 hzs hsz v n xs hs hown ad m cap news hx k4 ?_ h1 (by unfold maxLen; omega) ?_ hbase fun v' w' h2 h3 _ => h v' w' h2 h3
    · intro j u hj
      have hj2 : j < news.length := (List.getElem?_eq_some_iff.1 hj).1
      obtain ⟨b, off, e1, hc⟩ := k5 (by omega)
      obtain rfl : ad = ⟨b, off, none⟩ := by simpa using e1
      rw [addr_add]
      exact hc j u hj
    · calc (n + m) * bytes ≤ 68719476736 * 1024 := Nat.mul_le_mul hn hby
        _ ≤ 140737488355328 := by decide
theorem below_own' {w w1 w' : World} {e : TypeId} {size n : Nat} {v : Value} {xs : List Value} {B : Nat} (hb : Below B w w1) (hown : w1.ownsRow B e size v n xs) (hg : w1.grownBy w' v.ownBlock) (hB : B ≤ w1.heap.size) : Below B w w' :=
  hb.grown hg hB fun k hk => (hown.lt k hk).1
theorem Reads.alloc {w : World} {v : Value} {n size : Nat} {xs : List Value} (h : Reads w v n size xs) (o : Obj) : Reads (w.alloc o) v n size xs := h.below ((Below.refl _ _).alloc (Nat.le_refl _) _)
end Go.Trav
