/- Own small lemmas over the kit: slices that are read (Reads), and how they stay. No program in sight. -/
import Derived.WalkKit
import Derived.ProofKit
import Derived.OpenShut
import Derived.ShutString
import Derived.Below
import Derived.ChangeOld
import Derived.Lib.Hide
import Derived.Laws.BitsAllLaws
import Derived.WalkSmall
import Derived.Laws.AppendOwnNone
import Derived.Maps.AppendAt
namespace Go.Trav
open Go.ChangeShapes Go.WideShapes Go.ChangeAt Go.RowKit
set_option linter.unusedVariables false

/-- A slice value of n elements (size cells each) whose cells read as xs. -/
def Reads (w : World) (v : Value) (n size : Nat) (xs : List Value) : Prop :=
  ∃ ao cap, v = .slice ao n cap ∧ n ≤ cap ∧ cap ≤ maxLen ∧ (ao = none → cap = 0) ∧ xs.length = n * size ∧
    (0 < xs.length → ∃ b off, ao = some ⟨b, off, none⟩ ∧ ∀ j u, xs[j]? = some u → w.cell? ⟨b, off + j, none⟩ = some u)

theorem Reads.below {w w' : World} {v : Value} {n size : Nat} {xs : List Value} (h : Reads w v n size xs) (hb : Below w.heap.size w w') : Reads w' v n size xs := by
  obtain ⟨ao, cap, rfl, h1, h2, hn, h3, h4⟩ := h
  refine ⟨ao, cap, rfl, h1, h2, hn, h3, fun hp => ?_⟩
  obtain ⟨b, off, rfl, hc⟩ := h4 hp
  refine ⟨b, off, rfl, fun j u hj => ?_⟩
  have := hc j u hj
  rw [hb.cell (World.block_lt_of_cell? w _ this)]
  exact this

theorem below_draws (w : World) (n : Nat) : Below w.heap.size w (w.drewN n) := below_drewN (Below.refl _ _) n

theorem Reads.drewN {w : World} {v : Value} {n size : Nat} {xs : List Value} (h : Reads w v n size xs) (k : Nat) : Reads (w.drewN k) v n size xs := h.below (below_draws w k)

/-- An owned row is one that reads so. -/
theorem reads_of_owns {w : World} {base : Nat} {e : TypeId} {size : Nat} {v : Value} {n : Nat} {xs : List Value} (h : w.ownsRow base e size v n xs) : Reads w v n size xs := by
  obtain ⟨h1, h2⟩ := h
  rcases h2 with ⟨rfl, rfl⟩ | ⟨g, cap, cur, rfl, hb, hg, hn, hc, hs, ht⟩
  · exact ⟨none, 0, rfl, Nat.le_refl _, Nat.zero_le _, fun _ => rfl, h1, fun hp => by omega⟩
  · refine ⟨_, cap, rfl, hn, hc, fun h => by simp at h, h1, fun hp => ⟨g, 0, rfl, fun j u hj => ?_⟩⟩
    have hj2 : j < xs.length := (List.getElem?_eq_some_iff.1 hj).1
    subst ht
    rw [List.getElem?_take] at hj
    split at hj
    · simp only [World.cell?, hg, Nat.zero_add]
      simpa using hj
    · cases hj

/-- What an integer argument slice gives (IsRow of the frames), as a row that reads. -/
theorem reads_int {k : IntKind} {w : World} {a : Option Addr} {len cap : Nat} {zs : List Int}
    (h : (a = none ∧ len = 0 ∧ cap = 0 ∧ zs = []) ∨ ∃ x, a = some x ∧ len ≤ cap ∧ cap ≤ maxLen ∧ zs.length = cap ∧ (∀ i, i < zs.length → w.cell? (x.add i) = some (.int k (zs.getD i 0))) ∧ ∀ n ∈ zs, (Lit.int k n).wf = true) :
    Reads w (.slice a len cap) len 1 ((zs.take len).map (Value.int k)) := by
  rcases h with ⟨rfl, rfl, rfl, rfl⟩ | ⟨⟨b, off, sp⟩, rfl, hl, hm, hz, hcell, hwz⟩
  · exact ⟨none, 0, rfl, Nat.le_refl _, Nat.zero_le _, fun _ => rfl, by simp, fun hp => by simp at hp⟩
  · refine ⟨_, cap, rfl, hl, hm, fun h => by simp at h, by simp; omega, fun hp => ?_⟩
    have hp' : 0 < len := by simp at hp; omega
    have h0 := hcell 0 (by omega)
    have hspot : sp = none := by simpa [Addr.add] using World.cell?_spot h0
    subst hspot
    refine ⟨b, off, rfl, fun j u hj => ?_⟩
    simp only [List.getElem?_map, Option.map_eq_some_iff] at hj
    obtain ⟨x, hx, rfl⟩ := hj
    rw [List.getElem?_take] at hx
    split at hx
    · rename_i hjl
      have hc := hcell j (by omega)
      have e : zs.getD j 0 = x := by simp [hx]
      rw [e] at hc
      have e2 : (Addr.add ⟨b, off, none⟩ j) = ⟨b, off + j, none⟩ := by
        unfold Addr.add
        split
        · rename_i e; subst e; rfl
        · rfl
      rw [← e2]; exact hc
    · cases hx

theorem Reads.len {w : World} {v : Value} {n size : Nat} {xs : List Value} (h : Reads w v n size xs) : xs.length = n * size := by obtain ⟨_, _, _, _, _, _, h, _⟩ := h; exact h
theorem Reads.bound {w : World} {v : Value} {n size : Nat} {xs : List Value} (h : Reads w v n size xs) : n ≤ 9223372036854775807 := by
  obtain ⟨_, cap, _, h1, h2, _⟩ := h; unfold maxLen at h2; omega

theorem ownsRow_form {w : World} {base : Nat} {e : TypeId} {size : Nat} {v : Value} {n : Nat} {xs : List Value} (h : w.ownsRow base e size v n xs) : ∃ ao cap, v = .slice ao n cap := by
  rcases h.2 with ⟨rfl, rfl⟩ | ⟨g, cap, cur, rfl, _⟩
  · exact ⟨none, 0, rfl⟩
  · exact ⟨_, _, rfl⟩

/-- 'append(out, x)' of ONE element: x lies in the block that was made last. -/
theorem wpList_append_one {P : Program} {w1 : World} {ops : Array Oper} {rest : List Oper} {o : Oper} {a : Act} {Q : Exit → Act → World → Prop} (hgd : o.guard = none) (s x : Operand) (t : TypeId)
    (ho : o.op = .call { callee := .builtin .append, args := #[s, x], argTypes := #[t, t] })
    (base : Nat) (e : TypeId) (z : Value) (size bytes : Nat) (ht : P.underlying t = some (.slice e)) (hinf : (P.info? e).map (fun i => (i.zero, i.size, i.bytes)) = some (some z, size, bytes)) (hzs : z.cells.size = size) (hsz : 0 < size) (hby : bytes ≤ 1024)
    (v : Value) (n : Nat) (xs : List Value) (hs : a.eval s = v) (hown : w1.ownsRow base e size v n xs)
    (news : Array Value) (e' : TypeId) (B : Nat) (hx : a.eval x = .slice (some ⟨B, 0, none⟩) 1 1) (hB : B = w1.heap.size) (hl : news.size = size) (h1 : ∀ u ∈ news.toList, u.oneCell' = true)
    (hn : n < 68719476736) (hbase : base ≤ w1.heap.size)
    (h : ∀ ao cap w', w'.ownsRow base e size (.slice ao (n + 1) cap) (n + 1) (xs ++ news.toList) → (w1.alloc (.cells news e')).grownBy w' v.ownBlock → ((Value.slice ao (n + 1) cap).ownBlock = v.ownBlock ∨ (Value.slice ao (n + 1) cap).ownBlock = some (w1.heap.size + 1)) → wpList P ops Q rest (a.put o.dst (.slice ao (n + 1) cap)) w') : wpList P ops Q (o :: rest) a (w1.alloc (.cells news e')) := by
  subst hB
  obtain ⟨i, hi, hz0, hz1, hz2⟩ := info_parts hinf
  refine wpList_append_own_at (w := w1.alloc (.cells news e')) hgd s x t ho base e i z size bytes ht hi hz0 hz1 hz2 hzs hsz v n xs hs (hown.alloc _) ⟨w1.heap.size, 0, none⟩ 1 1 news.toList hx (by simp [hl]) ?_ h1 (by unfold maxLen; omega) ?_ (by simp; omega) fun v' w' h2 h3 _ h5 => by
    obtain ⟨ao, cap, rfl⟩ := ownsRow_form h2
    exact h ao cap w' h2 h3 (by simpa using h5)
  · intro j u hj
    have e2 : (Addr.add ⟨w1.heap.size, 0, none⟩ j) = ⟨w1.heap.size, j, none⟩ := by
      unfold Addr.add
      split
      · rename_i e; subst e; rfl
      · simp
    rw [e2]
    have : (w1.alloc (.cells news e')).heap[w1.heap.size]? = some (.cells news e' (0, 0)) := heap_alloc_new w1 _
    simp only [World.cell?, this]
    simpa using hj
  · calc (n + 1) * bytes ≤ 68719476736 * 1024 := Nat.mul_le_mul (by omega) hby
      _ ≤ 140737488355328 := by decide

theorem below_grown {w w1 w' : World} {row : Option Nat} {B : Nat} (hb : Below B w w1) (hg : w1.grownBy w' row) (hB : B ≤ w1.heap.size) (hr : ∀ k, row = some k → B ≤ k) : Below B w w' := hb.grown hg hB hr

/-- What an append into a row of the call's own (from B on) leaves of the rest. -/
theorem below_own {w w1 w' : World} {e : TypeId} {size n : Nat} {v : Value} {xs : List Value} {B : Nat} (hb : Below B w w1) (hown : w1.ownsRow B e size v n xs) (o : Obj) (hg : (w1.alloc o).grownBy w' v.ownBlock) (hB : B ≤ w1.heap.size) : Below B w w' :=
  (hb.alloc hB o).grown hg (by simp; omega) fun k hk => (hown.lt k hk).1

theorem addr_add (b off j : Nat) : (Addr.add ⟨b, off, none⟩ j) = ⟨b, off + j, none⟩ := by
  unfold Addr.add
  split
  · rename_i e; subst e; rfl
  · rfl

/-- 'append(out, ys...)' where ys is a row that reads (nil too). -/
theorem wpList_append_reads {P : Program} {w : World} {ops : Array Oper} {rest : List Oper} {o : Oper} {a : Act} {Q : Exit → Act → World → Prop} (hgd : o.guard = none) (s x : Operand) (t : TypeId)
    (ho : o.op = .call { callee := .builtin .append, args := #[s, x], argTypes := #[t, t] })
    (base : Nat) (e : TypeId) (z : Value) (size bytes : Nat) (ht : P.underlying t = some (.slice e)) (hinf : (P.info? e).map (fun i => (i.zero, i.size, i.bytes)) = some (some z, size, bytes)) (hzs : z.cells.size = size) (hsz : 0 < size) (hby : bytes ≤ 1024)
    (v : Value) (n : Nat) (xs : List Value) (hs : a.eval s = v) (hown : w.ownsRow base e size v n xs)
    (xv : Value) (m : Nat) (news : List Value) (hx : a.eval x = xv) (hr : Reads w xv m size news) (h1 : ∀ u ∈ news, u.oneCell' = true)
    (hn : n + m ≤ 68719476736) (hbase : base ≤ w.heap.size)
    (h : ∀ ao cap w', w'.ownsRow base e size (.slice ao (n + m) cap) (n + m) (xs ++ news) → w.grownBy w' v.ownBlock → ((Value.slice ao (n + m) cap).ownBlock = v.ownBlock ∨ (Value.slice ao (n + m) cap).ownBlock = some w.heap.size) → wpList P ops Q rest (a.put o.dst (.slice ao (n + m) cap)) w') : wpList P ops Q (o :: rest) a w := by
  obtain ⟨i, hi, hz0, hz1, hz2⟩ := info_parts hinf
  obtain ⟨ao, cap, rfl, k1, k2, k3, k4, k5⟩ := hr
  cases ao with
  | none =>
    obtain rfl : cap = 0 := k3 rfl
    obtain rfl : m = 0 := by omega
    obtain rfl : news = [] := List.eq_nil_of_length_eq_zero (by simpa using k4)
    refine wpList_append_own_none hgd s x t ho base e i size ht hi v n xs hs hown hx ?_
    obtain ⟨ao, cap, rfl⟩ := ownsRow_form hown
    rw [← hs]
    have := h ao cap w (by simpa using hown) (World.grownBy.refl _ _) (Or.inl rfl)
    rw [hs]
    exact this
  | some ad =>
    refine wpList_append_own_at (w := w) hgd s x t ho base e i z size bytes ht hi hz0 hz1 hz2 hzs hsz v n xs hs hown ad m cap news hx k4 ?_ h1 (by unfold maxLen; omega) ?_ hbase fun v' w' h2 h3 _ h5 => by
      obtain ⟨ao, cap, rfl⟩ := ownsRow_form h2
      exact h ao cap w' h2 h3 h5
    · intro j u hj
      have hj2 : j < news.length := (List.getElem?_eq_some_iff.1 hj).1
      obtain ⟨b, off, e1, hc⟩ := k5 (by omega)
      obtain rfl : ad = ⟨b, off, none⟩ := by simpa using e1
      rw [addr_add]
      exact hc j u hj
    · calc (n + m) * bytes ≤ 68719476736 * 1024 := Nat.mul_le_mul hn hby
        _ ≤ 140737488355328 := by decide
theorem below_own' {w w1 w' : World} {e : TypeId} {size n : Nat} {v : Value} {xs : List Value} {B : Nat} (hb : Below B w w1) (hown : w1.ownsRow B e size v n xs) (hg : w1.grownBy w' v.ownBlock) (hB : B ≤ w1.heap.size) : Below B w w' :=
  hb.grown hg hB fun k hk => (hown.lt k hk).1
theorem Reads.alloc {w : World} {v : Value} {n size : Nat} {xs : List Value} (h : Reads w v n size xs) (o : Obj) : Reads (w.alloc o) v n size xs := h.below ((Below.refl _ _).alloc (Nat.le_refl _) _)

/-! Rows of records: s cells each. -/
theorem flatMap_len {α : Type} (f : α → List Value) (s : Nat) (hf : ∀ x, (f x).length = s) (l : List α) : (l.flatMap f).length = l.length * s := by
  induction l with
  | nil => simp
  | cons c r ih => simp only [List.flatMap_cons, List.length_append, hf, ih, List.length_cons, Nat.add_mul]; omega
theorem flatMap_at {α : Type} (f : α → List Value) (s : Nat) (hf : ∀ x, (f x).length = s) (l : List α) (k j : Nat) (hj : j < s) (x : α) (hk : l[k]? = some x) : (l.flatMap f)[k * s + j]? = (f x)[j]? := by
  induction l generalizing k with
  | nil => simp at hk
  | cons c r ih =>
    cases k with
    | zero =>
      simp at hk
      subst hk
      simp only [List.flatMap_cons, Nat.zero_mul, Nat.zero_add]
      rw [List.getElem?_append_left (by rw [hf]; exact hj)]
    | succ k =>
      simp at hk
      simp only [List.flatMap_cons]
      rw [List.getElem?_append_right (by rw [hf, Nat.add_mul]; omega), hf]
      have e : (k + 1) * s + j - s = k * s + j := by rw [Nat.add_mul]; omega
      rw [e]
      exact ih k hk
theorem flatMap_take {α : Type} (f : α → List Value) (s : Nat) (hf : ∀ x, (f x).length = s) (l : List α) (k : Nat) : (l.flatMap f).take (k * s) = (l.take k).flatMap f := by
  induction l generalizing k with
  | nil => simp
  | cons c r ih =>
    cases k with
    | zero => simp
    | succ k =>
      simp only [List.flatMap_cons, List.take_succ_cons]
      rw [List.take_append, List.take_of_length_le (by rw [hf, Nat.add_mul]; omega), hf]
      have e : (k + 1) * s - s = k * s := by rw [Nat.add_mul]; omega
      rw [e, ih]
theorem take_snoc' {α : Type} (l : List α) (k : Nat) (x : α) (h : l[k]? = some x) : l.take (k + 1) = l.take k ++ [x] := by
  rw [List.take_add_one, h]; rfl
/-- Record k of a row that reads. -/
theorem Reads.rec {α : Type} {w : World} {v : Value} {n s : Nat} {l : List α} (f : α → List Value) (hf : ∀ x, (f x).length = s) (h : Reads w v n s (l.flatMap f)) (hs : 0 < s) {k : Nat} (hk : k < n) :
    ∃ b off cap x, v = .slice (some ⟨b, off, none⟩) n cap ∧ l[k]? = some x ∧ ∀ j u, (f x)[j]? = some u → w.cell? ⟨b, off + k * s + j, none⟩ = some u := by
  obtain ⟨ao, cap, rfl, h1, h2, _, h3, h4⟩ := h
  rw [flatMap_len f s hf] at h3 h4
  have hl : l.length = n := by
    exact Nat.eq_of_mul_eq_mul_right hs h3
  obtain ⟨b, off, rfl, hc⟩ := h4 (Nat.mul_pos (by omega) hs)
  refine ⟨b, off, cap, l[k], rfl, List.getElem?_eq_getElem (by omega), fun j u hj => ?_⟩
  have hj2 : j < s := by rw [← hf l[k]]; exact (List.getElem?_eq_some_iff.1 hj).1
  have := hc (k * s + j) u (by rw [flatMap_at f s hf l k j hj2 l[k] (List.getElem?_eq_getElem (by omega))]; exact hj)
  rwa [← Nat.add_assoc] at this
theorem Reads.one {α : Type} {w : World} {v : Value} {n : Nat} {l : List α} (f : α → Value) (h : Reads w v n 1 (l.map f)) {k : Nat} (hk : k < n) :
    ∃ b off cap x, v = .slice (some ⟨b, off, none⟩) n cap ∧ l[k]? = some x ∧ w.cell? ⟨b, off + k, none⟩ = some (f x) := by
  obtain ⟨ao, cap, rfl, h1, h2, _, h3, h4⟩ := h
  simp only [List.length_map, Nat.mul_one] at h3 h4
  obtain ⟨b, off, rfl, hc⟩ := h4 (by omega)
  exact ⟨b, off, cap, l[k], rfl, List.getElem?_eq_getElem (by omega), hc k _ (by simp [List.getElem?_eq_getElem (show k < l.length by omega)])⟩
theorem Reads.recs {α : Type} {w : World} {v : Value} {n s : Nat} {l : List α} (f : α → List Value) (hf : ∀ x, (f x).length = s) (h : Reads w v n s (l.flatMap f)) (hs : 0 < s) : l.length = n := by
  have := h.len
  rw [flatMap_len f s hf] at this
  exact Nat.eq_of_mul_eq_mul_right hs this
theorem Reads.form {w : World} {v : Value} {n s : Nat} {xs : List Value} (h : Reads w v n s xs) : ∃ ao cap, v = .slice ao n cap := by
  obtain ⟨ao, cap, rfl, _⟩ := h; exact ⟨ao, cap, rfl⟩

/-! A block known whole. -/
theorem heap_alloc_at (w : World) (o : Obj) (B : Nat) (hB : B = w.heap.size) : (w.alloc o).heap[B]? = some o := by subst hB; exact heap_alloc_new _ _
theorem block_cell {w : World} {B i : Nat} {c : Array Value} {T : TypeId} {fr : Nat × Nat} {u : Value} (h : w.heap[B]? = some (.cells c T fr)) (hu : c[i]? = some u) : w.cell? ⟨B, i, none⟩ = some u := by
  simp only [World.cell?, h]; simpa using hu
theorem block_free {w : World} {B i : Nat} {c : Array Value} {T : TypeId} (h : w.heap[B]? = some (.cells c T (0, 0))) : w.frozen? ⟨B, i, none⟩ = false := by
  simp [World.frozen?, h]
theorem block_set {w : World} {B i : Nat} {c : Array Value} {T : TypeId} {fr : Nat × Nat} {u : Value} (h : w.heap[B]? = some (.cells c T fr)) : (w.setCell ⟨B, i, none⟩ u).heap[B]? = some (.cells (c.setIfInBounds i u) T fr) := by
  simp only [World.setCell, Array.getElem?_modify, h]; simp
theorem block_set_ne {w : World} {B : Nat} {o : Obj} {a : Addr} {u : Value} (h : w.heap[B]? = some o) (hn : a.block ≠ B) : (w.setCell a u).heap[B]? = some o := by
  rw [Below.heap_setCell _ _ _ _ (fun e => hn e.symm)]; exact h
theorem row_set {α : Type} (f : α → Value) (l : List α) (i : Nat) (x : α) : (l.map f).toArray.setIfInBounds i (f x) = ((l.set i x).map f).toArray := by
  simp [List.map_set]
theorem block_lt {w : World} {B : Nat} {o : Obj} (h : w.heap[B]? = some o) : B < w.heap.size := (Array.getElem?_eq_some_iff.1 h).1
theorem block_alloc {w : World} {B : Nat} {o o' : Obj} (h : w.heap[B]? = some o) : (w.alloc o').heap[B]? = some o := by
  rw [Below.heap_alloc _ _ _ (block_lt h)]; exact h
theorem block_below {w w' : World} {B K : Nat} {o : Obj} (h : w.heap[B]? = some o) (hb : Below K w w') (hk : B < K) : w'.heap[B]? = some o := by
  rw [hb.block B hk]; exact h
theorem ownsRow_setCell_ne {w : World} {base : Nat} {e : TypeId} {size : Nat} {v : Value} {n : Nat} {xs : List Value} (h : w.ownsRow base e size v n xs) {a : Addr} (ha : some a.block ≠ v.ownBlock) (u : Value) : (w.setCell a u).ownsRow base e size v n xs := by
  obtain ⟨h1, h2⟩ := h
  refine ⟨h1, ?_⟩
  rcases h2 with h2 | ⟨g, cap, cur, hv, hg, hh, r⟩
  · exact Or.inl h2
  · refine Or.inr ⟨g, cap, cur, hv, hg, ?_, r⟩
    rw [Below.heap_setCell _ _ _ _ (by rw [hv] at ha; simp [Value.ownBlock] at ha; omega)]; exact hh
theorem ownsRow_mono {w : World} {base base' : Nat} {e : TypeId} {size : Nat} {v : Value} {n : Nat} {xs : List Value} (h : w.ownsRow base e size v n xs) (hb : base' ≤ base) : w.ownsRow base' e size v n xs := by
  obtain ⟨h1, h2⟩ := h
  refine ⟨h1, ?_⟩
  rcases h2 with h2 | ⟨g, cap, cur, hv, hg, r⟩
  · exact Or.inl h2
  · exact Or.inr ⟨g, cap, cur, hv, by omega, r⟩
theorem ownsRow_below {w w' : World} {base K : Nat} {e : TypeId} {size : Nat} {v : Value} {n : Nat} {xs : List Value} (h : w.ownsRow base e size v n xs) (hb : Below K w w') (hk : ∀ g, v.ownBlock = some g → g < K) : w'.ownsRow base e size v n xs := by
  obtain ⟨h1, h2⟩ := h
  refine ⟨h1, ?_⟩
  rcases h2 with h2 | ⟨g, cap, cur, hv, hg, hh, r⟩
  · exact Or.inl h2
  · refine Or.inr ⟨g, cap, cur, hv, hg, ?_, r⟩
    rw [hb.block g (hk g (by rw [hv]; rfl))]; exact hh

theorem ownsRow_ne_block {w : World} {base B : Nat} {e T : TypeId} {size : Nat} {v : Value} {n : Nat} {xs : List Value} {c : Array Value} {fr : Nat × Nat} (h : w.ownsRow base e size v n xs) (hB : w.heap[B]? = some (.cells c T fr)) (hT : T ≠ e) : v.ownBlock ≠ some B := by
  intro hv
  rcases h.2 with ⟨rfl, _⟩ | ⟨g, cap, cur, rfl, _, hg, _⟩
  · simp [Value.ownBlock] at hv
  · simp [Value.ownBlock] at hv
    subst hv
    rw [hB] at hg
    cases hg
    exact hT rfl

/-! A frame: of what was there only the blocks of F may have turned. -/
structure Mod (F : Nat → Prop) (w w' : World) : Prop where
  os : w'.os = w.os
  tape : w'.tape = w.tape
  output : w'.output = w.output
  size : w.heap.size ≤ w'.heap.size
  block : ∀ k, k < w.heap.size → ¬ F k → w'.heap[k]? = w.heap[k]?
theorem Mod.refl (F : Nat → Prop) (w : World) : Mod F w w := ⟨rfl, rfl, rfl, Nat.le_refl _, fun _ _ _ => rfl⟩
theorem Mod.trans {F : Nat → Prop} {a b c : World} (h : Mod F a b) (k : Mod F b c) : Mod F a c :=
  ⟨k.os.trans h.os, k.tape.trans h.tape, k.output.trans h.output, Nat.le_trans h.size k.size, fun i hi hn => (k.block i (Nat.lt_of_lt_of_le hi h.size) hn).trans (h.block i hi hn)⟩
theorem Mod.mono {F G : Nat → Prop} {w w' : World} (h : Mod F w w') (hG : ∀ k, k < w.heap.size → F k → G k) : Mod G w w' :=
  ⟨h.os, h.tape, h.output, h.size, fun k hk hn => h.block k hk fun hf => hn (hG k hk hf)⟩
/-- Two steps, the second of which may turn what is new since the first began, too. -/
theorem Mod.step {F G : Nat → Prop} {a b c : World} (h : Mod F a b) (k : Mod G b c) (hG : ∀ i, i < a.heap.size → G i → F i) : Mod F a c :=
  ⟨k.os.trans h.os, k.tape.trans h.tape, k.output.trans h.output, Nat.le_trans h.size k.size, fun i hi hn => (k.block i (Nat.lt_of_lt_of_le hi h.size) (fun hg => hn (hG i hi hg))).trans (h.block i hi hn)⟩
theorem Mod.alloc {F : Nat → Prop} {a w : World} (h : Mod F a w) (o : Obj) : Mod F a (w.alloc o) :=
  h.trans ⟨rfl, rfl, rfl, by simp, fun k hk _ => Below.heap_alloc _ _ _ hk⟩
theorem Mod.setCell {F : Nat → Prop} {a w : World} (h : Mod F a w) {p : Addr} (hp : p.block < a.heap.size → F p.block) (u : Value) : Mod F a (w.setCell p u) := by
  refine ⟨h.os, h.tape, h.output, by simpa [World.setCell] using h.size, fun k hk hn => ?_⟩
  by_cases e : k = p.block
  · subst e; exact absurd (hp hk) hn
  · rw [Below.heap_setCell _ _ _ _ e]; exact h.block k hk hn
theorem Mod.drewN {F : Nat → Prop} {a w : World} (h : Mod F a w) (n : Nat) : Mod F a (w.drewN n) := h.trans ⟨rfl, rfl, rfl, Nat.le_refl _, fun _ _ _ => rfl⟩
theorem Mod.of_below {F : Nat → Prop} {w w' : World} (h : Below w.heap.size w w') : Mod F w w' := ⟨h.os, h.tape, h.output, h.size, fun k hk _ => h.block k hk⟩
theorem Mod.below {F : Nat → Prop} {a w w' : World} (h : Mod F a w) (hb : Below w.heap.size w w') : Mod F a w' := h.trans (Mod.of_below hb)
theorem Mod.grown {F : Nat → Prop} {a w w' : World} {row : Option Nat} (h : Mod F a w) (hg : w.grownBy w' row) (hr : ∀ k, row = some k → k < a.heap.size → F k) : Mod F a w' :=
  ⟨hg.os.trans h.os, hg.tape.trans h.tape, hg.output.trans h.output, Nat.le_trans h.size hg.size, fun i hi hn => (hg.block i (Nat.lt_of_lt_of_le hi h.size) (fun e => hn (hr i e.symm hi))).trans (h.block i hi hn)⟩
/-- Where all that may turn is from B on: as 'Below'. -/
theorem Mod.toBelow {F : Nat → Prop} {B : Nat} {w w' : World} (h : Mod F w w') (hB : B ≤ w.heap.size) (hF : ∀ k, k < w.heap.size → F k → B ≤ k) : Below B w w' :=
  ⟨h.os, h.tape, h.output, h.size, fun k hk => h.block k (Nat.lt_of_lt_of_le hk hB) (fun hf => by have := hF k (Nat.lt_of_lt_of_le hk hB) hf; omega)⟩
theorem Mod.heap {F : Nat → Prop} {w w' : World} (h : Mod F w w') {B : Nat} {o : Obj} (ho : w.heap[B]? = some o) (hn : ¬ F B) : w'.heap[B]? = some o := by rw [h.block B (block_lt ho) hn]; exact ho
theorem Mod.cell {F : Nat → Prop} {w w' : World} (h : Mod F w w') {a : Addr} {v : Value} (ha : w.cell? a = some v) (hn : ¬ F a.block) : w'.cell? a = some v := by
  rw [World.cell?_of_block (w := w) (h.block a.block (World.block_lt_of_cell? w _ ha) hn)]; exact ha
theorem ownsRow_mod {F : Nat → Prop} {w w' : World} {base : Nat} {e : TypeId} {size : Nat} {v : Value} {n : Nat} {xs : List Value} (h : w.ownsRow base e size v n xs) (hm : Mod F w w') (hn : ∀ g, v.ownBlock = some g → ¬ F g) : w'.ownsRow base e size v n xs := by
  obtain ⟨h1, h2⟩ := h
  refine ⟨h1, ?_⟩
  rcases h2 with h2 | ⟨g, cap, cur, hv, hg, hh, r⟩
  · exact Or.inl h2
  · exact Or.inr ⟨g, cap, cur, hv, hg, hm.heap hh (hn g (by rw [hv]; rfl)), r⟩
theorem Reads.mod {F : Nat → Prop} {w w' : World} {v : Value} {n size : Nat} {xs : List Value} (h : Reads w v n size xs) (hm : Mod F w w') (hn : ∀ g, v.ownBlock = some g → ¬ F g) : Reads w' v n size xs := by
  obtain ⟨ao, cap, rfl, h1, h2, h0, h3, h4⟩ := h
  refine ⟨ao, cap, rfl, h1, h2, h0, h3, fun hp => ?_⟩
  obtain ⟨b, off, rfl, hc⟩ := h4 hp
  exact ⟨b, off, rfl, fun j u hj => hm.cell (hc j u hj) (hn b rfl)⟩
end Go.Trav
