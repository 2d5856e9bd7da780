/- impl.Registry: its contract. -/
import Derived.Test.YtanimdajohpggaaFits8
import Derived.Test.YtanimdajohpggaaRegLaw
namespace Go.Proofs.Ytanimdajohpggaa.Node
open Go.ChangeShapes Go.WideShapes Go.ChangeAt Go.RowKit Go.Trav Go.Sort
set_option linter.unusedVariables false
set_option maxRecDepth 100000
def stOf (x : StV) : St := (x.f, x.o, x.l)
/-- What the registry may answer for state i. -/
def Good (S : List St) (mru i : Nat) (g : Int) : Prop :=
  (g ≠ -1 → ∃ k, k < i ∧ g = (k : Int) ∧ S[k]? = S[i]?) ∧ (S.length ≤ mru → (g = -1 → First S i) ∧ ∀ k : Nat, g = (k : Int) → First S k)
/-- The registry's memory when i states have been asked for. -/
structure RegSt (w wr : World) (R Pb T rows mru i : Nat) (S : List St) (bn : Nat → Nat) (nv : Nat → Value) (tab : List RC) : Prop where
  bel : Below w.heap.size w wr
  reg : RegAt wr R Pb T rows mru tab
  inv : TInv rows mru i bn tab
  big : S.length ≤ mru → Big rows mru i S bn tab
  lo : w.heap.size ≤ R ∧ w.heap.size ≤ Pb ∧ w.heap.size ≤ T ∧ R ≠ Pb ∧ T ≠ Pb ∧ R ≠ T
  own : ∀ k, k < i → ∀ g, fp (bn k) (nv k) g → w.heap.size ≤ g ∧ g < wr.heap.size ∧ g ≠ R ∧ g ≠ Pb ∧ g ≠ T
  sep : ∀ k k', k < i → k' < i → k ≠ k' → ∀ g, fp (bn k) (nv k) g → ¬ fp (bn k') (nv k') g
  node : ∀ (j : Nat) (a : Int) (k : Nat), k < i → tab[j]? = some (a, some (⟨bn k, 0, none⟩ : Addr)) → ∃ s, S[k]? = some s ∧ NodeAt wr (bn k) (nv k) s.1 s.2.1 s.2.2
theorem RegAt.below {w w' : World} {R Pb T rows mru : Nat} {tab : List RC} (h : RegAt w R Pb T rows mru tab) (hb : Below w.heap.size w w') : RegAt w' R Pb T rows mru tab := by
  obtain ⟨hd, hp⟩ := h.pool
  exact ⟨block_below h.blk hb (block_lt h.blk), ⟨hd, block_below hp hb (block_lt hp)⟩, block_below h.tbl hb (block_lt h.tbl), h.len⟩
theorem RegSt.below {w wr w1 : World} {R Pb T rows mru i : Nat} {S : List St} {bn : Nat → Nat} {nv : Nat → Value} {tab : List RC} (h : RegSt w wr R Pb T rows mru i S bn nv tab) (hb : Below wr.heap.size wr w1) : RegSt w w1 R Pb T rows mru i S bn nv tab := by
  refine ⟨h.bel.trans (hb.mono h.bel.size), h.reg.below hb, h.inv, h.big, h.lo, fun k hk g hg => ?_, h.sep, fun j a k hk hx => ?_⟩
  · obtain ⟨h1, h2, h3⟩ := h.own k hk g hg
    exact ⟨h1, Nat.lt_of_lt_of_le h2 hb.size, h3⟩
  · obtain ⟨s, hs, hN⟩ := h.node j a k hk hx
    exact ⟨s, hs, hN.below hb⟩
/-- What the blocks of the table's nodes hold. -/
def ndOf (S : List St) (bn : Nat → Nat) (nv : Nat → Value) (i : Nat) : Nat → ND := fun B =>
  match (List.range i).find? (fun k => bn k == B) with
  | some k => match S[k]? with
    | some s => ⟨nv k, s.1, s.2.1, s.2.2⟩
    | none => ⟨nv k, false, 0, []⟩
  | none => ⟨.slice none 0 0, false, 0, []⟩
theorem RegSt.bn_inj {w wr : World} {R Pb T rows mru i : Nat} {S : List St} {bn : Nat → Nat} {nv : Nat → Value} {tab : List RC} (h : RegSt w wr R Pb T rows mru i S bn nv tab) {k k' : Nat} (hk : k < i) (hk' : k' < i) (e : bn k = bn k') : k = k' := by
  by_cases hne : k = k'
  · exact hne
  · exact absurd (Or.inl e) (h.sep k k' hk hk' hne (bn k) (Or.inl rfl))
theorem RegSt.nd {w wr : World} {R Pb T rows mru i : Nat} {S : List St} {bn : Nat → Nat} {nv : Nat → Value} {tab : List RC} (h : RegSt w wr R Pb T rows mru i S bn nv tab) {k : Nat} (hk : k < i) {s : St} (hs : S[k]? = some s) : ndOf S bn nv i (bn k) = ⟨nv k, s.1, s.2.1, s.2.2⟩ := by
  unfold ndOf
  cases hf : (List.range i).find? (fun k' => bn k' == bn k) with
  | none =>
    have := List.find?_eq_none.1 hf k (List.mem_range.2 hk)
    simp at this
  | some k' =>
    have h1 := List.find?_some hf
    have h2 := List.mem_range.1 (List.mem_of_find?_eq_some hf)
    obtain rfl : k' = k := h.bn_inj h2 hk (by simpa using h1)
    simp only [hs]
theorem RegSt.rowNodes {w wr : World} {R Pb T rows mru i : Nat} {S : List St} {bn : Nat → Nat} {nv : Nat → Value} {tab : List RC} (h : RegSt w wr R Pb T rows mru i S bn nv tab) (st n : Nat) : RowNodes wr (ndOf S bn nv i) tab st n := by
  intro c hc a p hx
  obtain ⟨k, hk, _, rfl⟩ := h.inv.ptr _ _ _ hx
  obtain ⟨s, hs, hN⟩ := h.node _ _ k hk hx
  refine ⟨rfl, ?_⟩
  show NodeIs wr (ndOf S bn nv i) (bn k)
  unfold NodeIs
  rw [h.nd hk hs]
  exact hN
def upd {α : Type} (f : Nat → α) (i : Nat) (x : α) : Nat → α := fun k => if k = i then x else f k
theorem upd_lt {α : Type} (f : Nat → α) {i k : Nat} (x : α) (h : k < i) : upd f i x k = f k := if_neg (by omega)
theorem upd_eq {α : Type} (f : Nat → α) (i : Nat) (x : α) : upd f i x i = x := if_pos rfl
theorem TInv.upd {rows mru i : Nat} {bn : Nat → Nat} {tab : List RC} (h : TInv rows mru i bn tab) (B : Nat) : TInv rows mru i (Node.upd bn i B) tab := by
  refine ⟨h.len, fun j a p hj => ?_, h.inj⟩
  obtain ⟨k, hk, e1, e2⟩ := h.ptr j a p hj
  exact ⟨k, hk, e1, by rw [upd_lt bn B hk]; exact e2⟩
theorem Big.upd {rows mru i : Nat} {S : List St} {bn : Nat → Nat} {tab : List RC} (h : Big rows mru i S bn tab) (B : Nat) : Big rows mru i S (Node.upd bn i B) tab := by
  refine ⟨h.front, fun r c k a hr hc hk hx => ?_, fun k s hk hs hF => ?_⟩
  · rw [upd_lt bn B hk] at hx
    exact h.own r c k a hr hc hk hx
  · rw [upd_lt bn B hk]
    exact h.all k s hk hs hF
theorem RegSt.own' {w wr : World} {R Pb T rows mru i : Nat} {S : List St} {bn : Nat → Nat} {nv : Nat → Value} {tab : List RC} (h : RegSt w wr R Pb T rows mru i S bn nv tab) {B : Nat} {v : Value} {n : Nat} (hfp : ∀ g, fp B v g → wr.heap.size ≤ g ∧ g < n) (hn : wr.heap.size ≤ n) :
    ∀ k, k < i + 1 → ∀ g, fp (upd bn i B k) (upd nv i v k) g → w.heap.size ≤ g ∧ g < n ∧ g ≠ R ∧ g ≠ Pb ∧ g ≠ T := by
  intro k hk g hg
  rcases Nat.lt_or_ge k i with h1 | h1
  · rw [upd_lt _ _ h1, upd_lt _ _ h1] at hg
    obtain ⟨a, b, c⟩ := h.own k h1 g hg
    exact ⟨a, by omega, c⟩
  · obtain rfl : k = i := by omega
    rw [upd_eq, upd_eq] at hg
    obtain ⟨a, b⟩ := hfp g hg
    have hR := block_lt h.reg.blk
    obtain ⟨hd, hp⟩ := h.reg.pool
    have hP := block_lt hp
    have hT := block_lt h.reg.tbl
    have hs := h.bel.size
    exact ⟨by omega, b, by omega, by omega, by omega⟩
theorem RegSt.sep' {w wr : World} {R Pb T rows mru i : Nat} {S : List St} {bn : Nat → Nat} {nv : Nat → Value} {tab : List RC} (h : RegSt w wr R Pb T rows mru i S bn nv tab) {B : Nat} {v : Value} (hfp : ∀ g, fp B v g → wr.heap.size ≤ g) :
    ∀ k k', k < i + 1 → k' < i + 1 → k ≠ k' → ∀ g, fp (upd bn i B k) (upd nv i v k) g → ¬ fp (upd bn i B k') (upd nv i v k') g := by
  intro k k' hk hk' hne g hg hg'
  rcases Nat.lt_or_ge k i with h1 | h1 <;> rcases Nat.lt_or_ge k' i with h2 | h2
  · rw [upd_lt _ _ h1, upd_lt _ _ h1] at hg
    rw [upd_lt _ _ h2, upd_lt _ _ h2] at hg'
    exact h.sep k k' h1 h2 hne g hg hg'
  · obtain rfl : k' = i := by omega
    rw [upd_lt _ _ h1, upd_lt _ _ h1] at hg
    rw [upd_eq, upd_eq] at hg'
    have := h.own k h1 g hg
    have := hfp g hg'
    omega
  · obtain rfl : k = i := by omega
    rw [upd_eq, upd_eq] at hg
    rw [upd_lt _ _ h2, upd_lt _ _ h2] at hg'
    have := h.own k' h2 g hg'
    have := hfp g hg
    omega
  · omega
theorem RegSt.fresh {w wr : World} {R Pb T rows mru i : Nat} {S : List St} {bn : Nat → Nat} {nv : Nat → Value} {tab : List RC} (h : RegSt w wr R Pb T rows mru i S bn nv tab) {B : Nat} (hB : wr.heap.size ≤ B) : ∀ k, k < i → upd bn i B k ≠ upd bn i B i := by
  intro k hk
  rw [upd_lt _ _ hk, upd_eq]
  have := h.own k hk (bn k) (Or.inl rfl)
  omega
theorem RegSt.hit {w wr w1 w2 : World} {R Pb T rows mru i : Nat} {S : List St} {bn : Nat → Nat} {nv : Nat → Value} {tab : List RC} (h : RegSt w wr R Pb T rows mru i S bn nv tab) (hb : Below wr.heap.size wr w1) {B : Nat} {v : Value} (hfp : ∀ g, fp B v g → wr.heap.size ≤ g ∧ g < w1.heap.size)
    (hm : Mod (fun k => k = T) w1 w2) {r0 m : Nat} {a : Int} {p : Addr} (hr0 : r0 < rows) (hmm : m < mru) (hT : TableAt w2 T (bub tab (r0 * mru) m)) (hx : tab[r0 * mru + m]? = some (a, some p)) (hnf : ¬ First S i) :
    RegSt w w2 R Pb T rows mru (i + 1) S (upd bn i B) (upd nv i v) (bub tab (r0 * mru) m) := by
  have hB : wr.heap.size ≤ B := (hfp B (Or.inl rfl)).1
  have hs : r0 * mru + m < tab.length := (List.getElem?_eq_some_iff.1 hx).1
  have h1 := h.below hb
  obtain ⟨lR, lP, lT, n1, n2, n3⟩ := h.lo
  obtain ⟨hd, hp⟩ := h1.reg.pool
  refine ⟨h1.bel.trans (hm.toBelow h1.bel.size (fun k _ hk => by rw [hk]; exact lT)), ⟨hm.heap h1.reg.blk n3, ⟨hd, hm.heap hp (fun e => n2 e.symm)⟩, hT, by rw [bub_len]; exact h.reg.len⟩, (h.inv.upd B).hit hs, fun hl => ?_, h.lo, ?_, h.sep' (fun g hg => (hfp g hg).1), fun j a' k hk hx' => ?_⟩
  · refine ((h.big hl).upd B).hit h.reg.len hr0 hmm ⟨a, p, hx⟩ hnf (fun j a p hj => ?_) (h.fresh hB)
    obtain ⟨k, hk, _, e⟩ := (h.inv.upd B).ptr j a p hj
    exact ⟨k, hk, e⟩
  · exact h.own' (fun g hg => ⟨(hfp g hg).1, Nat.lt_of_lt_of_le (hfp g hg).2 hm.size⟩) (Nat.le_trans hb.size hm.size)
  · rw [bub_at _ _ _ _ hs] at hx'
    rcases Nat.lt_or_ge k i with h2 | h2
    · rw [upd_lt _ _ h2] at hx' ⊢
      rw [upd_lt _ _ h2]
      obtain ⟨s, hs', hN⟩ := h1.node _ _ k h2 hx'
      exact ⟨s, hs', hN.mod hm (fun g hg => (h1.own k h2 g hg).2.2.2.2)⟩
    · obtain rfl : k = i := by omega
      obtain ⟨k', hk', _, e⟩ := (h.inv.upd B).ptr _ _ _ hx'
      simp only [Addr.mk.injEq, and_true] at e
      exact absurd e.symm (h.fresh hB k' hk')
theorem RegSt.miss {w wr w1 w2 : World} {R Pb T rows mru i : Nat} {S : List St} {bn : Nat → Nat} {nv : Nat → Value} {tab : List RC} (h : RegSt w wr R Pb T rows mru i S bn nv tab) (hb : Below wr.heap.size wr w1) {B : Nat} {v : Value} (hfp : ∀ g, fp B v g → wr.heap.size ≤ g ∧ g < w1.heap.size)
    {m : Nat} {aL : Int} {pL : Option Addr} (hm : Mod (fun k => k = T ∨ k = Pb ∨ ∃ q, pL = some q ∧ k = q.block) w1 w2) {s0 : St} (hs0 : S[i]? = some s0) (hr0 : rowOf rows s0 < rows) (hmm : mru = m + 1) (hi : i < S.length)
    (hT : TableAt w2 T (missTab tab (rowOf rows s0 * mru) m aL i B)) (hP : ∃ hd', w2.heap[Pb]? = some (.cells #[.pointer hd'] 102 (0, 0))) (hx : tab[rowOf rows s0 * mru + m]? = some (aL, pL)) (hN : NodeAt w1 B v s0.1 s0.2.1 s0.2.2) (hF : S.length ≤ mru → First S i) :
    RegSt w w2 R Pb T rows mru (i + 1) S (upd bn i B) (upd nv i v) (missTab tab (rowOf rows s0 * mru) m aL i B) := by
  have hB : wr.heap.size ≤ B := (hfp B (Or.inl rfl)).1
  have hs : rowOf rows s0 * mru + m < tab.length := (List.getElem?_eq_some_iff.1 hx).1
  have h1 := h.below hb
  obtain ⟨lR, lP, lT, n1, n2, n3⟩ := h.lo
  have old : ∀ q, pL = some q → ∃ kL, kL < i ∧ q = (⟨bn kL, 0, none⟩ : Addr) := by
    intro q e
    subst e
    obtain ⟨k, hk, _, e⟩ := h.inv.ptr _ _ _ hx
    exact ⟨k, hk, e⟩
  have hFk : ∀ k, (k = T ∨ k = Pb ∨ ∃ q, pL = some q ∧ k = q.block) → w.heap.size ≤ k ∧ k ≠ R ∧ k < wr.heap.size := by
    rintro k (rfl | rfl | ⟨q, e, rfl⟩)
    · exact ⟨lT, fun e => n3 e.symm, block_lt h.reg.tbl⟩
    · obtain ⟨hd, hp⟩ := h.reg.pool
      exact ⟨lP, fun e => n1 e.symm, block_lt hp⟩
    · obtain ⟨kL, hk, rfl⟩ := old q e
      obtain ⟨a, b, c, _⟩ := h.own kL hk (bn kL) (Or.inl rfl)
      exact ⟨a, c, b⟩
  have hi1 := (h.inv.upd B).miss hs aL (h.fresh hB)
  rw [upd_eq] at hi1
  refine ⟨h1.bel.trans (hm.toBelow h1.bel.size (fun k _ hk => (hFk k hk).1)), ⟨hm.heap h1.reg.blk (fun e => (hFk R e).2.1 rfl), hP, hT, by rw [missTab_len]; exact h.reg.len⟩, hi1, fun hl => ?_, h.lo, ?_, h.sep' (fun g hg => (hfp g hg).1), fun j a' k hk hx' => ?_⟩
  · have hbm := ((h.big hl).upd B).miss h.reg.len hr0 hmm (by omega) hs0 (hF hl) aL (fun j a p hj => by
      obtain ⟨k, hk, _, e⟩ := (h.inv.upd B).ptr j a p hj
      exact ⟨k, hk, e⟩) (h.fresh hB)
    rw [upd_eq] at hbm
    exact hbm
  · exact h.own' (fun g hg => ⟨(hfp g hg).1, Nat.lt_of_lt_of_le (hfp g hg).2 hm.size⟩) (Nat.le_trans hb.size hm.size)
  · rcases Nat.lt_or_ge k i with h2 | h2
    · rw [upd_lt _ _ h2] at hx' ⊢
      rw [upd_lt _ _ h2]
      rw [missTab_at _ _ _ _ _ _ _ hs] at hx'
      split at hx'
      · simp only [Option.some.injEq, Prod.mk.injEq, Addr.mk.injEq, and_true] at hx'
        have := h.own k h2 (bn k) (Or.inl rfl)
        omega
      · rename_i hj
        obtain ⟨s, hs', hN'⟩ := h1.node _ _ k h2 hx'
        refine ⟨s, hs', hN'.mod hm (fun g hg => ?_)⟩
        obtain ⟨_, _, _, g1, g2⟩ := h1.own k h2 g hg
        rintro (e | e | ⟨q, e, e'⟩)
        · exact g2 e
        · exact g1 e
        · obtain ⟨kL, hkL, rfl⟩ := old q e
          have hne : k ≠ kL := by
            rintro rfl
            rw [e] at hx
            have h3 := h.inv.inj _ _ _ _ _ hx' hx
            apply hj
            apply rotIx_inj (st := rowOf rows s0 * mru) (m := m)
            rw [h3]
            unfold rotIx
            rw [if_neg (by omega), if_pos rfl]
          exact h.sep k kL h2 hkL hne g hg (by rw [e']; exact Or.inl rfl)
    · obtain rfl : k = i := by omega
      rw [upd_eq, upd_eq]
      refine ⟨s0, hs0, hN.mod hm (fun g hg e => ?_)⟩
      have := (hFk g e).2.2
      have := (hfp g hg).1
      omega
end Go.Proofs.Ytanimdajohpggaa.Node
