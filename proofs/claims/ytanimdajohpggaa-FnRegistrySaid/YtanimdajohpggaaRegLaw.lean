/- The registry's plain law: what a table of cells tells of states that are asked for one by one. -/
import Derived.Test.YtanimdajohpggaaBubLaw
namespace Go.Proofs.Ytanimdajohpggaa.Node
open Go.ChangeShapes Go.WideShapes Go.ChangeAt Go.RowKit Go.Trav Go.Sort
set_option linter.unusedVariables false
abbrev St := Bool × Int × List Arc
def sameSt (a b : St) : Bool := sameB a.1 b.1 a.2.1 b.2.1 a.2.2 b.2.2
theorem sameSt_iff (a b : St) : sameSt a b = true ↔ a = b := by
  obtain ⟨f, o, l⟩ := a
  obtain ⟨f', o', l'⟩ := b
  simp [sameSt, sameB]
def rowOf (rows : Nat) (s : St) : Nat := hrow rows s.1 s.2.1 s.2.2
/-- What holds of the table when i states have been asked for. -/
structure TInv (rows mru i : Nat) (bn : Nat → Nat) (tab : List RC) : Prop where
  len : tab.length = rows * mru
  ptr : ∀ (j : Nat) (a : Int) (p : Addr), tab[j]? = some (a, some p) → ∃ k, k < i ∧ a = (k : Int) ∧ p = (⟨bn k, 0, none⟩ : Addr)
  inj : ∀ (j j' : Nat) (a a' : Int) (p : Addr), tab[j]? = some (a, some p) → tab[j']? = some (a', some p) → j = j'
/-- The table behind a miss. -/
def missTab (tab : List RC) (st m : Nat) (aL : Int) (n : Int) (B : Nat) : List RC := (bub (tab.set (st + m) (aL, some ⟨B, 0, none⟩)) st m).set st (n, some ⟨B, 0, none⟩)
theorem missTab_at (tab : List RC) (st m j : Nat) (aL n : Int) (B : Nat) (h : st + m < tab.length) :
    (missTab tab st m aL n B)[j]? = if j = st then some (n, some ⟨B, 0, none⟩) else tab[rotIx st m j]? := by
  unfold missTab
  by_cases hj : j = st
  · subst hj
    rw [List.getElem?_set_self (by rw [bub_len]; simp; omega), if_pos rfl]
  · rw [List.getElem?_set_ne (fun e => hj e.symm), if_neg hj, bub_at _ _ _ _ (by simpa using h)]
    rw [List.getElem?_set_ne]
    unfold rotIx
    repeat' split
    all_goals omega
theorem missTab_len (tab : List RC) (st m : Nat) (aL n : Int) (B : Nat) : (missTab tab st m aL n B).length = tab.length := by simp [missTab, bub_len]
theorem TInv.hit {rows mru i : Nat} {bn : Nat → Nat} {tab : List RC} (h : TInv rows mru i bn tab) {st m : Nat} (hs : st + m < tab.length) : TInv rows mru (i + 1) bn (bub tab st m) := by
  refine ⟨by rw [bub_len]; exact h.len, fun j a p hj => ?_, fun j j' a a' p h1 h2 => ?_⟩
  · rw [bub_at _ _ _ _ hs] at hj
    obtain ⟨k, hk, e⟩ := h.ptr _ _ _ hj
    exact ⟨k, by omega, e⟩
  · rw [bub_at _ _ _ _ hs] at h1 h2
    exact rotIx_inj (h.inj _ _ _ _ _ h1 h2)
theorem TInv.miss {rows mru i : Nat} {bn : Nat → Nat} {tab : List RC} (h : TInv rows mru i bn tab) {st m : Nat} (hs : st + m < tab.length) (aL : Int) (hbn : ∀ k, k < i → bn k ≠ bn i) : TInv rows mru (i + 1) bn (missTab tab st m aL i (bn i)) := by
  refine ⟨by rw [missTab_len]; exact h.len, fun j a p hj => ?_, fun j j' a a' p h1 h2 => ?_⟩
  · rw [missTab_at _ _ _ _ _ _ _ hs] at hj
    split at hj
    · simp only [Option.some.injEq, Prod.mk.injEq] at hj
      exact ⟨i, by omega, hj.1.symm, hj.2.symm⟩
    · obtain ⟨k, hk, e⟩ := h.ptr _ _ _ hj
      exact ⟨k, by omega, e⟩
  · rw [missTab_at _ _ _ _ _ _ _ hs] at h1 h2
    split at h1 <;> split at h2
    · omega
    · simp only [Option.some.injEq, Prod.mk.injEq] at h1
      obtain ⟨k, hk, _, e⟩ := h.ptr _ _ _ h2
      have := h1.2.trans e
      simp only [Addr.mk.injEq, and_true] at this
      exact absurd this.symm (hbn k hk)
    · simp only [Option.some.injEq, Prod.mk.injEq] at h2
      obtain ⟨k, hk, _, e⟩ := h.ptr _ _ _ h1
      have := h2.2.trans e
      simp only [Addr.mk.injEq, and_true] at this
      exact absurd this.symm (hbn k hk)
    · exact rotIx_inj (h.inj _ _ _ _ _ h1 h2)
theorem TInv.start (rows mru : Nat) (bn : Nat → Nat) : TInv rows mru 0 bn (List.replicate (rows * mru) (0, none)) := by
  have no : ∀ (j : Nat) (a : Int) (p : Addr), (List.replicate (rows * mru) ((0, none) : RC))[j]? ≠ some (a, some p) := by
    intro j a p h
    rw [List.getElem?_replicate] at h
    split at h
    · simp at h
    · simp at h
  exact ⟨by simp, fun j a p hj => absurd hj (no _ _ _), fun j j' a a' p h1 _ => absurd h1 (no _ _ _)⟩
/-- What the registry answers for state i, out of what was asked for earlier. -/
def First (S : List St) (k : Nat) : Prop := ∀ j, j < k → ∀ s t, S[j]? = some s → S[k]? = some t → s ≠ t
/-- Where a row has room for all: what stands in it. -/
structure Big (rows mru i : Nat) (S : List St) (bn : Nat → Nat) (tab : List RC) : Prop where
  front : ∀ r, r < rows → ∃ n, n ≤ i ∧ ∀ c, c < mru → ((∃ a p, tab[r * mru + c]? = some (a, some p)) ↔ c < n)
  own : ∀ r c k a, r < rows → c < mru → k < i → tab[r * mru + c]? = some (a, some (⟨bn k, 0, none⟩ : Addr)) → First S k ∧ ∃ s, S[k]? = some s ∧ rowOf rows s = r
  all : ∀ k s, k < i → S[k]? = some s → First S k → ∃ c, c < mru ∧ tab[rowOf rows s * mru + c]? = some ((k : Int), some (⟨bn k, 0, none⟩ : Addr))
def rc (m c : Nat) : Nat := if c = 0 then m else if c ≤ m then c - 1 else c
theorem rc_lt {mru m c : Nat} (hm : m < mru) (hc : c < mru) : rc m c < mru := by unfold rc; repeat' split
                                                                                 all_goals omega
theorem rot_row (mru m r0 r c : Nat) (hm : m < mru) (hc : c < mru) : rotIx (r0 * mru) m (r * mru + c) = r * mru + (if r = r0 then rc m c else c) := by
  rcases Nat.lt_trichotomy r r0 with h | h | h
  · have := mul_row (mru := mru) h
    unfold rotIx
    rw [if_pos (by omega), if_neg (by omega)]
  · subst h
    unfold rotIx rc
    rw [if_pos rfl]
    repeat' split
    all_goals omega
  · have := mul_row (mru := mru) h
    unfold rotIx
    rw [if_neg (by omega), if_neg (by omega), if_neg (by omega), if_neg (by omega)]
theorem rc_onto {mru m c : Nat} (hm : m < mru) (hc : c < mru) : ∃ c', c' < mru ∧ rc m c' = c := by
  unfold rc
  by_cases h1 : c = m
  · exact ⟨0, by omega, by simp [h1]⟩
  · by_cases h2 : c < m
    · exact ⟨c + 1, by omega, by rw [if_neg (by omega), if_pos (by omega)]; omega⟩
    · exact ⟨c, by omega, by rw [if_neg (by omega), if_neg (by omega)]⟩
theorem Big.start (rows mru : Nat) (S : List St) (bn : Nat → Nat) : Big rows mru 0 S bn (List.replicate (rows * mru) (0, none)) := by
  have no : ∀ (j : Nat) (a : Int) (p : Addr), (List.replicate (rows * mru) ((0, none) : RC))[j]? ≠ some (a, some p) := by
    intro j a p h
    rw [List.getElem?_replicate] at h
    split at h
    · simp at h
    · simp at h
  refine ⟨fun r hr => ⟨0, by omega, fun c hc => ⟨fun ⟨a, p, h⟩ => absurd h (no _ _ _), fun h => by omega⟩⟩, fun r c k a _ _ hk => by omega, fun k s hk => by omega⟩
/-- A hit: the state is not a first one. -/
theorem Big.hit {rows mru i : Nat} {S : List St} {bn : Nat → Nat} {tab : List RC} (h : Big rows mru i S bn tab) (hl : tab.length = rows * mru) {r0 m : Nat} (hr0 : r0 < rows) (hm : m < mru) (hin : ∃ a p, tab[r0 * mru + m]? = some (a, some p)) (hnf : ¬ First S i)
    (hptr : ∀ (j : Nat) (a : Int) (p : Addr), tab[j]? = some (a, some p) → ∃ k, k < i ∧ p = (⟨bn k, 0, none⟩ : Addr)) (hbn : ∀ k, k < i → bn k ≠ bn i) : Big rows mru (i + 1) S bn (bub tab (r0 * mru) m) := by
  have hs : r0 * mru + m < tab.length := by have := mul_row (mru := mru) hr0; omega
  refine ⟨fun r hr => ?_, fun r c k a hr hc hk hx => ?_, fun k s hk hs' hF => ?_⟩
  · obtain ⟨n, hn, hiff⟩ := h.front r hr
    refine ⟨n, by omega, fun c hc => ?_⟩
    rw [bub_at _ _ _ _ hs, rot_row _ _ _ _ _ hm hc]
    by_cases e : r = r0
    · subst e
      rw [if_pos rfl, hiff _ (rc_lt hm hc)]
      have hmn := (hiff m hm).1 hin
      unfold rc
      repeat' split
      all_goals omega
    · rw [if_neg e]
      exact hiff c hc
  · rw [bub_at _ _ _ _ hs, rot_row _ _ _ _ _ hm hc] at hx
    have hk' : k < i := by
      obtain ⟨k', hk', e⟩ := hptr _ _ _ hx
      rcases Nat.lt_or_ge k i with h1 | h1
      · exact h1
      · obtain rfl : k = i := by omega
        simp only [Addr.mk.injEq, and_true] at e
        exact absurd e.symm (hbn k' hk')
    refine h.own r _ k a hr ?_ hk' hx
    split
    · exact rc_lt hm hc
    · exact hc
  · have hk' : k < i := by
      rcases Nat.lt_or_ge k i with h1 | h1
      · exact h1
      · obtain rfl : k = i := by omega
        exact absurd hF hnf
    obtain ⟨c, hc, hx⟩ := h.all k s hk' hs' hF
    by_cases e : rowOf rows s = r0
    · obtain ⟨c', hc', e'⟩ := rc_onto hm hc
      refine ⟨c', hc', ?_⟩
      rw [bub_at _ _ _ _ hs, rot_row _ _ _ _ _ hm hc', if_pos e, e']
      exact hx
    · refine ⟨c, hc, ?_⟩
      rw [bub_at _ _ _ _ hs, rot_row _ _ _ _ _ hm hc, if_neg e]
      exact hx
theorem Big.last {rows mru i : Nat} {S : List St} {bn : Nat → Nat} {tab : List RC} (h : Big rows mru i S bn tab) {r m : Nat} (hr : r < rows) (hm : mru = m + 1) (hi : i < mru) : ¬ ∃ a p, tab[r * mru + m]? = some (a, some p) := by
  obtain ⟨n, hn, hiff⟩ := h.front r hr
  rw [hiff m (by omega)]
  omega
/-- A miss: the state is a first one, and goes to the front of its row. -/
theorem Big.miss {rows mru i : Nat} {S : List St} {bn : Nat → Nat} {tab : List RC} (h : Big rows mru i S bn tab) (hl : tab.length = rows * mru) {m : Nat} {s0 : St} (hr0 : rowOf rows s0 < rows) (hm : mru = m + 1) (hi : i < mru) (hs0 : S[i]? = some s0) (hF0 : First S i) (aL : Int)
    (hptr : ∀ (j : Nat) (a : Int) (p : Addr), tab[j]? = some (a, some p) → ∃ k, k < i ∧ p = (⟨bn k, 0, none⟩ : Addr)) (hbn : ∀ k, k < i → bn k ≠ bn i) : Big rows mru (i + 1) S bn (missTab tab (rowOf rows s0 * mru) m aL i (bn i)) := by
  have hs : rowOf rows s0 * mru + m < tab.length := by have := mul_row (mru := mru) hr0; omega
  generalize hr : rowOf rows s0 = r0 at *
  have hat : ∀ r c, c < mru → (missTab tab (r0 * mru) m aL i (bn i))[r * mru + c]? = if r = r0 then (if c = 0 then some ((i : Int), some ⟨bn i, 0, none⟩) else tab[r * mru + (c - 1)]?) else tab[r * mru + c]? := by
    intro r c hc
    rw [missTab_at _ _ _ _ _ _ _ hs, rot_row _ _ _ _ _ (by omega) hc]
    by_cases e : r = r0
    · subst e
      rw [if_pos rfl, if_pos rfl]
      by_cases e2 : c = 0
      · rw [if_pos (by omega), if_pos e2]
      · rw [if_neg (by omega), if_neg e2]
        unfold rc
        rw [if_neg e2, if_pos (by omega)]
    · rw [if_neg e, if_neg e, if_neg]
      intro e3
      rcases Nat.lt_or_gt_of_ne e with h1 | h1
      · have := mul_row (mru := mru) h1; omega
      · have := mul_row (mru := mru) h1; omega
  have low : ∀ (j : Nat) (a : Int) (k : Nat), k < i + 1 → tab[j]? = some (a, some (⟨bn k, 0, none⟩ : Addr)) → k < i := by
    intro j a k hk hx
    obtain ⟨k', hk', e⟩ := hptr _ _ _ hx
    rcases Nat.lt_or_ge k i with h1 | h1
    · exact h1
    · obtain rfl : k = i := by omega
      simp only [Addr.mk.injEq, and_true] at e
      exact absurd e.symm (hbn k' hk')
  refine ⟨fun r hr' => ?_, fun r c k a hr' hc hk hx => ?_, fun k s hk hs' hF => ?_⟩
  · obtain ⟨n, hn, hiff⟩ := h.front r hr'
    by_cases e : r = r0
    · refine ⟨n + 1, by omega, fun c hc => ?_⟩
      rw [hat r c hc, if_pos e]
      by_cases e2 : c = 0
      · rw [if_pos e2]
        exact ⟨fun _ => by omega, fun _ => ⟨_, _, rfl⟩⟩
      · rw [if_neg e2, hiff (c - 1) (by omega)]
        omega
    · refine ⟨n, by omega, fun c hc => ?_⟩
      rw [hat r c hc, if_neg e]
      exact hiff c hc
  · rw [hat r c hc] at hx
    by_cases e : r = r0
    · rw [if_pos e] at hx
      by_cases e2 : c = 0
      · rw [if_pos e2] at hx
        simp only [Option.some.injEq, Prod.mk.injEq, Addr.mk.injEq, and_true] at hx
        have hki : k = i := by
          rcases Nat.lt_or_ge k i with h1 | h1
          · exact absurd hx.2.symm (hbn k h1)
          · omega
        subst hki
        exact ⟨hF0, s0, hs0, by rw [hr, e]⟩
      · rw [if_neg e2] at hx
        exact h.own r (c - 1) k a hr' (by omega) (low _ _ _ hk hx) hx
    · rw [if_neg e] at hx
      exact h.own r c k a hr' hc (low _ _ _ hk hx) hx
  · rcases Nat.lt_or_ge k i with h1 | h1
    · obtain ⟨c, hc, hx⟩ := h.all k s h1 hs' hF
      by_cases e : rowOf rows s = r0
      · obtain ⟨n, hn, hiff⟩ := h.front r0 hr0
        have hcn : c < n := (hiff c hc).1 ⟨_, _, by rw [← e]; exact hx⟩
        refine ⟨c + 1, by omega, ?_⟩
        rw [hat _ _ (by omega), if_pos e, if_neg (by omega)]
        exact hx
      · refine ⟨c, hc, ?_⟩
        rw [hat _ _ hc, if_neg e]
        exact hx
    · obtain rfl : k = i := by omega
      obtain rfl : s = s0 := Option.some.inj (hs'.symm.trans hs0)
      refine ⟨0, by omega, ?_⟩
      rw [hat _ _ (by omega), if_pos hr, if_pos rfl]
end Go.Proofs.Ytanimdajohpggaa.Node
