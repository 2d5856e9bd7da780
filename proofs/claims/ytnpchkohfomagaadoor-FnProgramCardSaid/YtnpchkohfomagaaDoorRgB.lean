/- The loop that builds the automaton of a program: plain. -/
import Derived.Test.YtnpchkohfomagaaDoorRgS
namespace Go.Rg
set_option linter.unusedVariables false
/-- The number of a state: 0 where there is none. -/
def Num (Ks : List (List Nat)) (K : List Nat) (n : Nat) : Prop := (K = [] ∧ n = 0) ∨ (K ≠ [] ∧ ∃ i, Ks[i]? = some K ∧ n = i + 1)
theorem Num.mono {Ks : List (List Nat)} {K : List Nat} {n : Nat} (h : Num Ks K n) (T : List (List Nat)) : Num (Ks ++ T) K n := by
  rcases h with h | ⟨h, i, e, rfl⟩
  · exact Or.inl h
  · refine Or.inr ⟨h, i, ?_, rfl⟩
    obtain ⟨hlt, _⟩ := List.getElem?_eq_some_iff.mp e
    rw [List.getElem?_append_left hlt]; exact e
theorem Num.le {Ks : List (List Nat)} {K : List Nat} {n : Nat} (h : Num Ks K n) : n ≤ Ks.length := by
  rcases h with ⟨_, rfl⟩ | ⟨_, i, e, rfl⟩
  · omega
  · obtain ⟨hlt, _⟩ := List.getElem?_eq_some_iff.mp e; omega
/-- A state's row is right at its first bytes. -/
def RowTo (l : List In) (Ks nx : List (List Nat)) (i : Nat) (K : List Nat) (b : Nat) : Prop := ∀ c, c < b → ∃ r n, nx[i]? = some r ∧ r[c]? = some n ∧ Num Ks (stepK l K c) n
/-- The loop's invariant, with s under way up to the byte b. -/
structure Inv (l : List In) (Ks nx : List (List Nat)) (seen stack : List Nat) (s b : Nat) : Prop where
  nd : Ks.Nodup
  isK : ∀ K ∈ Ks, IsK l K ∧ K ≠ []
  first : Ks[0]? = some (startK l)
  nxl : nx.length = Ks.length
  row : ∀ r ∈ nx, r.length = 256
  sn : seen.Nodup
  sb : ∀ x ∈ seen, 1 ≤ x ∧ x ≤ Ks.length
  stk : ∀ x ∈ stack, 1 ≤ x ∧ x ≤ Ks.length
  cur : s ≤ Ks.length
  done : ∀ i K, Ks[i]? = some K → i + 1 ∈ stack ∨ (i + 1 = s ∧ RowTo l Ks nx i K b) ∨ RowTo l Ks nx i K 256
theorem RowTo.mono {l : List In} {Ks nx : List (List Nat)} {i : Nat} {K : List Nat} {b : Nat} {T' : List (List Nat)} (h : RowTo l Ks nx i K b) (T : List (List Nat)) : RowTo l (Ks ++ T) (nx ++ T') i K b := by
  intro c hc
  obtain ⟨r, n, e1, e2, e3⟩ := h c hc
  obtain ⟨hlt, _⟩ := List.getElem?_eq_some_iff.mp e1
  exact ⟨r, n, by rw [List.getElem?_append_left hlt]; exact e1, e2, e3.mono T⟩
/-- One place of one row is written, rightly. -/
theorem RowTo.write {l : List In} {Ks nx : List (List Nat)} {i j : Nat} {K Kj : List Nat} {b d n : Nat} {r : List Nat} (h : RowTo l Ks nx i K b) (hK : Ks[i]? = some K) (hj : Ks[j]? = some Kj) (hr : nx[j]? = some r) (hd : d < r.length) (hn : Num Ks (stepK l Kj d) n) : RowTo l Ks (nx.set j (r.set d n)) i K b := by
  intro c hc
  obtain ⟨r', n', e1, e2, e3⟩ := h c hc
  obtain ⟨hlt, _⟩ := List.getElem?_eq_some_iff.mp e1
  by_cases hij : j = i
  · subst hij
    rw [hr] at e1; cases e1
    rw [hK] at hj; cases hj
    refine ⟨r.set d n, ?_⟩
    rw [List.getElem?_set_self hlt]
    by_cases hcd : d = c
    · subst hcd; exact ⟨n, rfl, by rw [List.getElem?_set_self hd], hn⟩
    · exact ⟨n', rfl, by rw [List.getElem?_set_ne hcd]; exact e2, e3⟩
  · exact ⟨r', n', by rw [List.getElem?_set_ne hij]; exact e1, e2, e3⟩
/-- A new state is laid at the end (its row is anything), and shall be pushed: it stands as 'seen or to be seen' by the number x. -/
theorem Inv.byte {l : List In} {Ks nx : List (List Nat)} {seen stack : List Nat} {s b : Nat} (h : Inv l Ks nx seen stack s b) (hb : b < 256) {K : List Nat} (hs : 1 ≤ s) (hK : Ks[s - 1]? = some K) {T T' : List (List Nat)}
    (hT : (T = [] ∧ T' = []) ∨ (∃ r0 : List Nat, T = [stepK l K b] ∧ T' = [r0] ∧ r0.length = 256 ∧ stepK l K b ≠ [] ∧ stepK l K b ∉ Ks ∧ IsK l (stepK l K b)))
    {n : Nat} (hn : Num (Ks ++ T) (stepK l K b) n) (hTn : T ≠ [] → n = Ks.length + 1) {r : List Nat} (hr : (nx ++ T')[s - 1]? = some r)
    {seen' stack' : List Nat} (hseen : (n = 0 ∨ n ∈ seen) ∧ seen' = seen ∧ stack' = stack ∨ n ≠ 0 ∧ n ∉ seen ∧ seen' = seen ++ [n] ∧ stack' = stack ++ [n]) :
    Inv l (Ks ++ T) ((nx ++ T').set (s - 1) (r.set b n)) seen' stack' s (b + 1) := by
  have hTl : T.length = T'.length ∧ (T ≠ [] → T.length = 1) := by
    rcases hT with ⟨rfl, rfl⟩ | ⟨r0, rfl, rfl, _⟩ <;> simp
  have hrow : ∀ q ∈ nx ++ T', q.length = 256 := by
    intro q hq
    rcases List.mem_append.mp hq with p | p
    · exact h.row q p
    · rcases hT with ⟨_, rfl⟩ | ⟨r0, _, rfl, e, _⟩
      · cases p
      · simp at p; subst p; exact e
  have hrl : r.length = 256 := hrow r (List.mem_of_getElem? hr)
  have hslt : s - 1 < Ks.length := (List.getElem?_eq_some_iff.mp hK).1
  have hKT : (Ks ++ T)[s - 1]? = some K := by rw [List.getElem?_append_left hslt]; exact hK
  have hsb : ∀ x ∈ seen', 1 ≤ x ∧ x ≤ (Ks ++ T).length := by
    intro x hx
    have old : x ∈ seen → 1 ≤ x ∧ x ≤ (Ks ++ T).length := fun p => by have := h.sb x p; simp; omega
    rcases hseen with ⟨_, rfl, _⟩ | ⟨n0, _, rfl, _⟩
    · exact old hx
    · rcases List.mem_append.mp hx with p | p
      · exact old p
      · simp at p; subst p; have := hn.le; omega
  have hst : ∀ x ∈ stack', 1 ≤ x ∧ x ≤ (Ks ++ T).length := by
    intro x hx
    have old : x ∈ stack → 1 ≤ x ∧ x ≤ (Ks ++ T).length := fun p => by have := h.stk x p; simp; omega
    rcases hseen with ⟨_, _, rfl⟩ | ⟨n0, _, _, rfl⟩
    · exact old hx
    · rcases List.mem_append.mp hx with p | p
      · exact old p
      · simp at p; subst p; have := hn.le; omega
  have hin : ∀ x ∈ stack, x ∈ stack' := by
    intro x hx
    rcases hseen with ⟨_, _, rfl⟩ | ⟨_, _, _, rfl⟩
    · exact hx
    · simp [hx]
  refine ⟨?_, ?_, ?_, ?_, ?_, ?_, hsb, hst, ?_, ?_⟩
  · rcases hT with ⟨rfl, _⟩ | ⟨r0, rfl, _, _, _, hni, _⟩
    · simpa using h.nd
    · rw [List.nodup_append]
      refine ⟨h.nd, by simp, fun a ha c hc => ?_⟩
      simp at hc; subst hc; exact fun e => hni (e ▸ ha)
  · intro q hq
    rcases List.mem_append.mp hq with p | p
    · exact h.isK q p
    · rcases hT with ⟨rfl, _⟩ | ⟨r0, rfl, _, _, hne, _, hk⟩
      · cases p
      · simp at p; subst p; exact ⟨hk, hne⟩
  · rw [List.getElem?_append_left (by omega)]; exact h.first
  · simp [h.nxl, hTl.1]
  · intro q hq
    rcases List.mem_or_eq_of_mem_set hq with p | p
    · exact hrow q p
    · subst p; simp [hrl]
  · rcases hseen with ⟨_, rfl, _⟩ | ⟨_, hns, rfl, _⟩
    · exact h.sn
    · rw [List.nodup_append]
      refine ⟨h.sn, by simp, fun a ha c hc => ?_⟩
      simp at hc; subst hc; exact fun e => hns (e ▸ ha)
  · have := h.cur; simp; omega
  · intro i Ki hi
    by_cases hik : i < Ks.length
    · have hi' : Ks[i]? = some Ki := by rwa [List.getElem?_append_left hik] at hi
      rcases h.done i Ki hi' with p | ⟨p, q⟩ | p
      · exact Or.inl (hin _ p)
      · right; left
        refine ⟨p, ?_⟩
        obtain rfl : i = s - 1 := by omega
        rw [hK] at hi'; cases hi'
        have q1 := (q.mono (T' := T') T).write hKT hKT hr (by omega) hn
        intro c hc
        by_cases hcb : c = b
        · subst hcb
          have hx : s - 1 < (nx ++ T').length := (List.getElem?_eq_some_iff.mp hr).1
          exact ⟨_, n, by rw [List.getElem?_set_self hx], by rw [List.getElem?_set_self (by omega)], hn⟩
        · exact q1 c (by omega)
      · right; right
        exact (p.mono (T' := T') T).write hi hKT hr (by omega) hn
    · left
      have hlt : i < (Ks ++ T).length := (List.getElem?_eq_some_iff.mp hi).1
      have hne : T ≠ [] := by rintro rfl; simp at hlt; omega
      have h1 := hTl.2 hne
      have hn1 := hTn hne
      have hi1 : i + 1 = n := by simp at hlt; omega
      rcases hseen with ⟨p, _, _⟩ | ⟨_, _, _, rfl⟩
      · exfalso
        rcases p with p | p
        · omega
        · have := h.sb n p; omega
      · simp [hi1]
/-- The next state is popped. -/
theorem Inv.pop {l : List In} {Ks nx : List (List Nat)} {seen stack : List Nat} {s x : Nat} (h : Inv l Ks nx seen (stack ++ [x]) s 256) : Inv l Ks nx seen stack x 0 := by
  refine ⟨h.nd, h.isK, h.first, h.nxl, h.row, h.sn, h.sb, fun y hy => h.stk y (by simp [hy]), (h.stk x (by simp)).2, fun i K hi => ?_⟩
  rcases h.done i K hi with p | ⟨_, q⟩ | p
  · rcases List.mem_append.mp p with p | p
    · exact Or.inl p
    · simp at p; exact Or.inr (Or.inl ⟨p, fun c hc => absurd hc (by omega)⟩)
  · exact Or.inr (Or.inr q)
  · exact Or.inr (Or.inr p)
/-- At the end every row is right. -/
theorem Inv.fin {l : List In} {Ks nx : List (List Nat)} {seen : List Nat} {s : Nat} (h : Inv l Ks nx seen [] s 256) : ∀ i K, Ks[i]? = some K → RowTo l Ks nx i K 256 := by
  intro i K hi
  rcases h.done i K hi with p | ⟨_, q⟩ | p
  · cases p
  · exact q
  · exact p
theorem Inv.seen_le {l : List In} {Ks nx : List (List Nat)} {seen stack : List Nat} {s b : Nat} (h : Inv l Ks nx seen stack s b) : seen.length ≤ Ks.length := by
  have := nodup_length (Ks.length + 1) (0 :: seen) (List.nodup_cons.mpr ⟨fun p => by have := h.sb 0 p; omega, h.sn⟩) fun x hx => by
    rcases List.mem_cons.mp hx with rfl | p
    · omega
    · have := h.sb x p; omega
  simp at this; omega
end Go.Rg
