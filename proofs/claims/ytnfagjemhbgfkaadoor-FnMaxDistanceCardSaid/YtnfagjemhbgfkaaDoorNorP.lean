/- Places of a query (plain): which one makes which needless; sets of places. -/
import Derived.Test.YtnfagjemhbgfkaaDoorLib
namespace Go.Nor
set_option linter.unusedVariables false
structure Plc where
  o : Nat
  d : Nat
  t : Bool
deriving DecidableEq
instance : Inhabited Plc := ⟨⟨0, 0, false⟩⟩
def far (x y : Nat) : Nat := if x < y then y - x else x - y
def imp (a b : Plc) : Bool := if a.t || !b.t then decide (a.d + far a.o b.o ≤ b.d) else decide (a.d + far a.o b.o < b.d)
theorem far_self (x : Nat) : far x x = 0 := by unfold far; split <;> omega
theorem far_tri (x y z : Nat) : far x z ≤ far x y + far y z := by unfold far; split <;> split <;> split <;> omega
theorem imp_iff (a b : Plc) : imp a b = true ↔ a.d + far a.o b.o ≤ b.d ∧ (a.t = false → b.t = true → a.d + far a.o b.o < b.d) := by
  unfold imp
  cases a.t <;> cases b.t <;> simp <;> omega
theorem imp_refl (a : Plc) : imp a a = true := by
  rw [imp_iff, far_self]
  exact ⟨by omega, fun h1 h2 => by rw [h1] at h2; cases h2⟩
theorem imp_trans {a b c : Plc} (h : imp a b = true) (k : imp b c = true) : imp a c = true := by
  rw [imp_iff] at *
  have := far_tri a.o b.o c.o
  refine ⟨by omega, fun h1 h2 => ?_⟩
  cases hb : b.t with
  | false => have := k.2 hb h2; omega
  | true => have := h.2 h1 hb; omega
/-- One more place. -/
def add (S : List Plc) (x : Plc) : List Plc := if S.any (fun s => imp s x) then S else S.filter (fun s => !imp x s) ++ [x]
def Apart (a b : Plc) : Prop := imp a b = false ∧ imp b a = false
theorem Apart.symm {a b : Plc} (h : Apart a b) : Apart b a := ⟨h.2, h.1⟩
structure Says (l S : List Plc) : Prop where
  of : ∀ s ∈ S, s ∈ l
  cov : ∀ x ∈ l, ∃ s ∈ S, imp s x = true
  ap : S.Pairwise Apart
theorem Says.nil : Says [] [] := ⟨fun _ h => (by cases h), fun _ h => (by cases h), List.Pairwise.nil⟩
theorem Says.add {l S : List Plc} (h : Says l S) (x : Plc) : Says (l ++ [x]) (add S x) := by
  unfold Nor.add
  by_cases ha : S.any (fun s => imp s x) = true
  · rw [if_pos ha]
    obtain ⟨s, hs, hi⟩ := List.any_eq_true.mp ha
    refine ⟨fun y hy => by simp [h.of y hy], fun y hy => ?_, h.ap⟩
    rcases List.mem_append.mp hy with m | m
    · exact h.cov y m
    · rw [List.mem_singleton.mp m]; exact ⟨s, hs, hi⟩
  · rw [if_neg ha]
    have hn : ∀ s ∈ S, imp s x = false := fun s hs => by
      cases e : imp s x with
      | false => rfl
      | true => exact absurd (List.any_eq_true.mpr ⟨s, hs, e⟩) ha
    refine ⟨fun y hy => ?_, fun y hy => ?_, ?_⟩
    · rcases List.mem_append.mp hy with m | m
      · have := h.of y (List.mem_filter.mp m).1
        simp [this]
      · rw [List.mem_singleton.mp m]; simp
    · rcases List.mem_append.mp hy with m | m
      · obtain ⟨s, hs, hi⟩ := h.cov y m
        by_cases hx : imp x s = true
        · exact ⟨x, by simp, imp_trans hx hi⟩
        · exact ⟨s, List.mem_append_left _ (List.mem_filter.mpr ⟨hs, by simp [hx]⟩), hi⟩
      · rw [List.mem_singleton.mp m]; exact ⟨x, by simp, imp_refl x⟩
    · rw [List.pairwise_append]
      refine ⟨h.ap.filter _, List.pairwise_singleton _ _, fun a ha b hb => ?_⟩
      rw [List.mem_singleton.mp hb]
      obtain ⟨h1, h2⟩ := List.mem_filter.mp ha
      exact ⟨hn a h1, by simpa using h2⟩
def all (l : List Plc) : List Plc := l.foldl add []
theorem all_snoc (l : List Plc) (x : Plc) : all (l ++ [x]) = add (all l) x := by simp [all]
theorem all_take {l : List Plc} {k : Nat} {x : Plc} (h : l[k]? = some x) : all (l.take (k + 1)) = add (all (l.take k)) x := by
  obtain ⟨h1, h2⟩ := List.getElem?_eq_some_iff.mp h
  rw [List.take_succ_eq_append_getElem h1, h2, all_snoc]
theorem says_all (l : List Plc) : Says l (all l) := by
  have : ∀ k, k ≤ l.length → Says (l.take k) (all (l.take k)) := by
    intro k
    induction k with
    | zero => intro _; exact Says.nil
    | succ k ih =>
      intro hk
      have hk' : k < l.length := by omega
      rw [all_take (List.getElem?_eq_getElem hk'), List.take_succ_eq_append_getElem hk']
      exact (ih (by omega)).add _
  have h := this l.length (Nat.le_refl _)
  rwa [List.take_length] at h
theorem add_len (S : List Plc) (x : Plc) : (add S x).length ≤ S.length + 1 := by
  unfold add
  split
  · omega
  · have := List.length_filter_le (fun s => !imp x s) S
    simp; omega
theorem all_len (l : List Plc) : (all l).length ≤ l.length := by
  have : ∀ k, k ≤ l.length → (all (l.take k)).length ≤ k := by
    intro k
    induction k with
    | zero => intro _; exact Nat.le_refl _
    | succ k ih =>
      intro hk
      have hk' : k < l.length := by omega
      rw [all_take (List.getElem?_eq_getElem hk')]
      have := add_len (all (l.take k)) l[k]
      have := ih (by omega)
      omega
  have h := this l.length (Nat.le_refl _)
  rwa [List.take_length] at h
/-- So far ahead. -/
def back (m : Nat) (x : Plc) : Plc := ⟨x.o - m, x.d, x.t⟩
def fwd (m : Nat) (x : Plc) : Plc := ⟨x.o + m, x.d, x.t⟩
theorem fwd_back {m : Nat} {x : Plc} (h : m ≤ x.o) : fwd m (back m x) = x := by
  cases x
  simp only [fwd, back, Plc.mk.injEq, and_true]
  simp at h
  omega
theorem imp_back {m : Nat} {x y : Plc} (h : m ≤ x.o) (k : m ≤ y.o) : imp (back m x) (back m y) = imp x y := by
  have e : far (x.o - m) (y.o - m) = far x.o y.o := by unfold far; split <;> split <;> omega
  simp only [imp, back, e]
/-- The least place. -/
def least (l : List Plc) : Nat := l.foldl (fun m x => if x.o < m then x.o else m) 4294967295
theorem least_take {l : List Plc} {k : Nat} {x : Plc} (h : l[k]? = some x) : least (l.take (k + 1)) = if x.o < least (l.take k) then x.o else least (l.take k) := by
  obtain ⟨h1, h2⟩ := List.getElem?_eq_some_iff.mp h
  rw [List.take_succ_eq_append_getElem h1, h2]
  unfold least
  rw [List.foldl_append]
  rfl
theorem least_says (l : List Plc) : (∀ x ∈ l, least l ≤ x.o) ∧ (least l = 4294967295 ∨ ∃ x ∈ l, x.o = least l) := by
  have : ∀ k, k ≤ l.length → (∀ x ∈ l.take k, least (l.take k) ≤ x.o) ∧ (least (l.take k) = 4294967295 ∨ ∃ x ∈ l.take k, x.o = least (l.take k)) := by
    intro k
    induction k with
    | zero => intro _; exact ⟨fun _ h => by simp at h, Or.inl rfl⟩
    | succ k ih =>
      intro hk
      have hk' : k < l.length := by omega
      obtain ⟨h1, h2⟩ := ih (by omega)
      rw [least_take (List.getElem?_eq_getElem hk')]
      rw [List.take_succ_eq_append_getElem hk']
      by_cases hlt : l[k].o < least (l.take k)
      · rw [if_pos hlt]
        refine ⟨fun x hx => ?_, Or.inr ⟨l[k], List.mem_append_right _ (List.mem_singleton_self _), rfl⟩⟩
        rcases List.mem_append.mp hx with m | m
        · have := h1 x m; omega
        · rw [List.mem_singleton.mp m]; exact Nat.le_refl _
      · rw [if_neg hlt]
        refine ⟨fun x hx => ?_, ?_⟩
        · rcases List.mem_append.mp hx with m | m
          · exact h1 x m
          · rw [List.mem_singleton.mp m]; omega
        · rcases h2 with h2 | ⟨x, hx, e⟩
          · exact Or.inl h2
          · exact Or.inr ⟨x, List.mem_append_left _ hx, e⟩
  have h := this l.length (Nat.le_refl _)
  rwa [List.take_length] at h
theorem least_le (l : List Plc) : least l ≤ 4294967295 := by
  obtain ⟨h1, h2⟩ := least_says l
  have : ∀ (l : List Plc) (m : Nat), l.foldl (fun m x => if x.o < m then x.o else m) m ≤ m := by
    intro l
    induction l with
    | nil => intro m; exact Nat.le_refl _
    | cons x r ih =>
      intro m
      simp only [List.foldl_cons]
      split
      · exact Nat.le_trans (ih _) (by omega)
      · exact ih _
  exact this l 4294967295
/-- What the laws ask of the places, moved to begin at 0, in any order. -/
theorem normal_says {l G : List Plc} (h0 : l ≠ []) (hb : ∀ x ∈ l, x.o ≤ 1000) (hp : G.Perm ((all l).map (back (least (all l))))) :
    least (all l) ≤ 1000 ∧ (∀ g ∈ G, fwd (least (all l)) g ∈ l) ∧ (∃ g ∈ G, g.o = 0) ∧ (∀ x ∈ l, ∃ g ∈ G, imp (fwd (least (all l)) g) x = true) ∧ G.Pairwise Apart ∧ (∀ g ∈ G, g.o ≤ 1000) := by
  have hs := says_all l
  obtain ⟨h1, h2⟩ := least_says (all l)
  have hne : all l ≠ [] := by
    obtain ⟨x, r, rfl⟩ := List.exists_cons_of_ne_nil h0
    obtain ⟨s, hs', _⟩ := hs.cov x (by simp)
    exact List.ne_nil_of_mem hs'
  have hle : least (all l) ≤ 1000 := by
    obtain ⟨y, r, e⟩ := List.exists_cons_of_ne_nil hne
    have hy : y ∈ all l := by rw [e]; simp
    have := h1 y hy
    have := hb y (hs.of y hy)
    omega
  have hG : ∀ g, g ∈ G ↔ ∃ s ∈ all l, back (least (all l)) s = g := fun g => by rw [hp.mem_iff, List.mem_map]
  refine ⟨hle, fun g hg => ?_, ?_, fun x hx => ?_, ?_, fun g hg => ?_⟩
  · obtain ⟨s, hs1, rfl⟩ := (hG g).mp hg
    rw [fwd_back (h1 s hs1)]
    exact hs.of s hs1
  · rcases h2 with h2 | ⟨s, hs1, e⟩
    · omega
    · exact ⟨_, (hG _).mpr ⟨s, hs1, rfl⟩, by simp [back, e]⟩
  · obtain ⟨s, hs1, hi⟩ := hs.cov x hx
    exact ⟨_, (hG _).mpr ⟨s, hs1, rfl⟩, by rw [fwd_back (h1 s hs1)]; exact hi⟩
  · refine (hp.pairwise_iff (fun h => h.symm)).mpr ?_
    rw [List.pairwise_map]
    refine hs.ap.imp_of_mem fun {a b} ha hb hab => ?_
    exact ⟨by rw [imp_back (h1 a ha) (h1 b hb)]; exact hab.1, by rw [imp_back (h1 b hb) (h1 a ha)]; exact hab.2⟩
  · obtain ⟨s, hs1, rfl⟩ := (hG g).mp hg
    have := hb s (hs.of s hs1)
    simp [back]
    omega
end Go.Nor
