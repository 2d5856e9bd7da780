/- The spec's sets of instructions, as truth values, against the automaton's: plain. -/
import Derived.Test.YtnpchkohfomagaaDoorRgC
namespace Go.Rg
set_option linter.unusedVariables false
/-- A row of truth values says what is in a set. -/
def SetIs (l : List In) (bs : List Bool) (R : List Nat) : Prop := bs.length = l.length ∧ ∀ k : Nat, bs[k]? = some true ↔ k ∈ R
/-- A row is closed, holds the roots, and is least. -/
structure ClosB (l : List In) (r : List Nat) (bs : List Bool) : Prop where
  len : bs.length = l.length
  has : ∀ x ∈ r, bs[x]? = some true
  closed : ∀ x : Nat, bs[x]? = some true → ∀ i, l[x]? = some i → ∀ y ∈ i.succ, bs[y]? = some true
  least : ∀ P : Nat → Prop, (∀ x ∈ r, P x) → (∀ x i, P x → l[x]? = some i → ∀ y ∈ i.succ, P y) → ∀ x : Nat, bs[x]? = some true → P x
theorem ClosB.setIs {l : List In} {r : List Nat} {bs : List Bool} (h : ClosB l r bs) {R : List Nat} (c : Closure l r R) : SetIs l bs R :=
  ⟨h.len, fun k => ⟨h.least (· ∈ R) c.has (fun x i hx => c.closed x hx i) k, c.least (fun k => bs[k]? = some true) h.has (fun x i hx => h.closed x hx i) k⟩⟩
theorem takes_of_match {l : List In} {x : Nat} (h : matchAt l x = true) : takes l x = true := by
  unfold matchAt at h; unfold takes
  cases e : l[x]? with
  | none => rw [e] at h; exact h
  | some i => rw [e] at h; simp at h ⊢; exact Or.inl h
theorem takes_of_into {l : List In} {x c : Nat} (h : into l c x = true) : takes l x = true := by
  unfold into at h; unfold takes
  cases e : l[x]? with
  | none => rw [e] at h; exact h
  | some i => rw [e] at h; simp at h ⊢; exact Or.inr h.1.1
theorem mem_key {l : List In} {R : List Nat} {x : Nat} : x ∈ key l R ↔ x ∈ R ∧ takes l x = true := by simp [key]
/-- Whether a row holds one of a kind. -/
def anyB (l : List In) (p : Nat → Bool) (bs : List Bool) : Bool := (List.range l.length).any fun k => bs[k]?.getD false && p k
theorem anyB_iff {l : List In} {p : Nat → Bool} {bs : List Bool} {R : List Nat} (h : SetIs l bs R) : anyB l p bs = true ↔ ∃ k ∈ R, p k = true := by
  simp only [anyB, List.any_eq_true, List.mem_range, Bool.and_eq_true]
  constructor
  · rintro ⟨k, hk, h1, h2⟩
    refine ⟨k, (h.2 k).mp ?_, h2⟩
    cases e : bs[k]? with
    | none => rw [e] at h1; simp at h1
    | some b => rw [e] at h1; simp at h1; rw [h1]
  · rintro ⟨k, hk, h2⟩
    have e := (h.2 k).mpr hk
    obtain ⟨hlt, _⟩ := List.getElem?_eq_some_iff.mp e
    exact ⟨k, by rw [← h.1]; exact hlt, by rw [e]; rfl, h2⟩
theorem any_match {l : List In} {bs : List Bool} {R : List Nat} (h : SetIs l bs R) : anyB l (matchAt l) bs = isM l (key l R) := by
  rw [Bool.eq_iff_iff, anyB_iff h]
  simp only [isM, List.any_eq_true]
  constructor
  · rintro ⟨k, hk, h2⟩; exact ⟨k, mem_key.mpr ⟨hk, takes_of_match h2⟩, h2⟩
  · rintro ⟨k, hk, h2⟩; exact ⟨k, (mem_key.mp hk).1, h2⟩
theorem any_can {l : List In} {bs : List Bool} {R : List Nat} (h : SetIs l bs R) : anyB l (takes l) bs = !(key l R).isEmpty := by
  rw [Bool.eq_iff_iff, anyB_iff h]
  constructor
  · rintro ⟨k, hk, h2⟩
    have := mem_key.mpr ⟨hk, h2⟩
    cases e : key l R with
    | nil => rw [e] at this; cases this
    | cons a t => rfl
  · intro hh
    cases e : key l R with
    | nil => rw [e] at hh; cases hh
    | cons a t =>
      have := mem_key.mp (show a ∈ key l R by rw [e]; simp)
      exact ⟨a, this.1, this.2⟩
theorem mem_roots {l : List In} {R : List Nat} {c j : Nat} : j ∈ rootsOf l (key l R) c ↔ ∃ k, j = k + 1 ∧ k ∈ R ∧ into l c k = true := by
  simp only [rootsOf, List.mem_map, List.mem_filter]
  constructor
  · rintro ⟨k, ⟨h1, h2⟩, rfl⟩; exact ⟨k, rfl, (mem_key.mp h1).1, h2⟩
  · rintro ⟨k, rfl, h1, h2⟩; exact ⟨k, ⟨mem_key.mpr ⟨h1, takes_of_into h2⟩, h2⟩, rfl⟩
/-- The states come to behind the beginnings of a text. -/
def kAt (l : List In) (s : List Nat) : Nat → List Nat
  | 0 => startK l
  | i + 1 => stepK l (kAt l s i) (s[i]?.getD 0)
theorem roots_lt {l : List In} (hs : Sound l) {K : List Nat} {c : Nat} : ∀ x ∈ rootsOf l K c, x < l.length := by
  intro x hx
  simp only [rootsOf, List.mem_map, List.mem_filter] at hx
  obtain ⟨k, ⟨_, h⟩, rfl⟩ := hx
  unfold into at h
  cases e : l[k]? with
  | none => rw [e] at h; cases h
  | some i => rw [e] at h; simp at h; exact (hs k i e).2.2.1 h.1.1
theorem key_nodup {l : List In} {S : List Nat} (h : Good l S) : (key l S).Nodup := List.Nodup.sublist List.filter_sublist h.nd
/-- A state: its instructions, none twice, all of them taking ones. -/
structure IsK (l : List In) (K : List Nat) : Prop where
  nd : K.Nodup
  tk : ∀ x ∈ K, takes l x = true
theorem isK_key {l : List In} {S : List Nat} (h : Good l S) : IsK l (key l S) := ⟨key_nodup h, fun x hx => (mem_key.mp hx).2⟩
theorem isK_start {l : List In} (hs : Sound l) (h0 : 0 < l.length) : IsK l (startK l) := isK_key (addAll_closure l hs [0] (by simpa using h0)).good
theorem isK_step {l : List In} (hs : Sound l) (K : List Nat) (c : Nat) : IsK l (stepK l K c) := isK_key (addAll_closure l hs _ (roots_lt hs)).good
theorem step_nil (l : List In) (c : Nat) : stepK l [] c = [] := rfl
/-- How many instructions take a byte or match. -/
def taking (l : List In) : List Nat := (List.range l.length).filter (takes l)
theorem IsK.sub {l : List In} {K : List Nat} (h : IsK l K) : ∀ x ∈ K, x ∈ taking l := by
  intro x hx
  have ht := h.tk x hx
  simp only [taking, List.mem_filter, List.mem_range]
  refine ⟨?_, ht⟩
  unfold takes at ht
  cases e : l[x]? with
  | none => rw [e] at ht; cases ht
  | some i => exact (List.getElem?_eq_some_iff.mp e).1
theorem few_states {l : List In} (h6 : (taking l).length ≤ 6) {Ks : List (List Nat)} (hn : Ks.Nodup) (h : ∀ K ∈ Ks, IsK l K) : Ks.length ≤ 1957 :=
  few (taking l) h6 Ks hn fun K hK => ⟨(h K hK).nd, (h K hK).sub⟩
end Go.Rg
