/- Places of a query, moved on letter by letter (plain): what they tell is the edit distance, up to the greatest one. -/
import Derived.Test.YtnfagjemhbgfkaaDoorNorP
namespace Go.Nor
set_option linter.unusedVariables false
/-- The edit distance of the first i letters of a and the first k ones of b. -/
def D (sw : Bool) (a b : Nat → Int) : Nat → Nat → Nat
  | 0, k => k
  | i + 1, 0 => i + 1
  | 1, k + 1 => min (min (D sw a b 0 (k + 1)) (D sw a b 1 k) + 1) (D sw a b 0 k + if a 0 = b k then 0 else 1)
  | i + 2, 1 => min (min (D sw a b (i + 1) 1) (D sw a b (i + 2) 0) + 1) (D sw a b (i + 1) 0 + if a (i + 1) = b 0 then 0 else 1)
  | i + 2, k + 2 =>
    if sw = true ∧ a (i + 1) = b k ∧ a i = b (k + 1) then min (min (min (D sw a b (i + 1) (k + 2)) (D sw a b (i + 2) (k + 1)) + 1) (D sw a b (i + 1) (k + 1) + if a (i + 1) = b (k + 1) then 0 else 1)) (D sw a b i k + 1)
    else min (min (D sw a b (i + 1) (k + 2)) (D sw a b (i + 2) (k + 1)) + 1) (D sw a b (i + 1) (k + 1) + if a (i + 1) = b (k + 1) then 0 else 1)
termination_by i k => i + k
variable {sw : Bool} {a b : Nat → Int}
theorem D_zero (k : Nat) : D sw a b 0 k = k := by rw [D]
theorem D_left (i : Nat) : D sw a b i 0 = i := by cases i <;> rw [D]
/-- Whether two letters change places. -/
def Sw (sw : Bool) (a b : Nat → Int) (i k : Nat) : Prop := sw = true ∧ a (i + 1) = b k ∧ a i = b (k + 1)
instance {i k : Nat} : Decidable (Sw sw a b i k) := by unfold Sw; infer_instance
/-- Without a swap. -/
def plainD (sw : Bool) (a b : Nat → Int) (i k : Nat) : Nat := min (min (D sw a b i (k + 1)) (D sw a b (i + 1) k) + 1) (D sw a b i k + if a i = b k then 0 else 1)
theorem D_eq (i k : Nat) (h : i = 0 ∨ k = 0) : D sw a b (i + 1) (k + 1) = plainD sw a b i k := by
  unfold plainD
  cases i with
  | zero =>
    show D sw a b 1 (k + 1) = _
    conv => lhs; rw [D]
  | succ i =>
    cases k with
    | zero =>
      show D sw a b (i + 2) 1 = _
      conv => lhs; rw [D]
    | succ k => omega
theorem D_eq2 (i k : Nat) : D sw a b (i + 2) (k + 2) = if Sw sw a b i k then min (plainD sw a b (i + 1) (k + 1)) (D sw a b i k + 1) else plainD sw a b (i + 1) (k + 1) := by
  unfold plainD Sw
  rw [D]
theorem D_le (i k : Nat) : D sw a b (i + 1) (k + 1) ≤ plainD sw a b i k := by
  by_cases h : i = 0 ∨ k = 0
  · rw [D_eq i k h]; exact Nat.le_refl _
  · obtain ⟨i, rfl⟩ : ∃ j, i = j + 1 := ⟨i - 1, by omega⟩
    obtain ⟨k, rfl⟩ : ∃ j, k = j + 1 := ⟨k - 1, by omega⟩
    rw [D_eq2]
    split <;> omega
theorem D_or (i k : Nat) : D sw a b (i + 1) (k + 1) = plainD sw a b i k ∨ ∃ i' k', i = i' + 1 ∧ k = k' + 1 ∧ Sw sw a b i' k' ∧ D sw a b (i + 1) (k + 1) = D sw a b i' k' + 1 := by
  by_cases h : i = 0 ∨ k = 0
  · exact Or.inl (D_eq i k h)
  · obtain ⟨i, rfl⟩ : ∃ j, i = j + 1 := ⟨i - 1, by omega⟩
    obtain ⟨k, rfl⟩ : ∃ j, k = j + 1 := ⟨k - 1, by omega⟩
    rw [D_eq2]
    split
    · rename_i hs
      by_cases hm : plainD sw a b (i + 1) (k + 1) ≤ D sw a b i k + 1
      · rw [Nat.min_eq_left hm]; exact Or.inl rfl
      · rw [Nat.min_eq_right (by omega)]
        exact Or.inr ⟨i, k, rfl, rfl, hs, rfl⟩
    · exact Or.inl rfl
theorem D_step (i k : Nat) : D sw a b (i + 1) (k + 1) ≤ D sw a b i (k + 1) + 1 ∧ D sw a b (i + 1) (k + 1) ≤ D sw a b (i + 1) k + 1 ∧ D sw a b (i + 1) (k + 1) ≤ D sw a b i k + 1 ∧ (a i = b k → D sw a b (i + 1) (k + 1) ≤ D sw a b i k) := by
  have h := D_le (sw := sw) (a := a) (b := b) i k
  unfold plainD at h
  refine ⟨by omega, by omega, ?_, fun e => ?_⟩
  · split at h <;> omega
  · rw [if_pos e] at h; omega
theorem D_swap {i k : Nat} (h : Sw sw a b i k) : D sw a b (i + 2) (k + 2) ≤ D sw a b i k + 1 := by
  rw [D_eq2, if_pos h]
  omega
theorem D_cases (i k : Nat) : D sw a b (i + 1) (k + 1) = D sw a b i (k + 1) + 1 ∨ D sw a b (i + 1) (k + 1) = D sw a b (i + 1) k + 1 ∨ D sw a b (i + 1) (k + 1) = D sw a b i k + 1 ∨ (a i = b k ∧ D sw a b (i + 1) (k + 1) = D sw a b i k) ∨ (∃ i' k', i = i' + 1 ∧ k = k' + 1 ∧ Sw sw a b i' k' ∧ D sw a b (i + 1) (k + 1) = D sw a b i' k' + 1) := by
  rcases D_or (sw := sw) (a := a) (b := b) i k with h | h
  · unfold plainD at h
    by_cases e : a i = b k
    · rw [if_pos e] at h
      have : ∀ t x y z : Nat, t = min (min x y + 1) (z + 0) → t = x + 1 ∨ t = y + 1 ∨ t = z := by omega
      rcases this _ _ _ _ h with t | t | t
      · exact Or.inl t
      · exact Or.inr (Or.inl t)
      · exact Or.inr (Or.inr (Or.inr (Or.inl ⟨e, t⟩)))
    · rw [if_neg e] at h
      have : ∀ t x y z : Nat, t = min (min x y + 1) (z + 1) → t = x + 1 ∨ t = y + 1 ∨ t = z + 1 := by omega
      rcases this _ _ _ _ h with t | t | t
      · exact Or.inl t
      · exact Or.inr (Or.inl t)
      · exact Or.inr (Or.inr (Or.inl t))
  · exact Or.inr (Or.inr (Or.inr (Or.inr h)))
theorem D_up (i k : Nat) : D sw a b (i + 1) k ≤ D sw a b i k + 1 := by
  cases k with
  | zero => rw [D_left, D_left]; omega
  | succ k => exact (D_step i k).1
theorem D_on (i k : Nat) : D sw a b i (k + 1) ≤ D sw a b i k + 1 := by
  cases i with
  | zero => rw [D_zero, D_zero]; omega
  | succ i => exact (D_step i k).2.1
theorem D_down : ∀ (k i : Nat), D sw a b i k ≤ D sw a b (i + 1) k + 1 := by
  intro k
  induction k with
  | zero => intro i; rw [D_left, D_left]; omega
  | succ k ih =>
    intro i
    have h0 := ih i
    have h1 := D_on (sw := sw) (a := a) (b := b) i k
    rcases D_cases (sw := sw) (a := a) (b := b) i k with h | h | h | ⟨_, h⟩ | ⟨i', k', rfl, rfl, _, h⟩
    · omega
    · omega
    · omega
    · omega
    · have h2 := D_on (sw := sw) (a := a) (b := b) (i' + 1) (k' + 1)
      have h3 := (D_step (sw := sw) (a := a) (b := b) i' k').2.2.1
      omega
theorem D_far (i j k : Nat) : D sw a b i k ≤ D sw a b j k + far j i := by
  have up : ∀ n, D sw a b (j + n) k ≤ D sw a b j k + n := by
    intro n
    induction n with
    | zero => simp
    | succ n ih => have := D_up (sw := sw) (a := a) (b := b) (j + n) k; rw [← Nat.add_assoc]; omega
  have down : ∀ n, D sw a b i k ≤ D sw a b (i + n) k + n := by
    intro n
    induction n with
    | zero => simp
    | succ n ih =>
      have h : D sw a b (i + n) k ≤ D sw a b (i + (n + 1)) k + 1 := D_down (sw := sw) (a := a) (b := b) k (i + n)
      omega
  unfold far
  split
  · have := up (i - j)
    rwa [show j + (i - j) = i by omega] at this
  · have := down (j - i)
    rwa [show i + (j - i) = j by omega] at this
/-! One letter more. -/
/-- The places that one place is moved on to by a letter; bit d: whether the query's letter d places on is this one. -/
def outs (m : Nat) (sw : Bool) (bit : Nat → Bool) (s : Plc) : List Plc :=
  (if s.d < m then [⟨s.o, s.d + 1, false⟩, ⟨s.o + 1, s.d + 1, false⟩] ++ ((List.range (m - s.d)).filterMap fun d => if bit (d + 1) then some ⟨s.o + 1 + (d + 1), s.d + (d + 1), false⟩ else none) ++ (if sw && bit 1 then [⟨s.o, s.d + 1, true⟩] else []) else [])
  ++ (if bit 0 then [⟨s.o + 1, s.d, false⟩] else []) ++ (if s.t && bit 0 then [⟨s.o + 2, s.d, false⟩] else [])
theorem mem_outs {m : Nat} {bit : Nat → Bool} {s x : Plc} : x ∈ outs m sw bit s ↔
    (s.d < m ∧ (x = ⟨s.o, s.d + 1, false⟩ ∨ x = ⟨s.o + 1, s.d + 1, false⟩ ∨ (∃ d, d < m - s.d ∧ bit (d + 1) = true ∧ x = ⟨s.o + 1 + (d + 1), s.d + (d + 1), false⟩) ∨ (sw = true ∧ bit 1 = true ∧ x = ⟨s.o, s.d + 1, true⟩)))
    ∨ (bit 0 = true ∧ x = ⟨s.o + 1, s.d, false⟩) ∨ (s.t = true ∧ bit 0 = true ∧ x = ⟨s.o + 2, s.d, false⟩) := by
  unfold outs
  constructor
  · intro h
    simp only [List.mem_append] at h
    rcases h with (h | h) | h
    · split at h
      · rename_i hd
        simp only [List.mem_append, List.mem_cons, List.not_mem_nil, or_false, List.mem_filterMap, List.mem_range] at h
        refine Or.inl ⟨hd, ?_⟩
        rcases h with (h | ⟨d, h1, h2⟩) | h
        · rcases h with h | h
          · exact Or.inl h
          · exact Or.inr (Or.inl h)
        · split at h2
          · rename_i hb
            exact Or.inr (Or.inr (Or.inl ⟨d, h1, hb, by simpa using h2.symm⟩))
          · cases h2
        · split at h
          · rename_i hb
            simp only [Bool.and_eq_true] at hb
            exact Or.inr (Or.inr (Or.inr ⟨hb.1, hb.2, by simpa using h⟩))
          · cases h
      · cases h
    · split at h
      · rename_i hb; exact Or.inr (Or.inl ⟨hb, by simpa using h⟩)
      · cases h
    · split at h
      · rename_i hb
        simp only [Bool.and_eq_true] at hb
        exact Or.inr (Or.inr ⟨hb.1, hb.2, by simpa using h⟩)
      · cases h
  · intro h
    simp only [List.mem_append]
    rcases h with ⟨hd, h⟩ | ⟨h1, rfl⟩ | ⟨h1, h2, rfl⟩
    · refine Or.inl (Or.inl ?_)
      rw [if_pos hd]
      simp only [List.mem_append, List.mem_cons, List.not_mem_nil, or_false, List.mem_filterMap, List.mem_range]
      rcases h with h | h | ⟨d, h1, h2, h3⟩ | ⟨h1, h2, h3⟩
      · exact Or.inl (Or.inl (Or.inl h))
      · exact Or.inl (Or.inl (Or.inr h))
      · exact Or.inl (Or.inr ⟨d, h1, by rw [if_pos h2, h3]⟩)
      · refine Or.inr ?_
        rw [if_pos (by simp [h1, h2])]
        simp [h3]
    · exact Or.inl (Or.inr (by simp [h1]))
    · exact Or.inr (by simp [h1, h2])
/-- All of them. -/
def moves (m : Nat) (sw : Bool) (bit : Nat → Nat → Bool) (S : List Plc) : List Plc := S.flatMap fun s => outs m sw (bit s.o) s
theorem mem_moves {m : Nat} {bit : Nat → Nat → Bool} {S : List Plc} {x : Plc} : x ∈ moves m sw bit S ↔ ∃ s ∈ S, x ∈ outs m sw (bit s.o) s := by
  unfold moves; rw [List.mem_flatMap]
/-- A place that makes (j, u) needless is there. -/
def Cov (S : List Plc) (j u : Nat) : Prop := ∃ s ∈ S, s.d + far s.o j ≤ u
/-- What places say behind k letters. -/
structure Tell (sw : Bool) (m : Nat) (a b : Nat → Int) (k : Nat) (S : List Plc) : Prop where
  sound : ∀ s ∈ S, D sw a b s.o k ≤ s.d ∧ (s.t = true → sw = true ∧ ∃ k', k = k' + 1 ∧ a (s.o + 1) = b k' ∧ D sw a b s.o k' + 1 ≤ s.d)
  cov : ∀ j, D sw a b j k ≤ m → Cov S j (D sw a b j k)
  swp : sw = true → ∀ k' p, k = k' + 1 → a (p + 1) = b k' → D sw a b p k' + 1 ≤ m → (∃ j, p ≤ j ∧ j ≤ p + 2 ∧ Cov S j (D sw a b p k')) ∨ ∃ s ∈ S, s.o = p ∧ s.t = true ∧ s.d ≤ D sw a b p k' + 1
  few : ∀ s ∈ S, s.d ≤ m
theorem Tell.start (sw : Bool) (m : Nat) (a b : Nat → Int) : Tell sw m a b 0 [⟨0, 0, false⟩] := by
  refine ⟨?_, ?_, ?_, ?_⟩
  · intro s hs
    rw [List.mem_singleton.mp hs]
    exact ⟨by rw [D_left]; exact Nat.le_refl _, fun h => by cases h⟩
  · intro j hj
    refine ⟨_, List.mem_singleton_self _, ?_⟩
    rw [D_left]; simp only [far]; split <;> omega
  · intro _ k' p h
    exact absurd h (by omega)
  · intro s hs
    rw [List.mem_singleton.mp hs]; exact Nat.zero_le _
theorem far_zero {x y : Nat} (h : far x y = 0) : x = y := by unfold far at h; split at h <;> omega
theorem far_le (x y : Nat) : far x y = if x < y then y - x else x - y := rfl
section
variable {m k : Nat} {S G : List Plc} {bit : Nat → Nat → Bool}
/-- What a letter's places cover. -/
theorem cov_of (hS : Says (moves m sw bit S) G) {x : Plc} (hx : x ∈ moves m sw bit S) {j u : Nat} (h : x.d + far x.o j ≤ u) : Cov G j u := by
  obtain ⟨s, hs, hi⟩ := hS.cov x hx
  rw [imp_iff] at hi
  refine ⟨s, hs, ?_⟩
  have := far_tri s.o x.o j
  omega
theorem Cov.mono {j j' u u' : Nat} (h : Cov G j u) (hu : u + far j j' ≤ u') : Cov G j' u' := by
  obtain ⟨s, hs, h1⟩ := h
  refine ⟨s, hs, ?_⟩
  have := far_tri s.o j j'
  omega
theorem cov_ins (hS : Says (moves m sw bit S) G) {j u : Nat} (h : Cov S j u) (hu : u < m) : Cov G j (u + 1) := by
  obtain ⟨s, hs, h1⟩ := h
  exact cov_of hS (x := ⟨s.o, s.d + 1, false⟩) (mem_moves.mpr ⟨s, hs, mem_outs.mpr (Or.inl ⟨by omega, Or.inl rfl⟩)⟩) (by simp only; omega)
theorem cov_sub (hS : Says (moves m sw bit S) G) {j u : Nat} (h : Cov S j u) (hu : u < m) : Cov G (j + 1) (u + 1) := by
  obtain ⟨s, hs, h1⟩ := h
  refine cov_of hS (x := ⟨s.o + 1, s.d + 1, false⟩) (mem_moves.mpr ⟨s, hs, mem_outs.mpr (Or.inl ⟨by omega, Or.inr (Or.inl rfl)⟩)⟩) ?_
  simp only
  have : far (s.o + 1) (j + 1) = far s.o j := by unfold far; split <;> split <;> omega
  omega
theorem cov_match (hS : Says (moves m sw bit S) G) {j u : Nat} (h : Cov S j u) (hu : u ≤ m) (hb : ∀ o d, o + d = j → d ≤ m → bit o d = true) : Cov G (j + 1) u := by
  obtain ⟨s, hs, h1⟩ := h
  rcases Nat.lt_trichotomy s.o j with hlt | heq | hgt
  · have hf : far s.o j = j - s.o := by unfold far; rw [if_pos hlt]
    refine cov_of hS (x := ⟨s.o + 1 + (j - s.o - 1 + 1), s.d + (j - s.o - 1 + 1), false⟩) (mem_moves.mpr ⟨s, hs, mem_outs.mpr (Or.inl ⟨by omega, Or.inr (Or.inr (Or.inl ⟨j - s.o - 1, by omega, ?_, rfl⟩))⟩)⟩) ?_
    · exact hb _ _ (by omega) (by omega)
    · simp only
      rw [show s.o + 1 + (j - s.o - 1 + 1) = j + 1 by omega, far_self]
      omega
  · have hf : far s.o j = 0 := by rw [heq]; exact far_self _
    refine cov_of hS (x := ⟨s.o + 1, s.d, false⟩) (mem_moves.mpr ⟨s, hs, mem_outs.mpr (Or.inr (Or.inl ⟨hb _ _ (by omega) (by omega), rfl⟩))⟩) ?_
    simp only
    rw [heq, far_self]
    omega
  · have hf : far s.o j = s.o - j := by unfold far; rw [if_neg (by omega)]
    refine cov_of hS (x := ⟨s.o, s.d + 1, false⟩) (mem_moves.mpr ⟨s, hs, mem_outs.mpr (Or.inl ⟨by omega, Or.inl rfl⟩)⟩) ?_
    simp only
    have : far s.o (j + 1) = s.o - (j + 1) := by unfold far; rw [if_neg (by omega)]
    omega
theorem Tell.step (h : Tell sw m a b k S) (hS : Says (moves m sw bit S) G) (hb : ∀ o d, d ≤ m → (bit o d = true ↔ a (o + d) = b k)) : Tell sw m a b (k + 1) G := by
  have key : ∀ j, D sw a b j (k + 1) ≤ m → Cov G j (D sw a b j (k + 1)) := by
    intro j
    induction j with
    | zero =>
      intro hj
      rw [D_zero] at hj ⊢
      have := h.cov 0 (by rw [D_zero]; omega)
      rw [D_zero] at this
      exact cov_ins hS this (by omega)
    | succ j ih =>
      intro hj
      rcases D_cases (sw := sw) (a := a) (b := b) j k with e | e | e | ⟨hm, e⟩ | ⟨i', k', rfl, rfl, hsw, e⟩
      · rw [e] at hj ⊢
        exact (ih (by omega)).mono (by simp only [far]; split <;> omega)
      · rw [e] at hj ⊢
        exact cov_ins hS (h.cov _ (by omega)) (by omega)
      · rw [e] at hj ⊢
        exact cov_sub hS (h.cov _ (by omega)) (by omega)
      · rw [e] at hj ⊢
        exact cov_match hS (h.cov _ (by omega)) hj fun o d h1 h2 => (hb o d (by omega)).mpr (by rw [h1]; exact hm)
      · rw [e] at hj ⊢
        obtain ⟨s1, s2, s3⟩ := hsw
        rcases h.swp s1 k' i' rfl s2 (by omega) with ⟨x, h1, h2, hc⟩ | ⟨s, hs, rfl, ht, hd⟩
        · have hx : x = i' ∨ x = i' + 1 ∨ x = i' + 2 := by omega
          rcases hx with rfl | rfl | rfl
          · have := cov_match hS hc (by omega) fun o d h1 h2 => (hb o d (by omega)).mpr (by rw [h1]; exact s3)
            exact this.mono (by simp only [far]; split <;> omega)
          · exact cov_sub hS hc (by omega)
          · exact cov_ins hS hc (by omega)
        · refine cov_of hS (x := ⟨s.o + 2, s.d, false⟩) (mem_moves.mpr ⟨s, hs, mem_outs.mpr (Or.inr (Or.inr ⟨ht, (hb _ _ (by omega)).mpr s3, rfl⟩))⟩) ?_
          simp only
          rw [far_self]
          omega
  refine ⟨fun x hx => ?_, key, fun hsw k' p hk hp hd => ?_, fun x hx => ?_⟩
  · obtain ⟨s, hs, ho⟩ := mem_moves.mp (hS.of x hx)
    obtain ⟨h1, h2⟩ := h.sound s hs
    rcases mem_outs.mp ho with ⟨hd, rfl | rfl | ⟨d, hd2, hbit, rfl⟩ | ⟨g1, g2, rfl⟩⟩ | ⟨g1, rfl⟩ | ⟨g1, g2, rfl⟩
    · refine ⟨?_, fun h => by cases h⟩
      have := D_on (sw := sw) (a := a) (b := b) s.o k
      simp only; omega
    · refine ⟨?_, fun h => by cases h⟩
      have := (D_step (sw := sw) (a := a) (b := b) s.o k).2.2.1
      simp only; omega
    · refine ⟨?_, fun h => by cases h⟩
      have hm := (hb _ _ (by omega)).mp hbit
      have := (D_step (sw := sw) (a := a) (b := b) (s.o + (d + 1)) k).2.2.2 hm
      have h3 := D_far (sw := sw) (a := a) (b := b) (s.o + (d + 1)) s.o k
      have h4 : far s.o (s.o + (d + 1)) = d + 1 := by unfold far; split <;> omega
      simp only
      rw [show s.o + 1 + (d + 1) = s.o + (d + 1) + 1 by omega]
      omega
    · have hm := (hb _ _ (by omega)).mp g2
      have := D_on (sw := sw) (a := a) (b := b) s.o k
      refine ⟨by simp only; omega, fun _ => ⟨g1, k, rfl, hm, by simp only; omega⟩⟩
    · refine ⟨?_, fun h => by cases h⟩
      have hm := (hb _ _ (by omega)).mp g1
      have := (D_step (sw := sw) (a := a) (b := b) s.o k).2.2.2 hm
      simp only; omega
    · refine ⟨?_, fun h => by cases h⟩
      have hm := (hb _ _ (by omega)).mp g2
      obtain ⟨q1, k', rfl, q2, q3⟩ := h2 g1
      have : D sw a b (s.o + 2) (k' + 1 + 1) ≤ D sw a b s.o k' + 1 := D_swap (sw := sw) (a := a) (b := b) (i := s.o) (k := k') ⟨q1, q2, hm⟩
      simp only; omega
  · cases hk
    -- the place that is covered at k tells where it comes from
    obtain ⟨s, hs, hsd⟩ := h.cov p (by omega)
    have hdm : s.d < m := by omega
    rcases Nat.lt_trichotomy s.o p with hlt | heq | hgt
    · left
      refine ⟨p, Nat.le_refl _, by omega, cov_of hS (x := ⟨s.o + 1, s.d + 1, false⟩) (mem_moves.mpr ⟨s, hs, mem_outs.mpr (Or.inl ⟨hdm, Or.inr (Or.inl rfl)⟩)⟩) ?_⟩
      have e1 : far s.o p = p - s.o := by unfold far; rw [if_pos hlt]
      have e2 : far (s.o + 1) p = p - (s.o + 1) := by unfold far; split <;> omega
      simp only; omega
    · have e0 : far s.o p = 0 := by rw [heq]; exact far_self _
      have hx : (⟨s.o, s.d + 1, true⟩ : Plc) ∈ moves m sw bit S := mem_moves.mpr ⟨s, hs, mem_outs.mpr (Or.inl ⟨hdm, Or.inr (Or.inr (Or.inr ⟨hsw, (hb _ _ (by omega)).mpr (by rw [heq]; exact hp), rfl⟩))⟩)⟩
      obtain ⟨g, hg, hi⟩ := hS.cov _ hx
      rw [imp_iff] at hi
      simp only at hi
      cases hgt : g.t with
      | false =>
        left
        have := hi.2 hgt trivial
        exact ⟨p, Nat.le_refl _, by omega, g, hg, by rw [heq] at this; omega⟩
      | true =>
        by_cases hgp : g.o = p
        · right
          exact ⟨g, hg, hgp, hgt, by omega⟩
        · left
          refine ⟨p + 1, by omega, by omega, ?_⟩
          by_cases hlt : p < g.o
          · refine ⟨g, hg, ?_⟩
            have e1 : far g.o s.o = g.o - p := by rw [heq]; unfold far; split <;> omega
            have e2 : far g.o (p + 1) = g.o - (p + 1) := by unfold far; split <;> omega
            omega
          · obtain ⟨s2, hs2, ho⟩ := mem_moves.mp (hS.of g hg)
            rcases mem_outs.mp ho with ⟨hd2, rfl | rfl | ⟨d, _, _, rfl⟩ | ⟨g1, g2, rfl⟩⟩ | ⟨g1, rfl⟩ | ⟨g1, g2, rfl⟩
            · cases hgt
            · cases hgt
            · cases hgt
            · refine cov_of hS (x := ⟨s2.o + 1 + (0 + 1), s2.d + (0 + 1), false⟩) (mem_moves.mpr ⟨s2, hs2, mem_outs.mpr (Or.inl ⟨hd2, Or.inr (Or.inr (Or.inl ⟨0, by omega, g2, rfl⟩))⟩)⟩) ?_
              simp only at hi hgp hlt ⊢
              have e1 : far s2.o s.o = p - s2.o := by rw [heq]; unfold far; split <;> omega
              have e2 : far (s2.o + 1 + (0 + 1)) (p + 1) = p + 1 - (s2.o + 2) := by unfold far; split <;> omega
              omega
            · cases hgt
            · cases hgt
    · left
      by_cases h1 : s.o = p + 1
      · refine ⟨p + 2, by omega, Nat.le_refl _, cov_of hS (x := ⟨s.o + 1, s.d, false⟩) (mem_moves.mpr ⟨s, hs, mem_outs.mpr (Or.inr (Or.inl ⟨(hb _ _ (by omega)).mpr (by rw [h1]; exact hp), rfl⟩))⟩) ?_⟩
        simp only
        rw [h1, show p + 1 + 1 = p + 2 by omega, far_self]
        omega
      · refine ⟨p + 2, by omega, Nat.le_refl _, cov_of hS (x := ⟨s.o, s.d + 1, false⟩) (mem_moves.mpr ⟨s, hs, mem_outs.mpr (Or.inl ⟨hdm, Or.inl rfl⟩)⟩) ?_⟩
        have e1 : far s.o p = s.o - p := by unfold far; rw [if_neg (by omega)]
        have e2 : far s.o (p + 2) = s.o - (p + 2) := by unfold far; split <;> omega
        simp only; omega
  · obtain ⟨s, hs, ho⟩ := mem_moves.mp (hS.of x hx)
    have h1 := h.few s hs
    rcases mem_outs.mp ho with ⟨hd, rfl | rfl | ⟨d, hd2, hbit, rfl⟩ | ⟨g1, g2, rfl⟩⟩ | ⟨g1, rfl⟩ | ⟨g1, g2, rfl⟩ <;> simp only <;> omega
end
/-- What places tell at the end: the least of their distances, if it is not above the greatest one. -/
def told (m n : Nat) (S : List Plc) : Nat := S.foldl (fun x s => if s.d + far n s.o ≤ m ∧ s.d + far n s.o < x then s.d + far n s.o else x) (m + 1)
theorem far_comm (x y : Nat) : far x y = far y x := by unfold far; split <;> split <;> omega
theorem told_take {m n : Nat} {S : List Plc} {k : Nat} {s : Plc} (h : S[k]? = some s) : told m n (S.take (k + 1)) = if s.d + far n s.o ≤ m ∧ s.d + far n s.o < told m n (S.take k) then s.d + far n s.o else told m n (S.take k) := by
  obtain ⟨h1, h2⟩ := List.getElem?_eq_some_iff.mp h
  rw [List.take_succ_eq_append_getElem h1, h2]
  unfold told
  rw [List.foldl_append]
  rfl
theorem told_says (m n : Nat) (S : List Plc) : told m n S ≤ m + 1 ∧ (told m n S = m + 1 ∨ ∃ s ∈ S, told m n S = s.d + far n s.o) ∧ ∀ s ∈ S, s.d + far n s.o ≤ m → told m n S ≤ s.d + far n s.o := by
  have : ∀ k, k ≤ S.length → told m n (S.take k) ≤ m + 1 ∧ (told m n (S.take k) = m + 1 ∨ ∃ s ∈ S.take k, told m n (S.take k) = s.d + far n s.o) ∧ ∀ s ∈ S.take k, s.d + far n s.o ≤ m → told m n (S.take k) ≤ s.d + far n s.o := by
    intro k
    induction k with
    | zero => intro _; exact ⟨Nat.le_refl _, Or.inl rfl, fun _ h => by simp at h⟩
    | succ k ih =>
      intro hk
      have hk' : k < S.length := by omega
      obtain ⟨h1, h2, h3⟩ := ih (by omega)
      rw [told_take (List.getElem?_eq_getElem hk'), List.take_succ_eq_append_getElem hk']
      by_cases hlt : S[k].d + far n S[k].o ≤ m ∧ S[k].d + far n S[k].o < told m n (S.take k)
      · rw [if_pos hlt]
        refine ⟨by omega, Or.inr ⟨S[k], List.mem_append_right _ (List.mem_singleton_self _), rfl⟩, fun s hs hm => ?_⟩
        rcases List.mem_append.mp hs with g | g
        · have := h3 s g hm; omega
        · rw [List.mem_singleton.mp g]; exact Nat.le_refl _
      · rw [if_neg hlt]
        refine ⟨h1, ?_, fun s hs hm => ?_⟩
        · rcases h2 with h2 | ⟨s, hs, e⟩
          · exact Or.inl h2
          · exact Or.inr ⟨s, List.mem_append_left _ hs, e⟩
        · rcases List.mem_append.mp hs with g | g
          · exact h3 s g hm
          · rw [List.mem_singleton.mp g] at hm ⊢; omega
  have h := this S.length (Nat.le_refl _)
  rwa [List.take_length] at h
theorem Tell.told {m k : Nat} {S : List Plc} (h : Tell sw m a b k S) (n : Nat) : told m n S = min (D sw a b n k) (m + 1) := by
  obtain ⟨h1, h2, h3⟩ := told_says m n S
  have lo : min (D sw a b n k) (m + 1) ≤ Nor.told m n S := by
    rcases h2 with h2 | ⟨s, hs, e⟩
    · omega
    · have := (h.sound s hs).1
      have h4 := D_far (sw := sw) (a := a) (b := b) n s.o k
      rw [far_comm] at h4
      omega
  by_cases hd : D sw a b n k ≤ m
  · obtain ⟨s, hs, hc⟩ := h.cov n hd
    rw [far_comm] at hc
    have := h3 s hs (by omega)
    omega
  · omega
end Go.Nor
