/- Places (plain): sets of places that are moved to begin at 0 are few, for at most two edits. -/
import Derived.Test.YtnfagjemhbgfkaaDoorPlcB
namespace Go.Nor
set_option linter.unusedVariables false
/-- All places lie within a diamond about c. -/
def Dia (m : Nat) (c : Int) (S : List Plc) : Prop := ∀ s ∈ S, s.d ≤ m ∧ c - s.d ≤ s.o ∧ (s.o : Int) ≤ c + s.d - (if s.t then 2 else 0)
theorem Dia.nil (m : Nat) (c : Int) : Dia m c [] := fun _ h => by cases h
theorem Dia.start (m : Nat) : Dia m 0 [⟨0, 0, false⟩] := fun s hs => by rw [List.mem_singleton.mp hs]; simp
theorem Dia.step {m : Nat} {c : Int} {sw : Bool} {bit : Nat → Nat → Bool} {S G : List Plc} (h : Dia m c S) (hG : ∀ g ∈ G, g ∈ moves m sw bit S) : Dia m (c + 1) G := by
  intro g hg
  obtain ⟨s, hs, ho⟩ := mem_moves.mp (hG g hg)
  obtain ⟨h1, h2, h3⟩ := h s hs
  have h4 : (s.o : Int) ≤ c + s.d := by split at h3 <;> omega
  rcases mem_outs.mp ho with ⟨hd, rfl | rfl | ⟨d, hd2, hbit, rfl⟩ | ⟨g1, g2, rfl⟩⟩ | ⟨g1, rfl⟩ | ⟨g1, g2, rfl⟩
  · simp only [Bool.false_eq_true, if_false]; omega
  · simp only [Bool.false_eq_true, if_false]; omega
  · simp only [Bool.false_eq_true, if_false]; omega
  · simp only [if_true]; omega
  · simp only [Bool.false_eq_true, if_false]; omega
  · simp only [Bool.false_eq_true, if_false]
    rw [if_pos g1] at h3
    omega
theorem Dia.back {m n : Nat} {c : Int} {S : List Plc} (h : Dia m c S) (hn : ∀ s ∈ S, n ≤ s.o) : Dia m (c - n) (S.map (back n)) := by
  intro g hg
  obtain ⟨s, hs, rfl⟩ := List.mem_map.mp hg
  obtain ⟨h1, h2, h3⟩ := h s hs
  have := hn s hs
  have ho : (Nor.back n s).o = s.o - n := rfl
  have hd : (Nor.back n s).d = s.d := rfl
  have ht : (Nor.back n s).t = s.t := rfl
  simp only [ho, hd, ht]
  refine ⟨h1, by omega, ?_⟩
  by_cases hst : s.t = true
  · rw [if_pos hst] at h3 ⊢; omega
  · rw [if_neg hst] at h3 ⊢; omega
/-- The order of places. -/
def lt (a b : Plc) : Bool := if a.o ≠ b.o then decide (a.o < b.o) else if a.d ≠ b.d then decide (a.d < b.d) else !a.t && b.t
theorem lt_irrefl (a : Plc) : lt a a = false := by simp [lt]
theorem lt_trans {a b c : Plc} (h : lt a b = true) (k : lt b c = true) : lt a c = true := by
  obtain ⟨ao, ad, at'⟩ := a
  obtain ⟨bo, bd, bt⟩ := b
  obtain ⟨co, cd, ct⟩ := c
  unfold lt at *
  simp only at *
  by_cases h1 : ao = bo <;> by_cases h2 : bo = co <;> by_cases h3 : ad = bd <;> by_cases h4 : bd = cd <;> by_cases h5 : ao = co <;> by_cases h6 : ad = cd <;>
    simp_all <;> omega
theorem lt_total {a b : Plc} (h : a ≠ b) : lt a b = true ∨ lt b a = true := by
  obtain ⟨ao, ad, at'⟩ := a
  obtain ⟨bo, bd, bt⟩ := b
  unfold lt
  simp only [ne_eq, Plc.mk.injEq] at *
  by_cases h1 : ao = bo
  · by_cases h3 : ad = bd
    · subst h1 h3
      cases at' <;> cases bt <;> simp_all
    · have h3' : ¬ bd = ad := fun e => h3 e.symm
      simp [h1, h3, h3']
      omega
  · have h1' : ¬ bo = ao := fun e => h1 e.symm
    simp [h1, h1']
    omega
/-- A sorted set: each place once, rising. -/
def Sorted (S : List Plc) : Prop := S.Pairwise fun a b => lt a b = true
theorem sorted_ext {S T : List Plc} (hS : Sorted S) (hT : Sorted T) (h : ∀ x, x ∈ S ↔ x ∈ T) : S = T := by
  induction S generalizing T with
  | nil =>
    cases T with
    | nil => rfl
    | cons y r => exact absurd ((h y).mpr (by simp)) (by simp)
  | cons x s ih =>
    cases T with
    | nil => exact absurd ((h x).mp (by simp)) (by simp)
    | cons y r =>
      obtain ⟨hx, hs⟩ := List.pairwise_cons.mp hS
      obtain ⟨hy, hr⟩ := List.pairwise_cons.mp hT
      have hxy : x = y := by
        by_cases e : x = y
        · exact e
        · have h1 : x ∈ r := by
            rcases List.mem_cons.mp ((h x).mp (by simp)) with h1 | h1
            · exact absurd h1 e
            · exact h1
          have h2 : y ∈ s := by
            rcases List.mem_cons.mp ((h y).mpr (by simp)) with h2 | h2
            · exact absurd h2.symm e
            · exact h2
          have := lt_trans (hx y h2) (hy x h1)
          rw [lt_irrefl] at this
          cases this
      subst hxy
      congr 1
      refine ih hs hr fun z => ?_
      have hz := h z
      simp only [List.mem_cons] at hz
      constructor
      · intro m
        rcases hz.mp (Or.inr m) with e | e
        · subst e
          have := hx z m
          rw [lt_irrefl] at this
          cases this
        · exact e
      · intro m
        rcases hz.mpr (Or.inr m) with e | e
        · subst e
          have := hy z m
          rw [lt_irrefl] at this
          cases this
        · exact e
/-- Which of the thirteen places of the diamond. -/
def slot (c : Int) (s : Plc) : Nat :=
  if s.t then (if s.d = 1 then 9 else 10 + (s.o - c + 2).toNat) else (if s.d = 0 then 0 else if s.d = 1 then 1 + (s.o - c + 1).toNat else 4 + (s.o - c + 2).toNat)
theorem slot_lt {m : Nat} (hm : m ≤ 2) {c : Int} {S : List Plc} (h : Dia m c S) {s : Plc} (hs : s ∈ S) : slot c s < 13 := by
  obtain ⟨h1, h2, h3⟩ := h s hs
  unfold slot
  split at h3
  · rename_i ht
    rw [if_pos ht]
    split <;> omega
  · rename_i ht
    rw [if_neg ht]
    split
    · omega
    · split <;> omega
theorem slot_inj {m : Nat} (hm : m ≤ 2) {c c' : Int} {S S' : List Plc} (h : Dia m c S) (h' : Dia m c' S') {s s' : Plc} (hs : s ∈ S) (hs' : s' ∈ S') (e : slot c s = slot c' s') : s.d = s'.d ∧ s.t = s'.t ∧ (s.o : Int) - c = (s'.o : Int) - c' := by
  obtain ⟨h1, h2, h3⟩ := h s hs
  obtain ⟨g1, g2, g3⟩ := h' s' hs'
  obtain ⟨o, d, t⟩ := s
  obtain ⟨o', d', t'⟩ := s'
  unfold slot at e
  simp only at *
  have hd : d = 0 ∨ d = 1 ∨ d = 2 := by omega
  have hd' : d' = 0 ∨ d' = 1 ∨ d' = 2 := by omega
  cases t <;> cases t' <;> rcases hd with rfl | rfl | rfl <;> rcases hd' with rfl | rfl | rfl <;> simp at * <;> omega
/-- The number of a set: the bits of its places. -/
def num (c : Int) (S : List Plc) : Nat := (List.range 13).foldl (fun n i => if S.any (fun s => slot c s == i) then n ||| 2 ^ i else n) 0
theorem num_bits (p : Nat → Bool) (n : Nat) : ((List.range n).foldl (fun x i => if p i then x ||| 2 ^ i else x) 0 < 2 ^ n) ∧ ∀ i, ((List.range n).foldl (fun x i => if p i then x ||| 2 ^ i else x) 0).testBit i = (decide (i < n) && p i) := by
  induction n with
  | zero => simp
  | succ n ih =>
    rw [List.range_succ, List.foldl_append]
    simp only [List.foldl_cons, List.foldl_nil]
    obtain ⟨h1, h2⟩ := ih
    have hpw : (2 : Nat) ^ n < 2 ^ (n + 1) := by rw [Nat.pow_succ]; have := Nat.two_pow_pos n; omega
    by_cases hp : p n = true
    · rw [if_pos hp]
      refine ⟨Nat.or_lt_two_pow (by omega) hpw, fun i => ?_⟩
      rw [Nat.testBit_or, h2 i, Nat.testBit_two_pow]
      by_cases e : n = i
      · subst e; simp [hp]
      · by_cases h3 : i < n
        · have : i < n + 1 := by omega
          simp [e, h3, this]
        · have : ¬ i < n + 1 := by omega
          simp [e, h3, this]
    · rw [if_neg hp]
      refine ⟨by omega, fun i => ?_⟩
      rw [h2 i]
      by_cases e : n = i
      · subst e; simp [hp]
      · by_cases h3 : i < n
        · have : i < n + 1 := by omega
          simp [h3, this]
        · have : ¬ i < n + 1 := by omega
          simp [h3, this]
theorem num_lt (c : Int) (S : List Plc) : num c S < 8192 := (num_bits (fun i => S.any (fun s => slot c s == i)) 13).1
theorem num_mem {m : Nat} (hm : m ≤ 2) {c c' : Int} {S S' : List Plc} (h : Dia m c S) (h' : Dia m c' S') (e : num c S = num c' S') {s : Plc} (hs : s ∈ S) : ∃ s' ∈ S', s.d = s'.d ∧ s.t = s'.t ∧ (s.o : Int) - c = (s'.o : Int) - c' := by
  have h1 := (num_bits (fun i => S.any (fun s => slot c s == i)) 13).2 (slot c s)
  have h2 := (num_bits (fun i => S'.any (fun s => slot c' s == i)) 13).2 (slot c s)
  have hl := slot_lt hm h hs
  unfold num at e
  rw [e, h2] at h1
  have h3 : S.any (fun s' => slot c s' == slot c s) = true := List.any_eq_true.mpr ⟨s, hs, by simp⟩
  rw [h3] at h1
  have h4 : S'.any (fun s' => slot c' s' == slot c s) = true := by
    cases hq : S'.any (fun s' => slot c' s' == slot c s) with
    | true => rfl
    | false => rw [hq] at h1; simp [hl] at h1
  obtain ⟨s', hs', hq⟩ := List.any_eq_true.mp h4
  have hq' : slot c' s' = slot c s := by simpa using hq
  exact ⟨s', hs', slot_inj hm h h' hs hs' hq'.symm⟩
/-- A sorted set that begins at 0. -/
structure Norm (m : Nat) (S : List Plc) : Prop where
  srt : Sorted S
  zero : S ≠ [] → ∃ s ∈ S, s.o = 0
  dia : ∃ c, Dia m c S
theorem norm_inj {m : Nat} (hm : m ≤ 2) {S S' : List Plc} {c c' : Int} (hS : Norm m S) (hS' : Norm m S') (h : Dia m c S) (h' : Dia m c' S') (e : num c S = num c' S') : S = S' := by
  by_cases h0 : S = []
  · subst h0
    by_cases h1 : S' = []
    · exact h1.symm
    · obtain ⟨s, hs, _⟩ := hS'.zero h1
      obtain ⟨s', hs', _⟩ := num_mem hm h' h e.symm hs
      cases hs'
  · obtain ⟨s, hs, hz⟩ := hS.zero h0
    obtain ⟨s1, hs1, _, _, e1⟩ := num_mem hm h h' e hs
    obtain ⟨s2, hs2, hz2⟩ := hS'.zero (List.ne_nil_of_mem hs1)
    obtain ⟨s3, hs3, _, _, e3⟩ := num_mem hm h' h e.symm hs2
    have hc : c = c' := by omega
    subst hc
    refine sorted_ext hS.srt hS'.srt fun x => ⟨fun hx => ?_, fun hx => ?_⟩
    · obtain ⟨y, hy, g1, g2, g3⟩ := num_mem hm h h' e hx
      have : x = y := by
        obtain ⟨xo, xd, xt⟩ := x
        obtain ⟨yo, yd, yt⟩ := y
        simp only at g1 g2 g3
        simp only [Plc.mk.injEq]
        exact ⟨by omega, g1, g2⟩
      rw [this]; exact hy
    · obtain ⟨y, hy, g1, g2, g3⟩ := num_mem hm h' h e.symm hx
      have : x = y := by
        obtain ⟨xo, xd, xt⟩ := x
        obtain ⟨yo, yd, yt⟩ := y
        simp only at g1 g2 g3
        simp only [Plc.mk.injEq]
        exact ⟨by omega, g1, g2⟩
      rw [this]; exact hy
/-- Different such sets are few. -/
theorem norm_few {m : Nat} (hm : m ≤ 2) {L : List (List Plc)} (hL : L.Nodup) (h : ∀ S ∈ L, Norm m S) : L.length ≤ 8192 := by
  classical
  have hc : ∀ S : List Plc, ∃ c : Int, S ∈ L → Dia m c S := fun S => by
    by_cases hs : S ∈ L
    · obtain ⟨c, hc⟩ := (h S hs).dia
      exact ⟨c, fun _ => hc⟩
    · exact ⟨0, fun h => absurd h hs⟩
  have hcc := Classical.axiomOfChoice hc
  obtain ⟨f, hf⟩ := hcc
  have hn : (L.map fun S => num (f S) S).Nodup := by
    rw [List.Nodup, List.pairwise_map]
    refine List.Pairwise.imp_of_mem (fun {a b} ha hb hab e => ?_) hL
    exact hab (norm_inj hm (h a ha) (h b hb) (hf a ha) (hf b hb) e)
  have := nodup_le' (n := 8192) hn (fun x hx => by
    obtain ⟨S, _, rfl⟩ := List.mem_map.mp hx
    exact num_lt _ _)
  simpa using this
end Go.Nor
namespace Go.Nor
theorem far_zero' (x : Nat) : far x x = 0 := far_self x
/-- A place each way an offset: at most ten places. -/
theorem apart_few {m : Nat} (hm : m ≤ 2) {c : Int} {S : List Plc} (hA : S.Pairwise Apart) (h : Dia m c S) : S.length ≤ 10 := by
  have hn : (S.map fun s => (s.o - c + 2).toNat * 2 + (if s.t then 1 else 0)).Nodup := by
    rw [List.Nodup, List.pairwise_map]
    refine hA.imp_of_mem fun {a b} ha hb hab e => ?_
    obtain ⟨h1, h2, h3⟩ := h a ha
    obtain ⟨g1, g2, g3⟩ := h b hb
    have k1 : imp a b = false := hab.1
    have k2 : imp b a = false := hab.2
    obtain ⟨ao, ad, at'⟩ := a
    obtain ⟨bo, bd, bt⟩ := b
    simp only at *
    have ht : at' = bt := by cases at' <;> cases bt <;> simp at e h3 g3 ⊢ <;> omega
    subst ht
    have ho : ao = bo := by cases at' <;> simp at e h3 g3 <;> omega
    subst ho
    have hor : (at' || !at') = true := by cases at' <;> rfl
    unfold imp at k1 k2
    simp only [hor, if_true, far_self, Nat.add_zero, decide_eq_false_iff_not] at k1 k2
    omega
  have := nodup_le' (n := 10) hn (fun x hx => by
    obtain ⟨s, hs, rfl⟩ := List.mem_map.mp hx
    obtain ⟨h1, h2, h3⟩ := h s hs
    split at h3
    · rename_i ht; rw [if_pos ht]; omega
    · rename_i ht; rw [if_neg ht]; omega)
  simpa using this
theorem lt_asymm {a b : Plc} (h : lt a b = true) : lt b a = false := by
  cases e : lt b a with
  | false => rfl
  | true =>
    have := lt_trans h e
    rw [lt_irrefl] at this
    cases this
theorem lt_co {a c : Plc} (b : Plc) (h : lt a c = true) : lt a b = true ∨ lt b c = true := by
  by_cases e : a = b
  · subst e; exact Or.inr h
  · rcases lt_total e with h1 | h1
    · exact Or.inl h1
    · exact Or.inr (lt_trans h1 h)
/-- Rising so far. -/
def Upto (L : List Plc) (i : Nat) : Prop := ∀ p q x y, p < q → q < i → L[p]? = some x → L[q]? = some y → lt y x = false
/-- Rising up to i, but for place j, which is not greater than those behind it. -/
def But (L : List Plc) (i j : Nat) : Prop := (∀ p q x y, p < q → q ≤ i → p ≠ j → q ≠ j → L[p]? = some x → L[q]? = some y → lt y x = false) ∧ (∀ q x y, j < q → q ≤ i → L[j]? = some x → L[q]? = some y → lt y x = false)
theorem But.start {L : List Plc} {i : Nat} (h : Upto L i) : But L i i := ⟨fun p q x y h1 h2 h3 h4 hx hy => h p q x y h1 (by omega) hx hy, fun q x y h1 h2 => by omega⟩
theorem But.fin {L : List Plc} {i j : Nat} (h : But L i j) (hj : j ≤ i) (hs : j = 0 ∨ ∃ x y, L[j - 1]? = some x ∧ L[j]? = some y ∧ lt y x = false) : Upto L (i + 1) := by
  intro p q x y hpq hq hx hy
  by_cases e1 : p = j
  · subst e1
    exact h.2 q x y hpq (by omega) hx hy
  · by_cases e2 : q = j
    · subst e2
      rcases hs with hs | ⟨x', y', hx', hy', hl⟩
      · omega
      · have : y = y' := by rw [hy] at hy'; exact Option.some.inj hy'
        subst this
        by_cases e3 : p = q - 1
        · subst e3
          have : x = x' := by rw [hx] at hx'; exact Option.some.inj hx'
          subst this
          exact hl
        · have h1 := h.1 p (q - 1) x x' (by omega) (by omega) e1 (by omega) hx hx'
          cases hc : lt y x with
          | false => rfl
          | true =>
            rcases lt_co x' hc with h2 | h2
            · rw [hl] at h2; cases h2
            · rw [h1] at h2; cases h2
    · exact h.1 p q x y hpq (by omega) e1 e2 hx hy
theorem But.swap {L : List Plc} {i j : Nat} {x y : Plc} (h : But L i j) (hj : 0 < j) (hji : j ≤ i) (hx : L[j - 1]? = some x) (hy : L[j]? = some y) (hl : lt y x = true) : But ((L.set j x).set (j - 1) y) i (j - 1) := by
  have hjl := (List.getElem?_eq_some_iff.1 hy).1
  have g1 : ((L.set j x).set (j - 1) y)[j - 1]? = some y := by
    rw [List.getElem?_set_self (by rw [List.length_set]; omega)]
  have g2 : ((L.set j x).set (j - 1) y)[j]? = some x := by
    rw [List.getElem?_set_ne (by omega), List.getElem?_set_self hjl]
  have g3 : ∀ k, k ≠ j → k ≠ j - 1 → ((L.set j x).set (j - 1) y)[k]? = L[k]? := fun k h1 h2 => by
    rw [List.getElem?_set_ne (by omega), List.getElem?_set_ne (by omega)]
  refine ⟨fun p q a b hpq hq hp hq' ha hb => ?_, fun q a b hq hqi ha hb => ?_⟩
  · by_cases e1 : p = j
    · subst e1
      rw [g2] at ha
      obtain rfl := Option.some.inj ha
      rw [g3 q (by omega) hq'] at hb
      exact h.1 (p - 1) q x b (by omega) hq (by omega) (by omega) hx hb
    · rw [g3 p e1 hp] at ha
      by_cases e2 : q = j
      · subst e2
        rw [g2] at hb
        obtain rfl := Option.some.inj hb
        exact h.1 p (q - 1) a x (by omega) (by omega) (by omega) (by omega) ha hx
      · rw [g3 q e2 hq'] at hb
        exact h.1 p q a b hpq hq e1 e2 ha hb
  · rw [g1] at ha
    obtain rfl := Option.some.inj ha
    by_cases e2 : q = j
    · subst e2
      rw [g2] at hb
      obtain rfl := Option.some.inj hb
      exact lt_asymm hl
    · rw [g3 q e2 (by omega)] at hb
      exact h.2 q y b (by omega) hqi hy hb
/-- Rising all through, and no two alike: sorted. -/
theorem sorted_of {L : List Plc} (h : Upto L L.length) (hA : L.Pairwise Apart) : Sorted L := by
  unfold Sorted
  rw [List.pairwise_iff_getElem]
  intro p q hp hq hpq
  have h1 := h p q _ _ hpq hq (List.getElem?_eq_getElem hp) (List.getElem?_eq_getElem hq)
  have h2 := List.pairwise_iff_getElem.1 hA p q hp hq hpq
  have hne : L[p] ≠ L[q] := fun e => by
    have h3 := h2.1
    rw [e, imp_refl] at h3
    cases h3
  rcases lt_total hne with h3 | h3
  · exact h3
  · rw [h1] at h3; cases h3
end Go.Nor
