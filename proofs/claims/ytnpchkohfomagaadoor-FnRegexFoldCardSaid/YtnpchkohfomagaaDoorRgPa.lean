/- Programs of instructions and the automaton of their sets, plain: no program in sight. (and what follows) -/
import Derived.WalkKit
import Derived.Test.YtnpchkohfomagaaDoorPk
import Derived.Maps.Views
import Derived.Test.YtnpchkohfomagaaDoorSeqMath
/-! Programs of instructions and the automaton of their sets, plain: no program in sight. -/
namespace Go.Rg
set_option linter.unusedVariables false
/-- An instruction: 0 a match, 1 a jump, 2 a split, 3 a range. -/
structure In where
  op : Nat
  to : Nat
  a : Nat
  b : Nat
  lo : Nat
  hi : Nat
/-- Where an instruction leads without a byte. -/
def In.succ (i : In) : List Nat := if i.op = 1 then [i.to] else if i.op = 2 then [i.a, i.b] else []
/-- What the program's own add does: each instruction once, in the order in which it is come to. -/
def add (l : List In) : Nat → List Nat → Nat → List Nat
  | 0, S, _ => S
  | f + 1, S, ip => if ip ∈ S then S else match l[ip]? with
    | none => S ++ [ip]
    | some i => if i.op = 1 then add l f (S ++ [ip]) i.to else if i.op = 2 then add l f (add l f (S ++ [ip]) i.a) i.b else S ++ [ip]
/-- The instructions that are there. -/
def Sound (l : List In) : Prop := ∀ k i, l[k]? = some i → (i.op = 1 → i.to < l.length) ∧ (i.op = 2 → i.a < l.length ∧ i.b < l.length) ∧ (i.op = 3 → k + 1 < l.length) ∧ i.op ≤ 3
/-- A set as it lies: no number twice, all there. -/
structure Good (l : List In) (S : List Nat) : Prop where
  nd : S.Nodup
  lt : ∀ x ∈ S, x < l.length
theorem nodup_length : ∀ (n : Nat) (S : List Nat), S.Nodup → (∀ x ∈ S, x < n) → S.length ≤ n := by
  intro n
  induction n with
  | zero => intro S _ h; cases S with
    | nil => simp
    | cons a t => exact absurd (h a (by simp)) (by omega)
  | succ n ih =>
    intro S hn h
    have h1 : (S.erase n).length ≤ n := ih _ (hn.erase n) fun x hx => by
      have hx' := (List.Nodup.mem_erase_iff hn).mp hx
      have := h x hx'.2
      have := hx'.1
      omega
    by_cases hm : n ∈ S
    · rw [List.length_erase_of_mem hm] at h1; omega
    · rw [List.erase_of_not_mem hm] at h1; omega
theorem Good.len {l : List In} {S : List Nat} (h : Good l S) : S.length ≤ l.length := nodup_length _ _ h.nd h.lt
theorem Good.snoc {l : List In} {S : List Nat} (h : Good l S) {ip : Nat} (h1 : ip < l.length) (h2 : ip ∉ S) : Good l (S ++ [ip]) := by
  refine ⟨?_, ?_⟩
  · rw [List.nodup_append]
    refine ⟨h.nd, by simp, fun a ha b hb => ?_⟩
    simp at hb; subst hb
    exact fun e => h2 (e ▸ ha)
  · intro x hx
    rcases List.mem_append.mp hx with p | p
    · exact h.lt x p
    · simp at p; omega
/-- What one add leaves: the set grown at its end; and each new one's ways are in it; and each new one is come to. -/
structure Added (l : List In) (S : List Nat) (ip : Nat) (R : List Nat) : Prop where
  good : Good l R
  pre : ∃ T, R = S ++ T
  has : ip ∈ R
  closed : ∀ x ∈ R, x ∉ S → ∀ i, l[x]? = some i → ∀ y ∈ i.succ, y ∈ R
  least : ∀ P : Nat → Prop, P ip → (∀ x i, P x → l[x]? = some i → ∀ y ∈ i.succ, P y) → ∀ x ∈ R, x ∉ S → P x
theorem Added.len {l : List In} {S : List Nat} {ip : Nat} {R : List Nat} (h : Added l S ip R) : S.length ≤ R.length := by
  obtain ⟨T, rfl⟩ := h.pre; simp
theorem Added.sub {l : List In} {S : List Nat} {ip : Nat} {R : List Nat} (h : Added l S ip R) {x : Nat} (hx : x ∈ S) : x ∈ R := by
  obtain ⟨T, rfl⟩ := h.pre; simp [hx]
theorem add_added (l : List In) (hs : Sound l) : ∀ (f : Nat) (S : List Nat) (ip : Nat), Good l S → ip < l.length → l.length < f + S.length → Added l S ip (add l f S ip) := by
  intro f
  induction f with
  | zero => intro S ip h _ hf; have := h.len; omega
  | succ f ih =>
    intro S ip h hip hf
    unfold add
    by_cases hm : ip ∈ S
    · rw [if_pos hm]
      exact ⟨h, ⟨[], by simp⟩, hm, fun x hx hn => absurd hx hn, fun P _ _ x hx hn => absurd hx hn⟩
    · rw [if_neg hm]
      have hg := h.snoc hip hm
      have hl : (S ++ [ip]).length = S.length + 1 := by simp
      have hi : l[ip]? = some l[ip] := List.getElem?_eq_getElem hip
      rw [hi]
      obtain ⟨s1, s2, s3, s4⟩ := hs ip _ hi
      have hnew : ∀ x, x ∈ S ++ [ip] → x ∉ S → x = ip := by
        intro x hx hn
        rcases List.mem_append.mp hx with p | p
        · exact absurd p hn
        · simpa using p
      by_cases h1 : l[ip].op = 1
      · simp only [h1, if_true]
        have A := ih (S ++ [ip]) l[ip].to hg (s1 h1) (by omega)
        have hsu : l[ip].succ = [l[ip].to] := by simp [In.succ, h1]
        refine ⟨A.good, ?_, A.sub (by simp), ?_, ?_⟩
        · obtain ⟨T, e⟩ := A.pre; exact ⟨ip :: T, by rw [e]; simp⟩
        · intro x hx hn i hxi y hy
          by_cases hxs : x ∈ S ++ [ip]
          · obtain rfl := hnew x hxs hn
            rw [hi] at hxi; cases hxi
            rw [hsu] at hy; simp at hy; subst hy; exact A.has
          · exact A.closed x hx hxs i hxi y hy
        · intro P p0 p1 x hx hn
          by_cases hxs : x ∈ S ++ [ip]
          · obtain rfl := hnew x hxs hn; exact p0
          · exact A.least P (p1 ip _ p0 hi _ (by rw [hsu]; simp)) p1 x hx hxs
      · by_cases h2 : l[ip].op = 2
        · simp only [h2, if_true, show ¬ (2 : Nat) = 1 by omega, if_false]
          have A := ih (S ++ [ip]) l[ip].a hg (s2 h2).1 (by omega)
          have B := ih _ l[ip].b A.good (s2 h2).2 (by have := A.len; omega)
          have hsu : l[ip].succ = [l[ip].a, l[ip].b] := by simp [In.succ, h2]
          refine ⟨B.good, ?_, B.sub (A.sub (by simp)), ?_, ?_⟩
          · obtain ⟨T, e⟩ := A.pre; obtain ⟨T', e'⟩ := B.pre
            exact ⟨ip :: (T ++ T'), by rw [e', e]; simp⟩
          · intro x hx hn i hxi y hy
            by_cases hxs : x ∈ S ++ [ip]
            · obtain rfl := hnew x hxs hn
              rw [hi] at hxi; cases hxi
              rw [hsu] at hy; simp at hy
              rcases hy with rfl | rfl
              · exact B.sub A.has
              · exact B.has
            · by_cases hxa : x ∈ add l f (S ++ [ip]) l[ip].a
              · exact B.sub (A.closed x hxa hxs i hxi y hy)
              · exact B.closed x hx hxa i hxi y hy
          · intro P p0 p1 x hx hn
            by_cases hxs : x ∈ S ++ [ip]
            · obtain rfl := hnew x hxs hn; exact p0
            · by_cases hxa : x ∈ add l f (S ++ [ip]) l[ip].a
              · exact A.least P (p1 ip _ p0 hi _ (by rw [hsu]; simp)) p1 x hxa hxs
              · exact B.least P (p1 ip _ p0 hi _ (by rw [hsu]; simp)) p1 x hx hxa
        · simp only [h1, h2, if_false]
          have hsu : l[ip].succ = [] := by simp [In.succ, h1, h2]
          refine ⟨hg, ⟨[ip], rfl⟩, by simp, ?_, ?_⟩
          · intro x hx hn i hxi y hy
            obtain rfl := hnew x hx hn
            rw [hi] at hxi; cases hxi
            rw [hsu] at hy; simp at hy
          · intro P p0 p1 x hx hn
            obtain rfl := hnew x hx hn; exact p0
/-- Several adds, one behind the other. -/
def addAll (l : List In) (S : List Nat) (r : List Nat) : List Nat := r.foldl (fun S ip => add l (l.length + 1) S ip) S
theorem addAll_nil (l : List In) (S : List Nat) : addAll l S [] = S := rfl
theorem addAll_snoc (l : List In) (S r : List Nat) (x : Nat) : addAll l S (r ++ [x]) = add l (l.length + 1) (addAll l S r) x := by simp [addAll]
/-- The set is closed, and least over its roots. -/
structure Closure (l : List In) (r R : List Nat) : Prop where
  good : Good l R
  has : ∀ x ∈ r, x ∈ R
  closed : ∀ x ∈ R, ∀ i, l[x]? = some i → ∀ y ∈ i.succ, y ∈ R
  least : ∀ P : Nat → Prop, (∀ x ∈ r, P x) → (∀ x i, P x → l[x]? = some i → ∀ y ∈ i.succ, P y) → ∀ x ∈ R, P x
theorem closure_snoc {l : List In} {r R : List Nat} {x : Nat} {R' : List Nat} (h : Closure l r R) (a : Added l R x R') : Closure l (r ++ [x]) R' := by
  refine ⟨a.good, ?_, ?_, ?_⟩
  · intro y hy
    rcases List.mem_append.mp hy with p | p
    · exact a.sub (h.has y p)
    · simp at p; subst p; exact a.has
  · intro y hy i hi z hz
    by_cases hm : y ∈ R
    · exact a.sub (h.closed y hm i hi z hz)
    · exact a.closed y hy hm i hi z hz
  · intro P p0 p1 y hy
    by_cases hm : y ∈ R
    · exact h.least P (fun z hz => p0 z (by simp [hz])) p1 y hm
    · exact a.least P (p0 x (by simp)) p1 y hy hm
theorem closure_nil (l : List In) : Closure l [] [] := ⟨⟨by simp, by simp⟩, by simp, by simp, by simp⟩
theorem addAll_closure (l : List In) (hs : Sound l) (r : List Nat) (hr : ∀ x ∈ r, x < l.length) : Closure l r (addAll l [] r) := by
  suffices h : ∀ k, k ≤ r.length → Closure l (r.take k) (addAll l [] (r.take k)) by
    have := h r.length (Nat.le_refl _); rwa [List.take_length] at this
  intro k
  induction k with
  | zero => intro _; exact closure_nil l
  | succ k ih =>
    intro hk
    have hk' : k < r.length := by omega
    have e : r.take (k + 1) = r.take k ++ [r[k]] := by rw [List.take_add_one, List.getElem?_eq_getElem hk']; rfl
    rw [e, addAll_snoc]
    have c := ih (by omega)
    exact closure_snoc c (add_added l hs _ _ _ c.good (hr _ (List.getElem_mem hk')) (by omega))
/-- Closures over the same roots have the same members. -/
theorem Closure.same {l : List In} {r r' R R' : List Nat} (h : Closure l r R) (h' : Closure l r' R') (e : ∀ x, x ∈ r ↔ x ∈ r') (x : Nat) : x ∈ R ↔ x ∈ R' :=
  ⟨h.least (fun y => y ∈ R') (fun y hy => h'.has y ((e y).mp hy)) (fun y i hy hi z hz => h'.closed y hy i hi z hz) x,
   h'.least (fun y => y ∈ R) (fun y hy => h.has y ((e y).mpr hy)) (fun y i hy hi z hz => h.closed y hy i hi z hz) x⟩
/-- The instructions that take a byte or match. -/
def takes (l : List In) (x : Nat) : Bool := match l[x]? with
  | some i => i.op == 0 || i.op == 3
  | none => false
def matchAt (l : List In) (x : Nat) : Bool := match l[x]? with
  | some i => i.op == 0
  | none => false
def into (l : List In) (c x : Nat) : Bool := match l[x]? with
  | some i => i.op == 3 && decide (i.lo ≤ c) && decide (c ≤ i.hi)
  | none => false
/-- A state of the automaton: those of a set that take a byte or match, in their order. -/
def key (l : List In) (S : List Nat) : List Nat := S.filter (takes l)
def startK (l : List In) : List Nat := key l (addAll l [] [0])
def rootsOf (l : List In) (K : List Nat) (c : Nat) : List Nat := (K.filter (into l c)).map (· + 1)
def stepK (l : List In) (K : List Nat) (c : Nat) : List Nat := key l (addAll l [] (rootsOf l K c))
def isM (l : List In) (K : List Nat) : Bool := K.any (matchAt l)
end Go.Rg
/-! How many lists without a number twice there are over a few numbers: plain. -/
namespace Go.Rg
set_option linter.unusedVariables false
theorem length_le_of_sub {α : Type} [BEq α] [LawfulBEq α] : ∀ (L E : List α), L.Nodup → (∀ x ∈ L, x ∈ E) → L.length ≤ E.length := by
  intro L
  induction L with
  | nil => intro E _ _; simp
  | cons a t ih =>
    intro E hn h
    have hn' := List.nodup_cons.mp hn
    have ha : a ∈ E := h a (by simp)
    have h1 := ih (E.erase a) hn'.2 fun x hx => by
      have hne : x ≠ a := fun e => hn'.1 (e ▸ hx)
      exact (List.mem_erase_of_ne hne).mpr (h x (by simp [hx]))
    rw [List.length_erase_of_mem ha] at h1
    have : 0 < E.length := List.length_pos_of_mem ha
    simp; omega
/-- The lists of at most n numbers of A, none twice. -/
def arr : Nat → List Nat → List (List Nat)
  | 0, _ => [[]]
  | n + 1, A => [] :: A.flatMap fun x => (arr n (A.erase x)).map (x :: ·)
def cnt : Nat → Nat → Nat
  | 0, _ => 1
  | n + 1, m => 1 + m * cnt n (m - 1)
theorem mem_arr : ∀ (n : Nat) (A K : List Nat), K.Nodup → (∀ x ∈ K, x ∈ A) → K.length ≤ n → K ∈ arr n A := by
  intro n
  induction n with
  | zero => intro A K _ _ h; cases K with
    | nil => simp [arr]
    | cons a t => simp at h
  | succ n ih =>
    intro A K hn h hl
    cases K with
    | nil => simp [arr]
    | cons a t =>
      have hn' := List.nodup_cons.mp hn
      simp only [arr, List.mem_cons, List.mem_flatMap, List.mem_map]
      right
      refine ⟨a, h a (by simp), t, ih _ _ hn'.2 (fun x hx => ?_) (by simp at hl; omega), rfl⟩
      have hne : x ≠ a := fun e => hn'.1 (e ▸ hx)
      exact (List.mem_erase_of_ne hne).mpr (h x (by simp [hx]))
theorem flat_len {α : Type} (g : Nat → List α) (c : Nat) : ∀ A : List Nat, (∀ x ∈ A, (g x).length = c) → (A.flatMap g).length = A.length * c := by
  intro A
  induction A with
  | nil => simp
  | cons a t ih =>
    intro h
    rw [List.flatMap_cons, List.length_append, h a (by simp), ih fun x hx => h x (by simp [hx]), List.length_cons, Nat.succ_mul, Nat.add_comm]
theorem len_arr : ∀ (n : Nat) (A : List Nat), (arr n A).length = cnt n A.length := by
  intro n
  induction n with
  | zero => intro A; rfl
  | succ n ih =>
    intro A
    simp only [arr, cnt, List.length_cons]
    rw [flat_len _ (cnt n (A.length - 1)) A fun x hx => by rw [List.length_map, ih, List.length_erase_of_mem hx], Nat.add_comm]
theorem cnt_le (m : Nat) (h : m ≤ 6) : cnt 6 m ≤ 1957 := by
  rcases m with _ | _ | _ | _ | _ | _ | _ | m
  all_goals first | decide | omega
/-- Lists over six numbers, none twice in any, no list twice: at most 1957. -/
theorem few (A : List Nat) (hA : A.length ≤ 6) (L : List (List Nat)) (hL : L.Nodup) (h : ∀ K ∈ L, K.Nodup ∧ ∀ x ∈ K, x ∈ A) : L.length ≤ 1957 := by
  have h1 := length_le_of_sub L (arr 6 A) hL fun K hK => by
    have := length_le_of_sub K A (h K hK).1 (h K hK).2
    exact mem_arr 6 A K (h K hK).1 (h K hK).2 (by omega)
  rw [len_arr] at h1
  exact Nat.le_trans h1 (cnt_le _ hA)
end Go.Rg
/-! The spec's sets of instructions, as truth values, against the automaton's: plain. -/
namespace Go.Rg
set_option linter.unusedVariables false
/-- A row of truth values says what is in a set. -/
def SetIs (l : List In) (bs : List Bool) (R : List Nat) : Prop := bs.length = l.length ∧ ∀ k : Nat, bs[k]? = some true ↔ k ∈ R
/-- A row is closed, holds the roots, and is least. -/
structure ClosB (l : List In) (r : List Nat) (bs : List Bool) : Prop where
  len : bs.length = l.length
  has : ∀ x ∈ r, bs[x]? = some true
  closed : ∀ x : Nat, bs[x]? = some true → ∀ i, l[x]? = some i → ∀ y ∈ i.succ, bs[y]? = some true
  least : ∀ P : Nat → Prop, (∀ x ∈ r, P x) → (∀ x i, P x → l[x]? = some i → ∀ y ∈ i.succ, P y) → ∀ x : Nat, bs[x]? = some true → P x
theorem ClosB.setIs {l : List In} {r : List Nat} {bs : List Bool} (h : ClosB l r bs) {R : List Nat} (c : Closure l r R) : SetIs l bs R :=
  ⟨h.len, fun k => ⟨h.least (· ∈ R) c.has (fun x i hx => c.closed x hx i) k, c.least (fun k => bs[k]? = some true) h.has (fun x i hx => h.closed x hx i) k⟩⟩
theorem takes_of_match {l : List In} {x : Nat} (h : matchAt l x = true) : takes l x = true := by
  unfold matchAt at h; unfold takes
  cases e : l[x]? with
  | none => rw [e] at h; exact h
  | some i => rw [e] at h; simp at h ⊢; exact Or.inl h
theorem takes_of_into {l : List In} {x c : Nat} (h : into l c x = true) : takes l x = true := by
  unfold into at h; unfold takes
  cases e : l[x]? with
  | none => rw [e] at h; exact h
  | some i => rw [e] at h; simp at h ⊢; exact Or.inr h.1.1
theorem mem_key {l : List In} {R : List Nat} {x : Nat} : x ∈ key l R ↔ x ∈ R ∧ takes l x = true := by simp [key]
/-- Whether a row holds one of a kind. -/
def anyB (l : List In) (p : Nat → Bool) (bs : List Bool) : Bool := (List.range l.length).any fun k => bs[k]?.getD false && p k
theorem anyB_iff {l : List In} {p : Nat → Bool} {bs : List Bool} {R : List Nat} (h : SetIs l bs R) : anyB l p bs = true ↔ ∃ k ∈ R, p k = true := by
  simp only [anyB, List.any_eq_true, List.mem_range, Bool.and_eq_true]
  constructor
  · rintro ⟨k, hk, h1, h2⟩
    refine ⟨k, (h.2 k).mp ?_, h2⟩
    cases e : bs[k]? with
    | none => rw [e] at h1; simp at h1
    | some b => rw [e] at h1; simp at h1; rw [h1]
  · rintro ⟨k, hk, h2⟩
    have e := (h.2 k).mpr hk
    obtain ⟨hlt, _⟩ := List.getElem?_eq_some_iff.mp e
    exact ⟨k, by rw [← h.1]; exact hlt, by rw [e]; rfl, h2⟩
theorem any_match {l : List In} {bs : List Bool} {R : List Nat} (h : SetIs l bs R) : anyB l (matchAt l) bs = isM l (key l R) := by
  rw [Bool.eq_iff_iff, anyB_iff h]
  simp only [isM, List.any_eq_true]
  constructor
  · rintro ⟨k, hk, h2⟩; exact ⟨k, mem_key.mpr ⟨hk, takes_of_match h2⟩, h2⟩
  · rintro ⟨k, hk, h2⟩; exact ⟨k, (mem_key.mp hk).1, h2⟩
theorem any_can {l : List In} {bs : List Bool} {R : List Nat} (h : SetIs l bs R) : anyB l (takes l) bs = !(key l R).isEmpty := by
  rw [Bool.eq_iff_iff, anyB_iff h]
  constructor
  · rintro ⟨k, hk, h2⟩
    have := mem_key.mpr ⟨hk, h2⟩
    cases e : key l R with
    | nil => rw [e] at this; cases this
    | cons a t => rfl
  · intro hh
    cases e : key l R with
    | nil => rw [e] at hh; cases hh
    | cons a t =>
      have := mem_key.mp (show a ∈ key l R by rw [e]; simp)
      exact ⟨a, this.1, this.2⟩
theorem mem_roots {l : List In} {R : List Nat} {c j : Nat} : j ∈ rootsOf l (key l R) c ↔ ∃ k, j = k + 1 ∧ k ∈ R ∧ into l c k = true := by
  simp only [rootsOf, List.mem_map, List.mem_filter]
  constructor
  · rintro ⟨k, ⟨h1, h2⟩, rfl⟩; exact ⟨k, rfl, (mem_key.mp h1).1, h2⟩
  · rintro ⟨k, rfl, h1, h2⟩; exact ⟨k, ⟨mem_key.mpr ⟨h1, takes_of_into h2⟩, h2⟩, rfl⟩
/-- The states come to behind the beginnings of a text. -/
def kAt (l : List In) (s : List Nat) : Nat → List Nat
  | 0 => startK l
  | i + 1 => stepK l (kAt l s i) (s[i]?.getD 0)
theorem roots_lt {l : List In} (hs : Sound l) {K : List Nat} {c : Nat} : ∀ x ∈ rootsOf l K c, x < l.length := by
  intro x hx
  simp only [rootsOf, List.mem_map, List.mem_filter] at hx
  obtain ⟨k, ⟨_, h⟩, rfl⟩ := hx
  unfold into at h
  cases e : l[k]? with
  | none => rw [e] at h; cases h
  | some i => rw [e] at h; simp at h; exact (hs k i e).2.2.1 h.1.1
theorem key_nodup {l : List In} {S : List Nat} (h : Good l S) : (key l S).Nodup := List.Nodup.sublist List.filter_sublist h.nd
/-- A state: its instructions, none twice, all of them taking ones. -/
structure IsK (l : List In) (K : List Nat) : Prop where
  nd : K.Nodup
  tk : ∀ x ∈ K, takes l x = true
theorem isK_key {l : List In} {S : List Nat} (h : Good l S) : IsK l (key l S) := ⟨key_nodup h, fun x hx => (mem_key.mp hx).2⟩
theorem isK_start {l : List In} (hs : Sound l) (h0 : 0 < l.length) : IsK l (startK l) := isK_key (addAll_closure l hs [0] (by simpa using h0)).good
theorem isK_step {l : List In} (hs : Sound l) (K : List Nat) (c : Nat) : IsK l (stepK l K c) := isK_key (addAll_closure l hs _ (roots_lt hs)).good
theorem step_nil (l : List In) (c : Nat) : stepK l [] c = [] := rfl
/-- How many instructions take a byte or match. -/
def taking (l : List In) : List Nat := (List.range l.length).filter (takes l)
theorem IsK.sub {l : List In} {K : List Nat} (h : IsK l K) : ∀ x ∈ K, x ∈ taking l := by
  intro x hx
  have ht := h.tk x hx
  simp only [taking, List.mem_filter, List.mem_range]
  refine ⟨?_, ht⟩
  unfold takes at ht
  cases e : l[x]? with
  | none => rw [e] at ht; cases ht
  | some i => exact (List.getElem?_eq_some_iff.mp e).1
theorem few_states {l : List In} (h6 : (taking l).length ≤ 6) {Ks : List (List Nat)} (hn : Ks.Nodup) (h : ∀ K ∈ Ks, IsK l K) : Ks.length ≤ 1957 :=
  few (taking l) h6 Ks hn fun K hK => ⟨(h K hK).nd, (h K hK).sub⟩
end Go.Rg
/-! The loop that builds the automaton of a program: plain. -/
namespace Go.Rg
set_option linter.unusedVariables false
/-- The states that can be come to. -/
inductive Rk (l : List In) : List Nat → Prop
  | start : Rk l (startK l)
  | step {K : List Nat} {c : Nat} : Rk l K → c < 256 → Rk l (stepK l K c)
/-- There are many states. -/
def Many (l : List In) : Prop := ∃ Ks : List (List Nat), Ks.Nodup ∧ 10000 ≤ Ks.length ∧ ∀ K ∈ Ks, Rk l K ∧ IsK l K
/-- The number of a state: 0 where there is none. -/
def Num (Ks : List (List Nat)) (K : List Nat) (n : Nat) : Prop := (K = [] ∧ n = 0) ∨ (K ≠ [] ∧ ∃ i, Ks[i]? = some K ∧ n = i + 1)
theorem Num.mono {Ks : List (List Nat)} {K : List Nat} {n : Nat} (h : Num Ks K n) (T : List (List Nat)) : Num (Ks ++ T) K n := by
  rcases h with h | ⟨h, i, e, rfl⟩
  · exact Or.inl h
  · refine Or.inr ⟨h, i, ?_, rfl⟩
    obtain ⟨hlt, _⟩ := List.getElem?_eq_some_iff.mp e
    rw [List.getElem?_append_left hlt]; exact e
theorem Num.le {Ks : List (List Nat)} {K : List Nat} {n : Nat} (h : Num Ks K n) : n ≤ Ks.length := by
  rcases h with ⟨_, rfl⟩ | ⟨_, i, e, rfl⟩
  · omega
  · obtain ⟨hlt, _⟩ := List.getElem?_eq_some_iff.mp e; omega
/-- A state's row is right at its first bytes. -/
def RowTo (l : List In) (Ks nx : List (List Nat)) (i : Nat) (K : List Nat) (b : Nat) : Prop := ∀ c, c < b → ∃ r n, nx[i]? = some r ∧ r[c]? = some n ∧ Num Ks (stepK l K c) n
/-- The loop's invariant, with s under way up to the byte b. -/
structure Inv (l : List In) (Ks nx : List (List Nat)) (seen stack : List Nat) (s b : Nat) : Prop where
  nd : Ks.Nodup
  isK : ∀ K ∈ Ks, IsK l K ∧ K ≠ []
  rk : ∀ K ∈ Ks, Rk l K
  first : Ks[0]? = some (startK l)
  nxl : nx.length = Ks.length
  row : ∀ r ∈ nx, r.length = 256
  sn : seen.Nodup
  sb : ∀ x ∈ seen, 1 ≤ x ∧ x ≤ Ks.length
  stk : ∀ x ∈ stack, 1 ≤ x ∧ x ≤ Ks.length
  cur : s ≤ Ks.length
  done : ∀ i K, Ks[i]? = some K → i + 1 ∈ stack ∨ (i + 1 = s ∧ RowTo l Ks nx i K b) ∨ RowTo l Ks nx i K 256
theorem RowTo.mono {l : List In} {Ks nx : List (List Nat)} {i : Nat} {K : List Nat} {b : Nat} {T' : List (List Nat)} (h : RowTo l Ks nx i K b) (T : List (List Nat)) : RowTo l (Ks ++ T) (nx ++ T') i K b := by
  intro c hc
  obtain ⟨r, n, e1, e2, e3⟩ := h c hc
  obtain ⟨hlt, _⟩ := List.getElem?_eq_some_iff.mp e1
  exact ⟨r, n, by rw [List.getElem?_append_left hlt]; exact e1, e2, e3.mono T⟩
/-- One place of one row is written, rightly. -/
theorem RowTo.write {l : List In} {Ks nx : List (List Nat)} {i j : Nat} {K Kj : List Nat} {b d n : Nat} {r : List Nat} (h : RowTo l Ks nx i K b) (hK : Ks[i]? = some K) (hj : Ks[j]? = some Kj) (hr : nx[j]? = some r) (hd : d < r.length) (hn : Num Ks (stepK l Kj d) n) : RowTo l Ks (nx.set j (r.set d n)) i K b := by
  intro c hc
  obtain ⟨r', n', e1, e2, e3⟩ := h c hc
  obtain ⟨hlt, _⟩ := List.getElem?_eq_some_iff.mp e1
  by_cases hij : j = i
  · subst hij
    rw [hr] at e1; cases e1
    rw [hK] at hj; cases hj
    refine ⟨r.set d n, ?_⟩
    rw [List.getElem?_set_self hlt]
    by_cases hcd : d = c
    · subst hcd; exact ⟨n, rfl, by rw [List.getElem?_set_self hd], hn⟩
    · exact ⟨n', rfl, by rw [List.getElem?_set_ne hcd]; exact e2, e3⟩
  · exact ⟨r', n', by rw [List.getElem?_set_ne hij]; exact e1, e2, e3⟩
/-- A new state is laid at the end (its row is anything), and shall be pushed: it stands as 'seen or to be seen' by the number x. -/
theorem Inv.byte {l : List In} {Ks nx : List (List Nat)} {seen stack : List Nat} {s b : Nat} (h : Inv l Ks nx seen stack s b) (hb : b < 256) {K : List Nat} (hs : 1 ≤ s) (hK : Ks[s - 1]? = some K) {T T' : List (List Nat)}
    (hT : (T = [] ∧ T' = []) ∨ (∃ r0 : List Nat, T = [stepK l K b] ∧ T' = [r0] ∧ r0.length = 256 ∧ stepK l K b ≠ [] ∧ stepK l K b ∉ Ks ∧ IsK l (stepK l K b)))
    {n : Nat} (hn : Num (Ks ++ T) (stepK l K b) n) (hTn : T ≠ [] → n = Ks.length + 1) {r : List Nat} (hr : (nx ++ T')[s - 1]? = some r)
    {seen' stack' : List Nat} (hseen : (n = 0 ∨ n ∈ seen) ∧ seen' = seen ∧ stack' = stack ∨ n ≠ 0 ∧ n ∉ seen ∧ seen' = seen ++ [n] ∧ stack' = stack ++ [n]) :
    Inv l (Ks ++ T) ((nx ++ T').set (s - 1) (r.set b n)) seen' stack' s (b + 1) := by
  have hTl : T.length = T'.length ∧ (T ≠ [] → T.length = 1) := by
    rcases hT with ⟨rfl, rfl⟩ | ⟨r0, rfl, rfl, _⟩ <;> simp
  have hrow : ∀ q ∈ nx ++ T', q.length = 256 := by
    intro q hq
    rcases List.mem_append.mp hq with p | p
    · exact h.row q p
    · rcases hT with ⟨_, rfl⟩ | ⟨r0, _, rfl, e, _⟩
      · cases p
      · simp at p; subst p; exact e
  have hrl : r.length = 256 := hrow r (List.mem_of_getElem? hr)
  have hslt : s - 1 < Ks.length := (List.getElem?_eq_some_iff.mp hK).1
  have hKT : (Ks ++ T)[s - 1]? = some K := by rw [List.getElem?_append_left hslt]; exact hK
  have hsb : ∀ x ∈ seen', 1 ≤ x ∧ x ≤ (Ks ++ T).length := by
    intro x hx
    have old : x ∈ seen → 1 ≤ x ∧ x ≤ (Ks ++ T).length := fun p => by have := h.sb x p; simp; omega
    rcases hseen with ⟨_, rfl, _⟩ | ⟨n0, _, rfl, _⟩
    · exact old hx
    · rcases List.mem_append.mp hx with p | p
      · exact old p
      · simp at p; subst p; have := hn.le; omega
  have hst : ∀ x ∈ stack', 1 ≤ x ∧ x ≤ (Ks ++ T).length := by
    intro x hx
    have old : x ∈ stack → 1 ≤ x ∧ x ≤ (Ks ++ T).length := fun p => by have := h.stk x p; simp; omega
    rcases hseen with ⟨_, _, rfl⟩ | ⟨n0, _, _, rfl⟩
    · exact old hx
    · rcases List.mem_append.mp hx with p | p
      · exact old p
      · simp at p; subst p; have := hn.le; omega
  have hin : ∀ x ∈ stack, x ∈ stack' := by
    intro x hx
    rcases hseen with ⟨_, _, rfl⟩ | ⟨_, _, _, rfl⟩
    · exact hx
    · simp [hx]
  refine ⟨?_, ?_, ?_, ?_, ?_, ?_, ?_, hsb, hst, ?_, ?_⟩
  · rcases hT with ⟨rfl, _⟩ | ⟨r0, rfl, _, _, _, hni, _⟩
    · simpa using h.nd
    · rw [List.nodup_append]
      refine ⟨h.nd, by simp, fun a ha c hc => ?_⟩
      simp at hc; subst hc; exact fun e => hni (e ▸ ha)
  · intro q hq
    rcases List.mem_append.mp hq with p | p
    · exact h.isK q p
    · rcases hT with ⟨rfl, _⟩ | ⟨r0, rfl, _, _, hne, _, hk⟩
      · cases p
      · simp at p; subst p; exact ⟨hk, hne⟩
  · intro q hq
    rcases List.mem_append.mp hq with p | p
    · exact h.rk q p
    · rcases hT with ⟨rfl, _⟩ | ⟨r0, rfl, _, _, hne, _, hk⟩
      · cases p
      · simp at p; subst p; exact .step (h.rk _ (List.mem_of_getElem? hK)) hb
  · rw [List.getElem?_append_left (by omega)]; exact h.first
  · simp [h.nxl, hTl.1]
  · intro q hq
    rcases List.mem_or_eq_of_mem_set hq with p | p
    · exact hrow q p
    · subst p; simp [hrl]
  · rcases hseen with ⟨_, rfl, _⟩ | ⟨_, hns, rfl, _⟩
    · exact h.sn
    · rw [List.nodup_append]
      refine ⟨h.sn, by simp, fun a ha c hc => ?_⟩
      simp at hc; subst hc; exact fun e => hns (e ▸ ha)
  · have := h.cur; simp; omega
  · intro i Ki hi
    by_cases hik : i < Ks.length
    · have hi' : Ks[i]? = some Ki := by rwa [List.getElem?_append_left hik] at hi
      rcases h.done i Ki hi' with p | ⟨p, q⟩ | p
      · exact Or.inl (hin _ p)
      · right; left
        refine ⟨p, ?_⟩
        obtain rfl : i = s - 1 := by omega
        rw [hK] at hi'; cases hi'
        have q1 := (q.mono (T' := T') T).write hKT hKT hr (by omega) hn
        intro c hc
        by_cases hcb : c = b
        · subst hcb
          have hx : s - 1 < (nx ++ T').length := (List.getElem?_eq_some_iff.mp hr).1
          exact ⟨_, n, by rw [List.getElem?_set_self hx], by rw [List.getElem?_set_self (by omega)], hn⟩
        · exact q1 c (by omega)
      · right; right
        exact (p.mono (T' := T') T).write hi hKT hr (by omega) hn
    · left
      have hlt : i < (Ks ++ T).length := (List.getElem?_eq_some_iff.mp hi).1
      have hne : T ≠ [] := by rintro rfl; simp at hlt; omega
      have h1 := hTl.2 hne
      have hn1 := hTn hne
      have hi1 : i + 1 = n := by simp at hlt; omega
      rcases hseen with ⟨p, _, _⟩ | ⟨_, _, _, rfl⟩
      · exfalso
        rcases p with p | p
        · omega
        · have := h.sb n p; omega
      · simp [hi1]
/-- The next state is popped. -/
theorem Inv.pop {l : List In} {Ks nx : List (List Nat)} {seen stack : List Nat} {s x : Nat} (h : Inv l Ks nx seen (stack ++ [x]) s 256) : Inv l Ks nx seen stack x 0 := by
  refine ⟨h.nd, h.isK, h.rk, h.first, h.nxl, h.row, h.sn, h.sb, fun y hy => h.stk y (by simp [hy]), (h.stk x (by simp)).2, fun i K hi => ?_⟩
  rcases h.done i K hi with p | ⟨_, q⟩ | p
  · rcases List.mem_append.mp p with p | p
    · exact Or.inl p
    · simp at p; exact Or.inr (Or.inl ⟨p, fun c hc => absurd hc (by omega)⟩)
  · exact Or.inr (Or.inr q)
  · exact Or.inr (Or.inr p)
/-- At the end every row is right. -/
theorem Inv.fin {l : List In} {Ks nx : List (List Nat)} {seen : List Nat} {s : Nat} (h : Inv l Ks nx seen [] s 256) : ∀ i K, Ks[i]? = some K → RowTo l Ks nx i K 256 := by
  intro i K hi
  rcases h.done i K hi with p | ⟨_, q⟩ | p
  · cases p
  · exact q
  · exact p
theorem Inv.seen_le {l : List In} {Ks nx : List (List Nat)} {seen stack : List Nat} {s b : Nat} (h : Inv l Ks nx seen stack s b) : seen.length ≤ Ks.length := by
  have := nodup_length (Ks.length + 1) (0 :: seen) (List.nodup_cons.mpr ⟨fun p => by have := h.sb 0 p; omega, h.sn⟩) fun x hx => by
    rcases List.mem_cons.mp hx with rfl | p
    · omega
    · have := h.sb x p; omega
  simp at this; omega
end Go.Rg
/-! The automaton's table along a text: plain. -/
namespace Go.Rg
set_option linter.unusedVariables false
/-- The table's next state. -/
def accT (Ks nx : List (List Nat)) (n c : Nat) : Nat := if n < Ks.length + 1 then (if n = 0 then 0 else (nx[n - 1]?.getD [])[c]?.getD 0) else 0
def matT (l : List In) (Ks : List (List Nat)) (n : Nat) : Bool := if n < Ks.length + 1 then (if n = 0 then false else isM l (Ks[n - 1]?.getD [])) else false
def canT (Ks : List (List Nat)) (n : Nat) : Bool := decide (n < Ks.length + 1) && decide (0 < n)
def runT (Ks nx : List (List Nat)) (s : List Nat) : Nat → Nat
  | 0 => 1
  | i + 1 => accT Ks nx (runT Ks nx s i) (s[i]?.getD 0)
/-- What is made: no state at all, where the first one is empty, or a table that is right. -/
def Made (l : List In) (Ks nx : List (List Nat)) : Prop := (Ks = [] ∧ startK l = []) ∨ (Ks[0]? = some (startK l) ∧ startK l ≠ [] ∧ ∀ i K, Ks[i]? = some K → RowTo l Ks nx i K 256)
theorem num_mat {l : List In} {Ks : List (List Nat)} {K : List Nat} {n : Nat} (h : Num Ks K n) : matT l Ks n = isM l K := by
  rcases h with ⟨rfl, rfl⟩ | ⟨_, i, e, rfl⟩
  · simp [matT, isM]
  · obtain ⟨hlt, he⟩ := List.getElem?_eq_some_iff.mp e
    simp [matT, hlt, he]
theorem num_can {Ks : List (List Nat)} {K : List Nat} {n : Nat} (h : Num Ks K n) : canT Ks n = !K.isEmpty := by
  rcases h with ⟨rfl, rfl⟩ | ⟨hk, i, e, rfl⟩
  · simp [canT]
  · obtain ⟨hlt, _⟩ := List.getElem?_eq_some_iff.mp e
    cases K with
    | nil => exact absurd rfl hk
    | cons a t => simp [canT, hlt]
theorem num_acc {l : List In} {Ks nx : List (List Nat)} (hd : ∀ i K, Ks[i]? = some K → RowTo l Ks nx i K 256) {K : List Nat} {n c : Nat} (hc : c < 256) (h : Num Ks K n) : Num Ks (stepK l K c) (accT Ks nx n c) := by
  rcases h with ⟨rfl, rfl⟩ | ⟨hk, i, e, rfl⟩
  · exact Or.inl ⟨step_nil l c, by simp [accT]⟩
  · obtain ⟨hlt, _⟩ := List.getElem?_eq_some_iff.mp e
    obtain ⟨r, m, e1, e2, e3⟩ := hd i K e c hc
    have : accT Ks nx (i + 1) c = m := by simp [accT, hlt, e1, e2]
    rw [this]; exact e3
theorem byte_lt {s : List Nat} (h : ∀ c ∈ s, c < 256) (i : Nat) : s[i]?.getD 0 < 256 := by
  cases e : s[i]? with
  | none => simp
  | some c => simp; exact h c (List.mem_of_getElem? e)
theorem run_num {l : List In} {Ks nx : List (List Nat)} (h0 : Ks[0]? = some (startK l)) (hn : startK l ≠ []) (hd : ∀ i K, Ks[i]? = some K → RowTo l Ks nx i K 256) {s : List Nat} (hs : ∀ c ∈ s, c < 256) : ∀ i, Num Ks (kAt l s i) (runT Ks nx s i) := by
  intro i
  induction i with
  | zero => exact Or.inr ⟨hn, 0, h0, rfl⟩
  | succ i ih => exact num_acc hd (byte_lt hs i) ih
theorem kAt_nil {l : List In} (h : startK l = []) (s : List Nat) : ∀ i, kAt l s i = [] := by
  intro i
  induction i with
  | zero => exact h
  | succ i ih => simp only [kAt, ih]; rfl
theorem run_le {s : List Nat} {nx : List (List Nat)} : ∀ i, runT [] nx s i ≤ 1 := by
  intro i
  cases i with
  | zero => exact Nat.le_refl 1
  | succ i => simp only [runT, accT, List.length_nil]; split
              · split <;> first | omega | simp_all
              · omega
/-- Behind each beginning of a text the table says what the sets say. -/
theorem made_run {l : List In} {Ks nx : List (List Nat)} (h : Made l Ks nx) {s : List Nat} (hs : ∀ c ∈ s, c < 256) (i : Nat) : matT l Ks (runT Ks nx s i) = isM l (kAt l s i) ∧ canT Ks (runT Ks nx s i) = !(kAt l s i).isEmpty := by
  rcases h with ⟨rfl, h0⟩ | ⟨h0, hn, hd⟩
  · have hr := run_le (s := s) (nx := nx) i
    rw [kAt_nil h0]
    generalize runT [] nx s i = n at hr ⊢
    rcases n with _ | _ | n
    · simp [matT, canT, isM]
    · simp [matT, canT, isM]
    · omega
  · have := run_num h0 hn hd hs i
    exact ⟨num_mat this, num_can this⟩
end Go.Rg
/-! The spec's own programs (plain): what is made of any instructions. -/
namespace Go.Rg
set_option linter.unusedVariables false
/-- An instruction as it comes in. -/
structure Raw where
  op : Int
  to : Nat
  a : Nat
  b : Nat
  lo : Nat
  hi : Nat
def Raw.zero : Raw := ⟨0, 0, 0, 0, 0, 0⟩
def Raw.In (x : Raw) : In := ⟨x.op.toNat, x.to, x.a, x.b, x.lo, x.hi⟩
def size30 (raw : List Raw) : Nat := max 1 (min raw.length 30)
/-- The kind of an instruction. -/
def kind4 (x : Int) : Nat := ((x % 18446744073709551616) % 4).toNat
theorem kind4_lt (x : Int) : kind4 x < 4 := by unfold kind4; omega
def opOf (n k : Nat) (x : Int) : Nat := if k = n - 1 ∧ kind4 x = 3 then 0 else kind4 x
theorem opOf_lt (n k : Nat) (x : Int) : opOf n k x < 4 := by unfold opOf; split <;> first | omega | exact kind4_lt x
def fix (n k : Nat) (x : Raw) : In := ⟨opOf n k x.op, x.to % n, x.a % n, x.b % n, x.lo, x.hi⟩
def prgTo (raw : List Raw) (k : Nat) : List In := (List.range k).map fun i => fix (size30 raw) i (raw[i]?.getD Raw.zero)
def prg (raw : List Raw) : List In := prgTo raw (size30 raw)
theorem prgTo_zero (raw : List Raw) : prgTo raw 0 = [] := rfl
theorem prgTo_succ (raw : List Raw) (k : Nat) : prgTo raw (k + 1) = prgTo raw k ++ [fix (size30 raw) k (raw[k]?.getD Raw.zero)] := by simp [prgTo, List.range_succ]
theorem prgTo_len (raw : List Raw) (k : Nat) : (prgTo raw k).length = k := by simp [prgTo]
theorem size30_le (raw : List Raw) : 1 ≤ size30 raw ∧ size30 raw ≤ 30 := by unfold size30; omega
theorem prg_len (raw : List Raw) : (prg raw).length = size30 raw := prgTo_len _ _
theorem prg_at {raw : List Raw} {k : Nat} {i : In} (h : (prg raw)[k]? = some i) : k < size30 raw ∧ i = fix (size30 raw) k (raw[k]?.getD Raw.zero) := by
  have hk := (List.getElem?_eq_some_iff.mp h).1
  rw [prg_len] at hk
  refine ⟨hk, ?_⟩
  simp only [prg, prgTo, List.getElem?_map, List.getElem?_range hk, Option.map_some, Option.some.injEq] at h
  exact h.symm
theorem prg_sound (raw : List Raw) : Sound (prg raw) := by
  intro k i h
  obtain ⟨hk, rfl⟩ := prg_at h
  have h1 := (size30_le raw).1
  rw [prg_len]
  refine ⟨fun _ => Nat.mod_lt _ h1, fun _ => ⟨Nat.mod_lt _ h1, Nat.mod_lt _ h1⟩, fun h3 => ?_, Nat.le_of_lt_succ (opOf_lt _ _ _)⟩
  have h3' : opOf (size30 raw) k (raw[k]?.getD Raw.zero).op = 3 := h3
  unfold opOf at h3'
  split at h3'
  · cases h3'
  · rename_i hn
    have : k ≠ size30 raw - 1 := fun e => hn ⟨e, h3'⟩
    omega
theorem prg_pos (raw : List Raw) : 0 < (prg raw).length := by rw [prg_len]; exact (size30_le raw).1
theorem prg_bytes {raw : List Raw} (h : ∀ x ∈ raw, x.lo < 256 ∧ x.hi < 256) {k : Nat} {i : In} (hi : (prg raw)[k]? = some i) : i.lo < 256 ∧ i.hi < 256 := by
  obtain ⟨hk, rfl⟩ := prg_at hi
  show (raw[k]?.getD Raw.zero).lo < 256 ∧ (raw[k]?.getD Raw.zero).hi < 256
  cases e : raw[k]? with
  | none => exact ⟨by decide, by decide⟩
  | some x => exact h x (List.mem_of_getElem? e)
/-- How many take a byte or match: by counting up. -/
def takTo (l : List In) (k : Nat) : Nat := ((List.range k).filter (takes l)).length
theorem takTo_zero (l : List In) : takTo l 0 = 0 := rfl
theorem takTo_succ (l : List In) (k : Nat) : takTo l (k + 1) = takTo l k + (if takes l k then 1 else 0) := by
  unfold takTo
  rw [List.range_succ, List.filter_append, List.length_append]
  by_cases h : takes l k = true
  · simp [h]
  · simp [h]
theorem takTo_all (l : List In) : takTo l l.length = (taking l).length := rfl
theorem takTo_le (l : List In) (k : Nat) : takTo l k ≤ k := by
  unfold takTo
  exact Nat.le_trans (List.length_filter_le _ _) (by simp)
end Go.Rg
/-! The spec's own sets of instructions (plain): closing a row pass by pass, the rows along a text. -/
namespace Go.Rg
set_option linter.unusedVariables false
theorem roots_snoc {l : List In} {K : List Nat} {c k x : Nat} (h : K[k]? = some x) : rootsOf l (K.take (k + 1)) c = rootsOf l (K.take k) c ++ (if into l c x then [x + 1] else []) := by
  have e : K.take (k + 1) = K.take k ++ [x] := by
    obtain ⟨h1, h2⟩ := List.getElem?_eq_some_iff.mp h
    rw [List.take_succ_eq_append_getElem h1, h2]
  unfold rootsOf
  rw [e, List.filter_append, List.map_append]
  by_cases hi : into l c x = true
  · simp [hi]
  · simp [hi]
theorem key_snoc {l : List In} {R : List Nat} {k x : Nat} (h : R[k]? = some x) : key l (R.take (k + 1)) = key l (R.take k) ++ (if takes l x then [x] else []) := by
  have e : R.take (k + 1) = R.take k ++ [x] := by
    obtain ⟨h1, h2⟩ := List.getElem?_eq_some_iff.mp h
    rw [List.take_succ_eq_append_getElem h1, h2]
  unfold key
  rw [e, List.filter_append]
  by_cases hi : takes l x = true
  · simp [hi]
  · simp [hi]
theorem isM_snoc {l : List In} (A : List Nat) (x : Nat) : isM l (A ++ [x]) = (isM l A || matchAt l x) := by simp [isM]
/-- One pass under way: at instruction i, k of its ways done; c0: how many were not there when the pass began. -/
structure RI (l : List In) (r : List Nat) (bs : List Bool) (i k : Nat) (again : Bool) (c0 : Nat) : Prop where
  len : bs.length = l.length
  has : ∀ x ∈ r, bs[x]? = some true
  least : ∀ P : Nat → Prop, (∀ x ∈ r, P x) → (∀ x i, P x → l[x]? = some i → ∀ y ∈ i.succ, P y) → ∀ x : Nat, bs[x]? = some true → P x
  cl : again = false → ∀ x : Nat, x < i → bs[x]? = some true → ∀ n, l[x]? = some n → ∀ y ∈ n.succ, bs[y]? = some true
  cur : ∀ n, l[i]? = some n → ∀ y ∈ n.succ.take k, bs[y]? = some true
  cnt : (again = false → bs.count false = c0) ∧ (again = true → bs.count false < c0)
theorem RI.start {l : List In} {r : List Nat} {bs : List Bool} (hl : bs.length = l.length) (h : ∀ x : Nat, bs[x]? = some true ↔ x ∈ r) : RI l r bs 0 0 false (bs.count false) :=
  ⟨hl, fun x hx => (h x).mpr hx, fun P h1 _ x hx => h1 x ((h x).mp hx), fun _ x hx => by omega, by simp, fun _ => rfl, fun e => by cases e⟩
theorem RI.pass {l : List In} {r : List Nat} {bs : List Bool} {i k : Nat} {a : Bool} {c0 : Nat} (h : RI l r bs i k a c0) : RI l r bs 0 0 false (bs.count false) :=
  ⟨h.len, h.has, h.least, fun _ x hx => by omega, by simp, fun _ => rfl, fun e => by cases e⟩
theorem RI.skip {l : List In} {r : List Nat} {bs : List Bool} {i : Nat} {a : Bool} {c0 : Nat} (h : RI l r bs i 0 a c0) (hb : bs[i]? = some false) : RI l r bs (i + 1) 0 a c0 :=
  ⟨h.len, h.has, h.least, fun e x hx ht => by
    by_cases hxi : x = i
    · subst hxi; rw [hb] at ht; cases ht
    · exact h.cl e x (by omega) ht, by simp, h.cnt⟩
theorem RI.next {l : List In} {r : List Nat} {bs : List Bool} {i k : Nat} {a : Bool} {c0 : Nat} {n : In} (h : RI l r bs i k a c0) (hn : l[i]? = some n) (hk : k = n.succ.length) : RI l r bs (i + 1) 0 a c0 :=
  ⟨h.len, h.has, h.least, fun e x hx ht m hm y hy => by
    by_cases hxi : x = i
    · subst hxi
      rw [hn] at hm; cases hm
      exact h.cur n hn y (by rw [hk, List.take_length]; exact hy)
    · exact h.cl e x (by omega) ht m hm y hy, by simp, h.cnt⟩
theorem take_succ_get {α : Type} {l : List α} {k : Nat} {x : α} (h : l[k]? = some x) : l.take (k + 1) = l.take k ++ [x] := by
  obtain ⟨h1, h2⟩ := List.getElem?_eq_some_iff.mp h
  rw [List.take_succ_eq_append_getElem h1, h2]
theorem RI.old {l : List In} {r : List Nat} {bs : List Bool} {i k y : Nat} {a : Bool} {c0 : Nat} {n : In} (h : RI l r bs i k a c0) (hn : l[i]? = some n) (hy : n.succ[k]? = some y) (hb : bs[y]? = some true) : RI l r bs i (k + 1) a c0 :=
  ⟨h.len, h.has, h.least, h.cl, fun m hm z hz => by
    rw [hn] at hm; cases hm
    rw [take_succ_get hy] at hz
    rcases List.mem_append.mp hz with p | p
    · exact h.cur n hn z p
    · simp at p; subst p; exact hb, h.cnt⟩
theorem set_true {bs : List Bool} {x y : Nat} (h : bs[x]? = some true) : (bs.set y true)[x]? = some true := by
  by_cases e : y = x
  · subst e; rw [List.getElem?_set_self (List.getElem?_eq_some_iff.mp h).1]
  · rw [List.getElem?_set_ne e]; exact h
theorem RI.new {l : List In} {r : List Nat} {bs : List Bool} {i k y : Nat} {a : Bool} {c0 : Nat} {n : In} (h : RI l r bs i k a c0) (hn : l[i]? = some n) (hi : bs[i]? = some true) (hy : n.succ[k]? = some y) (hb : bs[y]? = some false) : RI l r (bs.set y true) i (k + 1) true c0 := by
  have hyl := (List.getElem?_eq_some_iff.mp hb).1
  have hc : (bs.set y true).count false < bs.count false := by
    have h0 : 0 < bs.count false := List.count_pos_iff.mpr (List.mem_of_getElem? hb)
    have he : bs[y] = false := (List.getElem?_eq_some_iff.mp hb).2
    rw [List.count_set hyl, he]
    simp
    omega
  refine ⟨by rw [List.length_set]; exact h.len, fun x hx => set_true (h.has x hx), fun P h1 h2 x hx => ?_, fun e => (by cases e), fun m hm z hz => ?_, fun e => (by cases e), fun _ => ?_⟩
  · by_cases e : y = x
    · subst e
      exact h2 i n (h.least P h1 h2 i hi) hn y (List.mem_of_getElem? hy)
    · rw [List.getElem?_set_ne e] at hx
      exact h.least P h1 h2 x hx
  · rw [hn] at hm; cases hm
    rw [take_succ_get hy] at hz
    rcases List.mem_append.mp hz with p | p
    · exact set_true (h.cur n hn z p)
    · simp at p; subst p; rw [List.getElem?_set_self hyl]
  · have := h.cnt
    cases a
    · have := this.1 rfl; omega
    · have := this.2 rfl; omega
theorem RI.fin {l : List In} {r : List Nat} {bs : List Bool} {k : Nat} {c0 : Nat} (h : RI l r bs l.length k false c0) : ClosB l r bs :=
  ⟨h.len, h.has, fun x hx i hi y hy => h.cl rfl x (by have := (List.getElem?_eq_some_iff.mp hx).1; rw [h.len] at this; exact this) hx i hi y hy, h.least⟩
/-- The instructions with which the sets along a text begin. -/
def rAt (l : List In) (s : List Nat) : Nat → List Nat
  | 0 => [0]
  | i + 1 => rootsOf l (kAt l s i) (s[i]?.getD 0)
theorem kAt_eq (l : List In) (s : List Nat) (i : Nat) : kAt l s i = key l (addAll l [] (rAt l s i)) := by cases i <;> rfl
theorem rAt_lt {l : List In} (hs : Sound l) (h0 : 0 < l.length) (s : List Nat) (i : Nat) : ∀ x ∈ rAt l s i, x < l.length := by
  cases i with
  | zero => intro x hx; simp only [rAt, List.mem_singleton] at hx; omega
  | succ i => exact roots_lt hs
/-- Whether one of the first k instructions that are there is of a kind. -/
def anyTo (p : Nat → Bool) (bs : List Bool) (k : Nat) : Bool := (List.range k).any fun k => bs[k]?.getD false && p k
theorem anyTo_zero (p : Nat → Bool) (bs : List Bool) : anyTo p bs 0 = false := rfl
theorem anyTo_succ (p : Nat → Bool) (bs : List Bool) (k : Nat) : anyTo p bs (k + 1) = (anyTo p bs k || (bs[k]?.getD false && p k)) := by simp [anyTo, List.range_succ]
theorem anyTo_all (l : List In) (p : Nat → Bool) (bs : List Bool) : anyTo p bs l.length = anyB l p bs := rfl
/-- The next set, as far as the first k instructions. -/
def NextTo (l : List In) (bs nx : List Bool) (c k : Nat) : Prop := nx.length = l.length ∧ ∀ j : Nat, nx[j]? = some true ↔ ∃ x, x < k ∧ j = x + 1 ∧ bs[x]? = some true ∧ into l c x = true
theorem next_zero (l : List In) (bs : List Bool) (c : Nat) : NextTo l bs (List.replicate l.length false) c 0 := by
  refine ⟨by simp, fun j => ⟨fun h => ?_, fun ⟨x, hx, _⟩ => by omega⟩⟩
  have := List.mem_of_getElem? h
  simp at this
theorem NextTo.skip {l : List In} {bs nx : List Bool} {c k : Nat} (h : NextTo l bs nx c k) (hn : ¬ (bs[k]? = some true ∧ into l c k = true)) : NextTo l bs nx c (k + 1) := by
  refine ⟨h.1, fun j => (h.2 j).trans ⟨fun ⟨x, hx, e⟩ => ⟨x, by omega, e⟩, fun ⟨x, hx, e, p, q⟩ => ⟨x, ?_, e, p, q⟩⟩⟩
  by_cases hk : x = k
  · subst hk; exact absurd ⟨p, q⟩ hn
  · omega
theorem NextTo.put {l : List In} {bs nx : List Bool} {c k : Nat} (h : NextTo l bs nx c k) (hk : k + 1 < l.length) (h1 : bs[k]? = some true) (h2 : into l c k = true) : NextTo l bs (nx.set (k + 1) true) c (k + 1) := by
  refine ⟨by rw [List.length_set]; exact h.1, fun j => ?_⟩
  by_cases e : k + 1 = j
  · subst e
    rw [List.getElem?_set_self (by rw [h.1]; exact hk)]
    exact ⟨fun _ => ⟨k, by omega, rfl, h1, h2⟩, fun _ => rfl⟩
  · rw [List.getElem?_set_ne e]
    refine (h.2 j).trans ⟨fun ⟨x, hx, e⟩ => ⟨x, by omega, e⟩, fun ⟨x, hx, e', p, q⟩ => ⟨x, by omega, e', p, q⟩⟩
/-- The row at the head of a step. -/
def HeadIs (l : List In) (s : List Nat) (i : Nat) (bs : List Bool) : Prop := bs.length = l.length ∧ ∀ x : Nat, bs[x]? = some true ↔ x ∈ rAt l s i
theorem head_zero {l : List In} (s : List Nat) (h0 : 0 < l.length) : HeadIs l s 0 ((List.replicate l.length false).set 0 true) := by
  refine ⟨by simp, fun x => ?_⟩
  simp only [rAt, List.mem_singleton]
  by_cases e : 0 = x
  · subst e; simp [h0]
  · rw [List.getElem?_set_ne e]
    refine ⟨fun h => ?_, fun h => absurd h.symm e⟩
    have := List.mem_of_getElem? h
    simp at this
theorem closed_says {l : List In} (hs : Sound l) (h0 : 0 < l.length) {s : List Nat} {i : Nat} {bs : List Bool} (h : ClosB l (rAt l s i) bs) :
    anyTo (matchAt l) bs l.length = isM l (kAt l s i) ∧ anyTo (takes l) bs l.length = !(kAt l s i).isEmpty := by
  have hc := h.setIs (addAll_closure l hs (rAt l s i) (rAt_lt hs h0 s i))
  rw [kAt_eq]
  exact ⟨any_match hc, any_can hc⟩
theorem head_next {l : List In} (hs : Sound l) (h0 : 0 < l.length) {s : List Nat} {i : Nat} {bs nx : List Bool} (h : ClosB l (rAt l s i) bs) (hn : NextTo l bs nx (s[i]?.getD 0) l.length) : HeadIs l s (i + 1) nx := by
  have hc := h.setIs (addAll_closure l hs (rAt l s i) (rAt_lt hs h0 s i))
  refine ⟨hn.1, fun j => (hn.2 j).trans ?_⟩
  show _ ↔ j ∈ rootsOf l (kAt l s i) (s[i]?.getD 0)
  rw [kAt_eq, mem_roots]
  refine ⟨fun ⟨x, _, e, p, q⟩ => ⟨x, e, (hc.2 x).mp p, q⟩, fun ⟨x, e, p, q⟩ => ⟨x, ?_, e, (hc.2 x).mpr p, q⟩⟩
  have := (List.getElem?_eq_some_iff.mp ((hc.2 x).mpr p)).1
  rw [hc.1] at this; exact this
end Go.Rg
/-! The builder's loop (plain): its start, its end. -/
namespace Go.Rg
set_option linter.unusedVariables false
theorem Inv.start {l : List In} (hs : Sound l) (h0 : 0 < l.length) (hn : startK l ≠ []) : Inv l [startK l] [List.replicate 256 0] [] [] 1 0 := by
  refine ⟨by simp, by simpa using ⟨isK_start hs h0, hn⟩, by simpa using Rk.start, rfl, rfl, fun r hr => by rw [List.mem_singleton.mp hr, List.length_replicate], by simp, by simp, by simp, by simp, fun i K hi => ?_⟩
  rcases i with _ | i
  · exact Or.inr (Or.inl ⟨rfl, fun c hc => absurd hc (by omega)⟩)
  · simp at hi
theorem Inv.made {l : List In} {Ks nx : List (List Nat)} {seen : List Nat} {s : Nat} (h : Inv l Ks nx seen [] s 256) : Made l Ks nx :=
  Or.inr ⟨h.first, (h.isK _ (List.mem_of_getElem? h.first)).2, h.fin⟩
/-- More than 10000 states (with the one that is none). -/
theorem Inv.many {l : List In} {Ks nx : List (List Nat)} {seen stack : List Nat} {s b : Nat} (h : Inv l Ks nx seen stack s b) (hm : 10000 < Ks.length + 1) : Many l :=
  ⟨Ks, h.nd, by omega, fun K hK => ⟨h.rk K hK, (h.isK K hK).1⟩⟩
/-- .. then more than 6 instructions take a byte or match. -/
theorem Many.six {l : List In} (h : Many l) : 6 < (taking l).length := by
  obtain ⟨Ks, h1, h2, h3⟩ := h
  by_cases h6 : (taking l).length ≤ 6
  · have := few_states h6 h1 fun K hK => (h3 K hK).2
    omega
  · omega
theorem Inv.rows {l : List In} {Ks nx : List (List Nat)} (hd : ∀ i K, Ks[i]? = some K → RowTo l Ks nx i K 256) (hl : nx.length = Ks.length) (hr : ∀ r ∈ nx, r.length = 256) : ∀ r ∈ nx, ∀ n ∈ r, n ≤ Ks.length := by
  intro r hr0 n hn
  obtain ⟨i, hi, rfl⟩ := List.getElem_of_mem hr0
  obtain ⟨c, hc, rfl⟩ := List.getElem_of_mem hn
  have h256 := hr _ hr0
  obtain ⟨r', m, e1, e2, e3⟩ := hd i _ (List.getElem?_eq_getElem (by omega : i < Ks.length)) c (by omega)
  rw [List.getElem?_eq_getElem hi] at e1
  cases e1
  rw [List.getElem?_eq_getElem hc] at e2
  cases e2
  exact e3.le
end Go.Rg
/-! A state's key as bytes: plain. -/
namespace Go.Rg
open Go.Pk
set_option linter.unusedVariables false
/-- Eight bytes a number. -/
def keyB (K : List Nat) : List Nat := K.flatMap fun x => packed x 8
theorem keyB_nil : keyB [] = [] := rfl
theorem keyB_snoc (K : List Nat) (x : Nat) : keyB (K ++ [x]) = keyB K ++ packed x 8 := by simp [keyB]
theorem keyB_len (K : List Nat) : (keyB K).length = 8 * K.length := by
  induction K with
  | nil => rfl
  | cons a t ih => simp only [keyB, List.flatMap_cons, List.length_append, packed_len, List.length_cons] at ih ⊢; omega
theorem keyB_inj : ∀ (K L : List Nat), (∀ x ∈ K, x < 18446744073709551616) → (∀ x ∈ L, x < 18446744073709551616) → keyB K = keyB L → K = L := by
  intro K
  induction K with
  | nil =>
    intro L _ _ h
    have := congrArg List.length h
    rw [keyB_len, keyB_len] at this
    exact (List.eq_nil_of_length_eq_zero (by simp at this; omega)).symm
  | cons a t ih =>
    intro L h1 h2 h
    cases L with
    | nil => have := congrArg List.length h; rw [keyB_len, keyB_len] at this; simp at this
    | cons b u =>
      simp only [keyB, List.flatMap_cons] at h
      obtain ⟨e1, e2⟩ := List.append_inj h (by rw [packed_len, packed_len])
      have ea := unpacked_packed_of_lt (v := a) (n := 8) (by have := h1 a (by simp); simpa using this)
      have eb := unpacked_packed_of_lt (v := b) (n := 8) (by have := h2 b (by simp); simpa using this)
      rw [e1, eb] at ea
      rw [ea, ih u (fun x hx => h1 x (by simp [hx])) (fun x hx => h2 x (by simp [hx])) e2]
end Go.Rg
/-! The states' cache: keys of bytes to numbers (plain). -/
namespace Go.Rg
open Go.Pk Go.Maps
set_option linter.unusedVariables false
theorem keyB_lt (K : List Nat) : ∀ x ∈ keyB K, x < 256 := by
  intro x hx
  obtain ⟨a, _, h⟩ := List.mem_flatMap.mp hx
  exact packed_lt _ _ x h
def klit (K : List Nat) : Lit := .string ((keyB K).map UInt8.ofNat)
theorem map_u8_inj : ∀ (a b : List Nat), (∀ x ∈ a, x < 256) → (∀ x ∈ b, x < 256) → a.map UInt8.ofNat = b.map UInt8.ofNat → a = b := by
  intro a
  induction a with
  | nil => intro b _ _ h; cases b with
    | nil => rfl
    | cons y r => simp at h
  | cons x t ih =>
    intro b ha hb h
    cases b with
    | nil => simp at h
    | cons y r =>
      simp only [List.map_cons, List.cons.injEq] at h
      have h1 := congrArg UInt8.toNat h.1
      simp only [UInt8.toNat_ofNat'] at h1
      have hx := ha x (by simp)
      have hy := hb y (by simp)
      have e : x = y := by omega
      subst e
      rw [ih r (fun z hz => ha z (by simp [hz])) (fun z hz => hb z (by simp [hz])) h.2]
theorem klit_inj {K L : List Nat} (hK : ∀ x ∈ K, x < 18446744073709551616) (hL : ∀ x ∈ L, x < 18446744073709551616) (h : klit K = klit L) : K = L := by
  unfold klit at h
  exact keyB_inj K L hK hL (map_u8_inj _ _ (keyB_lt K) (keyB_lt L) (by injection h))
/-- The cache knows just the states that there are. -/
structure CacheIs (D : DataW Unit) (Ks : List (List Nat)) : Prop where
  im : IsMap D
  yes : ∀ (i : Nat) K, Ks[i]? = some K → has D (klit K) = true ∧ ∀ z, D.atKey (klit K) z = .lit (.int .i64 ((i : Int) + 1))
  no : ∀ K, K ∉ Ks → (∀ x ∈ K, x < 18446744073709551616) → has D (klit K) = false
theorem cache_new : CacheIs (.map []) [] := ⟨⟨[], rfl⟩, by simp, fun _ _ _ => rfl⟩
theorem CacheIs.put {D : DataW Unit} {Ks : List (List Nat)} (h : CacheIs D Ks) (hK : ∀ K ∈ Ks, ∀ x ∈ K, x < 18446744073709551616) {K : List Nat} (h0 : ∀ x ∈ K, x < 18446744073709551616) (hn : K ∉ Ks) :
    CacheIs (D.put (klit K) (.lit (.int .i64 ((Ks.length : Int) + 1)))) (Ks ++ [K]) := by
  have hk : WideAt.IsKeyLit (klit K) := by unfold klit; trivial
  refine ⟨h.im.put _ _, fun i L hi => ?_, fun L hL hx => ?_⟩
  · by_cases hl : i < Ks.length
    · rw [List.getElem?_append_left hl] at hi
      have hm := List.mem_of_getElem? hi
      have hne : klit L ≠ klit K := fun e => hn (klit_inj (hK L hm) h0 e ▸ hm)
      obtain ⟨h1, h2⟩ := h.yes i L hi
      exact ⟨by rw [has_put_other hne]; exact h1, fun z => by rw [atKey_put_other hne]; exact h2 z⟩
    · rw [List.getElem?_append_right (by omega)] at hi
      have : i = Ks.length := by have := (List.getElem?_eq_some_iff.mp hi).1; simp at this; omega
      subst this
      simp at hi; subst hi
      exact ⟨has_put_same h.im hk _, fun z => atKey_put_same h.im hk _ _⟩
  · have h1 : L ∉ Ks := fun m => hL (by simp [m])
    have h2 : L ≠ K := fun e => hL (by simp [e])
    have hne : klit L ≠ klit K := fun e => h2 (klit_inj hx h0 e)
    rw [has_put_other hne]; exact h.no L h1 hx
end Go.Rg
/-! Roads through the instructions, against the automaton's sets: plain. -/
namespace Go.Rg
set_option linter.unusedVariables false
/-- From one instruction to another one, by the bytes of a text. -/
inductive Goes (l : List In) : Nat → List Nat → Nat → Prop
  | refl (p : Nat) : Goes l p [] p
  | eps {p y q : Nat} {s : List Nat} {i : In} : l[p]? = some i → y ∈ i.succ → Goes l y s q → Goes l p s q
  | take {p q c : Nat} {s : List Nat} : into l c p = true → Goes l (p + 1) s q → Goes l p (c :: s) q
theorem Goes.trans {l : List In} {p m q : Nat} {s t : List Nat} (h : Goes l p s m) (h' : Goes l m t q) : Goes l p (s ++ t) q := by
  induction h with
  | refl p => exact h'
  | eps e y _ ih => exact .eps e y (ih h')
  | take e _ ih => exact .take e (ih h')
theorem Goes.split {l : List In} {p q : Nat} {u : List Nat} (h : Goes l p u q) : ∀ (s t : List Nat), u = s ++ t → ∃ m, Goes l p s m ∧ Goes l m t q := by
  induction h with
  | refl p =>
    intro s t e
    have e' := List.append_eq_nil_iff.mp e.symm
    rw [e'.1, e'.2]; exact ⟨p, .refl p, .refl p⟩
  | eps e y _ ih =>
    intro s t hst
    obtain ⟨m, h1, h2⟩ := ih s t hst
    exact ⟨m, .eps e y h1, h2⟩
  | @take p q c u e h ih =>
    intro s t hst
    cases s with
    | nil => simp at hst; subst hst; exact ⟨p, .refl p, .take e h⟩
    | cons a s =>
      simp at hst; obtain ⟨rfl, hst⟩ := hst
      obtain ⟨m, h1, h2⟩ := ih s t hst
      exact ⟨m, .take e h1, h2⟩
theorem Goes.one {l : List In} {p q c : Nat} (h : Goes l p [c] q) : ∃ m, Goes l p [] m ∧ into l c m = true ∧ Goes l (m + 1) [] q := by
  generalize hs : [c] = s at h
  induction h with
  | refl p => cases hs
  | eps e y _ ih =>
    obtain ⟨m, h1, h2, h3⟩ := ih hs
    exact ⟨m, .eps e y h1, h2, h3⟩
  | take e h => cases hs; exact ⟨_, .refl _, e, h⟩
/-- The sets, with all that they hold. -/
def gAt (l : List In) (s : List Nat) : Nat → List Nat
  | 0 => addAll l [] [0]
  | i + 1 => addAll l [] (rootsOf l (key l (gAt l s i)) (s[i]?.getD 0))
theorem kAt_gAt (l : List In) (s : List Nat) : ∀ i, kAt l s i = key l (gAt l s i) := by
  intro i
  induction i with
  | zero => rfl
  | succ i ih => simp only [kAt, gAt, stepK, ih]
theorem mem_closure {l : List In} {r R : List Nat} (h : Closure l r R) (x : Nat) : x ∈ R ↔ ∃ y ∈ r, Goes l y [] x := by
  constructor
  · refine h.least (fun x => ∃ y ∈ r, Goes l y [] x) (fun y hy => ⟨y, hy, .refl y⟩) ?_ x
    rintro z i ⟨y, hy, hg⟩ hi w hw
    exact ⟨y, hy, by simpa using hg.trans (.eps hi hw (.refl w))⟩
  · rintro ⟨y, hy, hg⟩
    have : ∀ {p q s}, Goes l p s q → s = [] → p ∈ R → q ∈ R := by
      intro p q s hg
      induction hg with
      | refl p => exact fun _ h => h
      | eps e hy _ ih => exact fun hs hp => ih hs (h.closed _ hp _ e _ hy)
      | take _ _ _ => intro hs; cases hs
    exact this hg rfl (h.has y hy)
/-- A set holds what is come to by the text up to there. -/
theorem mem_gAt {l : List In} (hs : Sound l) (h0 : 0 < l.length) (s : List Nat) : ∀ i, i ≤ s.length → ∀ x, x ∈ gAt l s i ↔ Goes l 0 (s.take i) x := by
  intro i
  induction i with
  | zero =>
    intro _ x
    rw [List.take_zero, gAt, mem_closure (addAll_closure l hs [0] (by simpa using h0))]
    simp
  | succ i ih =>
    intro hi x
    have hi' : i < s.length := by omega
    have e : s[i]? = some s[i] := List.getElem?_eq_getElem hi'
    rw [gAt, mem_closure (addAll_closure l hs _ (roots_lt hs)), List.take_add_one, e]
    simp only [Option.getD_some, Option.toList_some, mem_roots]
    constructor
    · rintro ⟨y, ⟨k, rfl, hk, hin⟩, hg⟩
      exact ((ih (by omega) k).mp hk).trans (.take hin hg)
    · intro hg
      obtain ⟨m, h1, h2⟩ := hg.split (s.take i) [s[i]] rfl
      obtain ⟨k, h3, h4, h5⟩ := h2.one
      exact ⟨k + 1, ⟨k, rfl, (ih (by omega) k).mpr (by simpa using h1.trans h3), h4⟩, h5⟩
/-- The automaton matches behind a beginning just if a match is come to by it. -/
theorem isM_iff {l : List In} (hs : Sound l) (h0 : 0 < l.length) (s : List Nat) (i : Nat) (hi : i ≤ s.length) : isM l (kAt l s i) = true ↔ ∃ m, matchAt l m = true ∧ Goes l 0 (s.take i) m := by
  rw [kAt_gAt]
  simp only [isM, List.any_eq_true]
  constructor
  · rintro ⟨m, hm, h⟩; exact ⟨m, h, (mem_gAt hs h0 s i hi m).mp (mem_key.mp hm).1⟩
  · rintro ⟨m, h, hg⟩; exact ⟨m, mem_key.mpr ⟨(mem_gAt hs h0 s i hi m).mpr hg, takes_of_match h⟩, h⟩
theorem can_iff {l : List In} (hs : Sound l) (h0 : 0 < l.length) (s : List Nat) (i : Nat) (hi : i ≤ s.length) : (kAt l s i).isEmpty = false ↔ ∃ m, takes l m = true ∧ Goes l 0 (s.take i) m := by
  rw [kAt_gAt]
  constructor
  · intro h
    cases e : key l (gAt l s i) with
    | nil => rw [e] at h; cases h
    | cons a t =>
      have := mem_key.mp (show a ∈ key l (gAt l s i) by rw [e]; simp)
      exact ⟨a, this.2, (mem_gAt hs h0 s i hi a).mp this.1⟩
  · rintro ⟨m, h, hg⟩
    have := mem_key.mpr ⟨(mem_gAt hs h0 s i hi m).mpr hg, h⟩
    cases e : key l (gAt l s i) with
    | nil => rw [e] at this; cases this
    | cons a t => rfl
/-- On a road to a match there is, at once, one that takes a byte or matches. -/
theorem Goes.takes {l : List In} {k m : Nat} {t : List Nat} (h : Goes l k t m) (hm : matchAt l m = true) : ∃ x, takes l x = true ∧ Goes l k [] x := by
  induction h with
  | refl p => exact ⟨p, takes_of_match hm, .refl p⟩
  | eps e y _ ih =>
    obtain ⟨x, h1, h2⟩ := ih hm
    exact ⟨x, h1, .eps e y h2⟩
  | take e _ _ => exact ⟨_, takes_of_into e, .refl _⟩
/-- From each instruction a match can be come to. -/
def Live (l : List In) : Prop := ∀ k, k < l.length → ∃ t m, matchAt l m = true ∧ Goes l k t m
theorem takes_lt {l : List In} {x : Nat} (h : Go.Rg.takes l x = true) : x < l.length := by
  unfold Go.Rg.takes at h
  cases e : l[x]? with
  | none => rw [e] at h; cases h
  | some i => exact (List.getElem?_eq_some_iff.mp e).1
/-- Where all is alive, a beginning can match just if some text behind it makes a match. -/
theorem can_lang {l : List In} (hl : Live l) (s : List Nat) : (∃ m, Go.Rg.takes l m = true ∧ Goes l 0 s m) ↔ ∃ t m, matchAt l m = true ∧ Goes l 0 (s ++ t) m := by
  constructor
  · rintro ⟨m, hm, hg⟩
    obtain ⟨t, m', h1, h2⟩ := hl m (takes_lt hm)
    exact ⟨t, m', h1, hg.trans h2⟩
  · rintro ⟨t, m, hm, hg⟩
    obtain ⟨k, h1, h2⟩ := hg.split s t rfl
    obtain ⟨x, h3, h4⟩ := h2.takes hm
    exact ⟨x, h3, by simpa using h1.trans h4⟩
end Go.Rg
/-! Fragments of instructions and their words: plain. -/
namespace Go.Rg
set_option linter.unusedVariables false
/-- A road with its number of steps. -/
inductive GoesN (l : List In) : Nat → Nat → List Nat → Nat → Prop
  | refl (p : Nat) : GoesN l 0 p [] p
  | eps {n p y q : Nat} {s : List Nat} {i : In} : l[p]? = some i → y ∈ i.succ → GoesN l n y s q → GoesN l (n + 1) p s q
  | take {n p q c : Nat} {s : List Nat} : into l c p = true → GoesN l n (p + 1) s q → GoesN l (n + 1) p (c :: s) q
theorem GoesN.goes {l : List In} {n p q : Nat} {s : List Nat} (h : GoesN l n p s q) : Goes l p s q := by
  induction h with
  | refl p => exact .refl p
  | eps e y _ ih => exact .eps e y ih
  | take e _ ih => exact .take e ih
theorem Goes.count {l : List In} {p q : Nat} {s : List Nat} (h : Goes l p s q) : ∃ n, GoesN l n p s q := by
  induction h with
  | refl p => exact ⟨0, .refl p⟩
  | eps e y _ ih => obtain ⟨n, h⟩ := ih; exact ⟨n + 1, .eps e y h⟩
  | take e _ ih => obtain ⟨n, h⟩ := ih; exact ⟨n + 1, .take e h⟩
/-- Instructions from p to q: through them go just the words of L. -/
structure Frag (l : List In) (p q : Nat) (L : List Nat → Prop) : Prop where
  le : p ≤ q
  fwd : ∀ s, L s → Goes l p s q
  bwd : ∀ n s m, GoesN l n p s m → (m < p ∨ q ≤ m) → ∃ s1 s2 n', s = s1 ++ s2 ∧ L s1 ∧ n' ≤ n ∧ GoesN l n' q s2 m
theorem Frag.empty (l : List In) (p : Nat) : Frag l p p (fun s => s = []) :=
  ⟨Nat.le_refl _, fun s h => h ▸ .refl p, fun n s m h _ => ⟨[], s, n, rfl, rfl, Nat.le_refl _, h⟩⟩
theorem Frag.cat {l : List In} {p q r : Nat} {L M : List Nat → Prop} (h : Frag l p q L) (h' : Frag l q r M) : Frag l p r (fun s => ∃ a b, s = a ++ b ∧ L a ∧ M b) := by
  refine ⟨Nat.le_trans h.le h'.le, ?_, ?_⟩
  · rintro s ⟨a, b, rfl, ha, hb⟩; exact (h.fwd a ha).trans (h'.fwd b hb)
  · intro n s m hg hm
    have h1 := h.le; have h2 := h'.le
    obtain ⟨s1, s2, n1, rfl, hl, hn, hg1⟩ := h.bwd n s m hg (by omega)
    obtain ⟨s3, s4, n2, rfl, hl', hn', hg2⟩ := h'.bwd n1 s2 m hg1 (by omega)
    exact ⟨s1 ++ s3, s4, n2, by simp, ⟨s1, s3, rfl, hl, hl'⟩, by omega, hg2⟩
theorem Frag.congr {l : List In} {p q : Nat} {L M : List Nat → Prop} (h : Frag l p q L) (e : ∀ s, L s ↔ M s) : Frag l p q M := by
  have : L = M := funext fun s => propext (e s)
  rwa [← this]
/-- A jump or a split, at its first step. -/
theorem GoesN.first {l : List In} {n p m : Nat} {s : List Nat} {i : In} (h : GoesN l n p s m) (hi : l[p]? = some i) (h3 : i.op ≠ 3) : (m = p ∧ s = []) ∨ ∃ y n', y ∈ i.succ ∧ n = n' + 1 ∧ GoesN l n' y s m := by
  cases h with
  | refl => exact Or.inl ⟨rfl, rfl⟩
  | eps e y h => rw [hi] at e; cases e; exact Or.inr ⟨_, _, y, rfl, h⟩
  | take e h => unfold into at e; rw [hi] at e; simp at e; exact absurd e.1.1 h3
theorem Frag.alt {l : List In} {p a e : Nat} {L M : List Nat → Prop} {x y : In} (hx : l[p]? = some x) (x2 : x.op = 2) (xa : x.a = p + 1) (xb : x.b = a + 1) (h : Frag l (p + 1) a L) (hy : l[a]? = some y) (y1 : y.op = 1) (yt : y.to = e) (h' : Frag l (a + 1) e M) : Frag l p e (fun s => L s ∨ M s) := by
  have hs : x.succ = [p + 1, a + 1] := by simp [In.succ, x2, xa, xb]
  have ht : y.succ = [e] := by simp [In.succ, y1, yt]
  have h1 := h.le; have h2 := h'.le
  refine ⟨by omega, ?_, ?_⟩
  · rintro s (hl | hl)
    · have := (h.fwd s hl).trans (.eps hy (by rw [ht]; simp) (.refl e))
      exact .eps (y := p + 1) hx (by rw [hs]; simp) (by simpa using this)
    · exact .eps hx (by rw [hs]; simp) (h'.fwd s hl)
  · intro n s m hg hm
    rcases hg.first hx (by omega) with ⟨rfl, _⟩ | ⟨z, n', hz, rfl, hg'⟩
    · omega
    · rw [hs] at hz; simp at hz
      rcases hz with rfl | rfl
      · obtain ⟨s1, s2, n1, rfl, hl, hn, hg1⟩ := h.bwd n' s m hg' (by omega)
        rcases hg1.first hy (by omega) with ⟨rfl, _⟩ | ⟨z, n2, hz, rfl, hg2⟩
        · omega
        · rw [ht] at hz; simp at hz; subst hz
          exact ⟨s1, s2, n2, rfl, Or.inl hl, by omega, hg2⟩
      · obtain ⟨s1, s2, n1, rfl, hl, hn, hg1⟩ := h'.bwd n' s m hg' (by omega)
        exact ⟨s1, s2, n1, rfl, Or.inr hl, by omega, hg1⟩
/-- Words one behind the other, any number of them. -/
inductive Star (L : List Nat → Prop) : List Nat → Prop
  | nil : Star L []
  | more {a b : List Nat} : L a → Star L b → Star L (a ++ b)
theorem Frag.star {l : List In} {p a : Nat} {L : List Nat → Prop} {x y : In} (hx : l[p]? = some x) (x2 : x.op = 2) (xa : x.a = p + 1) (xb : x.b = a + 1) (h : Frag l (p + 1) a L) (hy : l[a]? = some y) (y1 : y.op = 1) (yt : y.to = p) : Frag l p (a + 1) (Star L) := by
  have hs : x.succ = [p + 1, a + 1] := by simp [In.succ, x2, xa, xb]
  have ht : y.succ = [p] := by simp [In.succ, y1, yt]
  have h1 := h.le
  refine ⟨by omega, ?_, ?_⟩
  · intro s hl
    induction hl with
    | nil => exact .eps hx (by rw [hs]; simp) (.refl _)
    | more ha _ ih => exact .eps hx (by rw [hs]; simp) ((h.fwd _ ha).trans (.eps hy (by rw [ht]; simp) ih))
  · intro n
    induction n using Nat.strongRecOn with
    | ind n ih =>
      intro s m hg hm
      rcases hg.first hx (by omega) with ⟨rfl, _⟩ | ⟨z, n', hz, rfl, hg'⟩
      · omega
      · rw [hs] at hz; simp at hz
        rcases hz with rfl | rfl
        · obtain ⟨s1, s2, n1, rfl, hl, hn, hg1⟩ := h.bwd n' s m hg' (by omega)
          rcases hg1.first hy (by omega) with ⟨rfl, _⟩ | ⟨z, n2, hz, rfl, hg2⟩
          · omega
          · rw [ht] at hz; simp at hz; subst hz
            obtain ⟨s3, s4, n3, rfl, hl3, hn3, hg3⟩ := ih n2 (by omega) s2 m hg2 hm
            exact ⟨s1 ++ s3, s4, n3, by simp, .more hl hl3, by omega, hg3⟩
        · exact ⟨[], s, n', rfl, .nil, by omega, hg'⟩
theorem Frag.quest {l : List In} {p q : Nat} {L : List Nat → Prop} {x : In} (hx : l[p]? = some x) (x2 : x.op = 2) (xa : x.a = p + 1) (xb : x.b = q) (h : Frag l (p + 1) q L) : Frag l p q (fun s => s = [] ∨ L s) := by
  have hs : x.succ = [p + 1, q] := by simp [In.succ, x2, xa, xb]
  have h1 := h.le
  refine ⟨by omega, ?_, ?_⟩
  · rintro s (rfl | hl)
    · exact .eps hx (by rw [hs]; simp) (.refl _)
    · exact .eps (y := p + 1) hx (by rw [hs]; simp) (h.fwd s hl)
  · intro n s m hg hm
    rcases hg.first hx (by omega) with ⟨rfl, _⟩ | ⟨z, n', hz, rfl, hg'⟩
    · omega
    · rw [hs] at hz; simp at hz
      rcases hz with rfl | rfl
      · obtain ⟨s1, s2, n1, rfl, hl, hn, hg1⟩ := h.bwd n' s m hg' (by omega)
        exact ⟨s1, s2, n1, rfl, Or.inr hl, by omega, hg1⟩
      · exact ⟨[], s, n', rfl, Or.inl rfl, by omega, hg'⟩
theorem Frag.plus {l : List In} {p a : Nat} {L : List Nat → Prop} {x : In} (h : Frag l p a L) (hx : l[a]? = some x) (x2 : x.op = 2) (xa : x.a = p) (xb : x.b = a + 1) : Frag l p (a + 1) (fun s => ∃ b c, s = b ++ c ∧ L b ∧ Star L c) := by
  have hs : x.succ = [p, a + 1] := by simp [In.succ, x2, xa, xb]
  have h1 := h.le
  have hf : ∀ c, Star L c → Goes l a c (a + 1) := by
    intro c hc
    induction hc with
    | nil => exact .eps hx (by rw [hs]; simp) (.refl _)
    | more ha _ ih => exact .eps (y := p) hx (by rw [hs]; simp) ((h.fwd _ ha).trans ih)
  refine ⟨by omega, ?_, ?_⟩
  · rintro s ⟨b, c, rfl, hb, hc⟩; exact (h.fwd b hb).trans (hf c hc)
  · intro n
    induction n using Nat.strongRecOn with
    | ind n ih =>
      intro s m hg hm
      obtain ⟨s1, s2, n1, rfl, hl, hn, hg1⟩ := h.bwd n s m hg (by omega)
      rcases hg1.first hx (by omega) with ⟨rfl, _⟩ | ⟨z, n2, hz, rfl, hg2⟩
      · omega
      · rw [hs] at hz; simp at hz
        rcases hz with rfl | rfl
        · obtain ⟨s3, s4, n3, rfl, ⟨b, c, rfl, hb, hc⟩, hn3, hg3⟩ := ih n2 (by omega) s2 m hg2 hm
          exact ⟨s1 ++ (b ++ c), s4, n3, by simp, ⟨s1, b ++ c, rfl, hl, .more hb hc⟩, by omega, hg3⟩
        · exact ⟨s1, s2, n2, rfl, ⟨s1, [], by simp, hl, .nil⟩, by omega, hg2⟩
/-- One range of bytes. -/
theorem Frag.range {l : List In} {p : Nat} {x : In} (hx : l[p]? = some x) (x3 : x.op = 3) : Frag l p (p + 1) (fun s => ∃ c, s = [c] ∧ x.lo ≤ c ∧ c ≤ x.hi) := by
  have hs : x.succ = [] := by simp [In.succ, x3]
  refine ⟨by omega, ?_, ?_⟩
  · rintro s ⟨c, rfl, h1, h2⟩
    exact .take (by simp [into, hx, x3, h1, h2]) (.refl _)
  · intro n s m hg hm
    cases hg with
    | refl => omega
    | eps e y h => rw [hx] at e; cases e; rw [hs] at y; cases y
    | @take n _ _ c t e h =>
      simp [into, hx, x3] at e
      exact ⟨[c], t, n, rfl, ⟨c, rfl, e.1, e.2⟩, by omega, h⟩
end Go.Rg
/-! Codes of parts of an expression, and how they are joined: plain. -/
namespace Go.Rg
set_option linter.unusedVariables false
/-- The instructions c stand in l from p on. -/
def Holds (l : List In) (p : Nat) (c : List In) : Prop := ∀ (k : Nat) i, c[k]? = some i → l[p + k]? = some i
theorem Holds.app {l : List In} {p : Nat} {c d : List In} (h : Holds l p (c ++ d)) : Holds l p c ∧ Holds l (p + c.length) d := by
  refine ⟨fun k i hk => h k i ?_, fun k i hk => ?_⟩
  · rw [List.getElem?_append_left (List.getElem?_eq_some_iff.mp hk).1]; exact hk
  · have := h (c.length + k) i (by rw [List.getElem?_append_right (by omega), Nat.add_sub_cancel_left]; exact hk)
    rwa [← Nat.add_assoc] at this
theorem Holds.cons {l : List In} {p : Nat} {i : In} {c : List In} (h : Holds l p (i :: c)) : l[p]? = some i ∧ Holds l (p + 1) c := by
  refine ⟨h 0 i rfl, fun k j hk => ?_⟩
  have := h (k + 1) j (by simpa using hk)
  rwa [show p + (k + 1) = p + 1 + k by omega] at this
theorem holds_self (a c b : List In) : Holds (a ++ c ++ b) a.length c := by
  intro k i hk
  have hl := (List.getElem?_eq_some_iff.mp hk).1
  rw [List.append_assoc, List.getElem?_append_right (by omega), Nat.add_sub_cancel_left, List.getElem?_append_left hl]; exact hk
def In.jmp (to : Nat) : In := ⟨1, to, 0, 0, 0, 0⟩
def In.spl (a b : Nat) : In := ⟨2, 0, a, b, 0, 0⟩
def In.rng (lo hi : Nat) : In := ⟨3, 0, 0, 0, lo, hi⟩
def In.fin : In := ⟨0, 0, 0, 0, 0, 0⟩
/-- How many take a byte. -/
def rngs (c : List In) : Nat := c.countP fun i => i.op == 3
theorem rngs_app (c d : List In) : rngs (c ++ d) = rngs c + rngs d := List.countP_append
theorem rngs_cons (i : In) (c : List In) : rngs (i :: c) = rngs c + (if i.op = 3 then 1 else 0) := by
  unfold rngs; rw [List.countP_cons]; by_cases h : i.op = 3 <;> simp [h]
/-- An instruction that goes nowhere behind e. -/
structure Way (e : Nat) (i : In) : Prop where
  o0 : i.op ≠ 0
  o3 : i.op ≤ 3
  to_ : i.op = 1 → i.to ≤ e
  ab : i.op = 2 → i.a ≤ e ∧ i.b ≤ e
  lo : i.lo < 256
  hi : i.hi < 256
theorem Way.mono {e e' : Nat} {i : In} (h : Way e i) (he : e ≤ e') : Way e' i := ⟨h.o0, h.o3, fun k => Nat.le_trans (h.to_ k) he, fun k => ⟨Nat.le_trans (h.ab k).1 he, Nat.le_trans (h.ab k).2 he⟩, h.lo, h.hi⟩
theorem way_jmp {e t : Nat} (h : t ≤ e) : Way e (In.jmp t) := ⟨by simp [In.jmp], by simp [In.jmp], fun _ => h, fun k => by simp [In.jmp] at k, by simp [In.jmp], by simp [In.jmp]⟩
theorem way_spl {e a b : Nat} (ha : a ≤ e) (hb : b ≤ e) : Way e (In.spl a b) := ⟨by simp [In.spl], by simp [In.spl], fun k => by simp [In.spl] at k, fun _ => ⟨ha, hb⟩, by simp [In.spl], by simp [In.spl]⟩
theorem way_rng {e a b : Nat} (ha : a < 256) (hb : b < 256) : Way e (In.rng a b) := ⟨by simp [In.rng], by simp [In.rng], fun k => by simp [In.rng] at k, fun k => by simp [In.rng] at k, ha, hb⟩
/-- A code at p: its words; each place of it comes to its end; it goes nowhere else; if few bytes are asked for, it takes so few; its length. -/
structure Ok (L : List Nat → Prop) (n z : Nat) (p : Nat) (c : List In) : Prop where
  frag : ∀ l, Holds l p c → Frag l p (p + c.length) L
  live : ∀ l, Holds l p c → ∀ k, k < c.length → ∃ t, Goes l (p + k) t (p + c.length)
  ways : ∀ i ∈ c, Way (p + c.length) i
  take : n ≤ 5 → rngs c ≤ n
  len : c.length ≤ z
theorem Ok.congr {L M : List Nat → Prop} {n z p : Nat} {c : List In} (h : Ok L n z p c) (e : ∀ s, L s ↔ M s) : Ok M n z p c :=
  ⟨fun l hl => (h.frag l hl).congr e, h.live, h.ways, h.take, h.len⟩
theorem Ok.more {L : List Nat → Prop} {n n' z z' p : Nat} {c : List In} (h : Ok L n z p c) (hn : n ≤ n') (hz : z ≤ z') : Ok L n' z' p c :=
  ⟨h.frag, h.live, h.ways, fun h5 => Nat.le_trans (h.take (by omega)) hn, Nat.le_trans h.len hz⟩
theorem Ok.empty (p : Nat) : Ok (fun s => s = []) 0 0 p [] :=
  ⟨fun l _ => Frag.empty l p, fun l _ k hk => by simp at hk, by simp, fun _ => by simp [rngs], by simp⟩
/-- One behind the other. -/
theorem Ok.cat {L M : List Nat → Prop} {n n' z z' p : Nat} {c d : List In} (h : Ok L n z p c) (h' : Ok M n' z' (p + c.length) d) :
    Ok (fun s => ∃ a b, s = a ++ b ∧ L a ∧ M b) (n + n') (z + z') p (c ++ d) := by
  have el : p + (c ++ d).length = p + c.length + d.length := by simp; omega
  refine ⟨fun l hl => ?_, fun l hl k hk => ?_, fun i hi => ?_, fun h5 => ?_, ?_⟩
  · rw [el]; exact (h.frag l hl.app.1).cat (h'.frag l hl.app.2)
  · rw [el]
    obtain ⟨h1, h2⟩ := hl.app
    by_cases hk2 : k < c.length
    · obtain ⟨t, ht⟩ := h.live l h1 k hk2
      by_cases hd : 0 < d.length
      · obtain ⟨t', ht'⟩ := h'.live l h2 0 hd
        exact ⟨t ++ t', ht.trans (by simpa using ht')⟩
      · have : d.length = 0 := by omega
        rw [this]; exact ⟨t, ht⟩
    · obtain ⟨t, ht⟩ := h'.live l h2 (k - c.length) (by simp at hk; omega)
      rw [show p + c.length + (k - c.length) = p + k by omega] at ht
      exact ⟨t, ht⟩
  · rw [el]
    rcases List.mem_append.mp hi with hm | hm
    · exact (h.ways i hm).mono (by omega)
    · exact h'.ways i hm
  · rw [rngs_app]; have := h.take (by omega); have := h'.take (by omega); omega
  · rw [List.length_append]; have := h.len; have := h'.len; omega
/-- A piece of an alternative. -/
structure Pc where
  c : List In
  L : List Nat → Prop
  n : Nat
  z : Nat
def plen (ps : List Pc) : Nat := (ps.map fun x => x.c.length + 2).sum
theorem plen_cons (x : Pc) (ps : List Pc) : plen (x :: ps) = x.c.length + 2 + plen ps := by simp [plen]
theorem plen_snoc (ps : List Pc) (x : Pc) : plen (ps ++ [x]) = plen ps + (x.c.length + 2) := by simp [plen]
/-- One piece, its jump to e. -/
def seg (e q : Nat) (x : Pc) : List In := In.spl (q + 1) (q + x.c.length + 2) :: (x.c ++ [In.jmp e])
theorem seg_len (e q : Nat) (x : Pc) : (seg e q x).length = x.c.length + 2 := by simp [seg]
/-- The pieces from q on, their jumps to e (0: not laid yet). -/
def segs (e : Nat) : Nat → List Pc → List In
  | _, [] => []
  | q, x :: r => seg e q x ++ segs e (q + x.c.length + 2) r
theorem segs_len (e : Nat) : ∀ (ps : List Pc) (q : Nat), (segs e q ps).length = plen ps := by
  intro ps
  induction ps with
  | nil => intro q; rfl
  | cons x r ih => intro q; rw [segs, List.length_append, seg_len, ih, plen_cons]
theorem segs_snoc (e : Nat) (x : Pc) : ∀ (ps : List Pc) (q : Nat), segs e q (ps ++ [x]) = segs e q ps ++ seg e (q + plen ps) x := by
  intro ps
  induction ps with
  | nil => intro q; simp [segs, plen]
  | cons y r ih =>
    intro q
    rw [List.cons_append, segs, segs, ih, plen_cons, List.append_assoc]
    rw [show q + y.c.length + 2 + plen r = q + (y.c.length + 2 + plen r) by omega]
/-- All pieces are right where they stand. -/
def PcsOk (q : Nat) (ps : List Pc) : Prop := ∀ (i : Nat) x, ps[i]? = some x → Ok x.L x.n x.z (q + plen (ps.take i) + 1) x.c
theorem pcs_nil (q : Nat) : PcsOk q [] := by intro i x h; simp at h
theorem PcsOk.snoc {q : Nat} {ps : List Pc} {x : Pc} (h : PcsOk q ps) (hx : Ok x.L x.n x.z (q + plen ps + 1) x.c) : PcsOk q (ps ++ [x]) := by
  intro i y hy
  by_cases hi : i < ps.length
  · rw [List.getElem?_append_left hi] at hy
    rw [List.take_append_of_le_length (by omega)]
    exact h i y hy
  · rw [List.getElem?_append_right (by omega)] at hy
    have : i = ps.length := by have := (List.getElem?_eq_some_iff.mp hy).1; simp at this; omega
    subst this
    simp at hy; subst hy
    simpa using hx
theorem PcsOk.tail {q : Nat} {x : Pc} {r : List Pc} (h : PcsOk q (x :: r)) : Ok x.L x.n x.z (q + 1) x.c ∧ PcsOk (q + x.c.length + 2) r := by
  refine ⟨by simpa [plen] using h 0 x rfl, fun i y hy => ?_⟩
  have := h (i + 1) y (by simpa using hy)
  rw [List.take_succ_cons, plen_cons] at this
  rwa [show q + (x.c.length + 2 + plen (r.take i)) + 1 = q + x.c.length + 2 + plen (r.take i) + 1 by omega] at this
theorem Holds.at {l : List In} {p : Nat} {c : List In} (h : Holds l p c) {k : Nat} {i : In} (hk : c[k]? = some i) : l[p + k]? = some i := h k i hk
/-- Pieces, and one more behind them: what one of them says. -/
theorem Ok.alts : ∀ (ps : List Pc) (q : Nat) {L : List Nat → Prop} {n z : Nat} {c : List In}, PcsOk q ps → Ok L n z (q + plen ps) c →
    Ok (fun s => (∃ x ∈ ps, x.L s) ∨ L s) ((ps.map Pc.n).sum + n) ((ps.map fun x => x.z + 2).sum + z) q (segs (q + plen ps + c.length) q ps ++ c) := by
  intro ps
  induction ps with
  | nil =>
    intro q L n z c _ h
    have h' : Ok L n z q c := by simpa [plen] using h
    refine (h'.congr (M := fun s => (∃ x ∈ ([] : List Pc), x.L s) ∨ L s) fun s => by simp).more (by simp) (by simp)
  | cons x r ih =>
    intro q L n z c hp h
    obtain ⟨hx, hr⟩ := hp.tail
    have e1 : q + plen (x :: r) = q + x.c.length + 2 + plen r := by rw [plen_cons]; omega
    rw [e1] at h ⊢
    have hi := ih _ hr h
    generalize hE : q + x.c.length + 2 + plen r + c.length = E at hi ⊢
    generalize hR : segs E (q + x.c.length + 2) r ++ c = R at hi
    have hRl : q + x.c.length + 2 + R.length = E := by rw [← hR, List.length_append, segs_len]; omega
    have hcode : segs E q (x :: r) ++ c = In.spl (q + 1) (q + x.c.length + 2) :: (x.c ++ In.jmp E :: R) := by
      rw [segs, List.append_assoc, hR, seg]; simp
    have hlen : q + (In.spl (q + 1) (q + x.c.length + 2) :: (x.c ++ In.jmp E :: R)).length = E := by simp; omega
    rw [hcode]
    have parts : ∀ l, Holds l q (In.spl (q + 1) (q + x.c.length + 2) :: (x.c ++ In.jmp E :: R)) → l[q]? = some (In.spl (q + 1) (q + x.c.length + 2)) ∧ Holds l (q + 1) x.c ∧ l[q + 1 + x.c.length]? = some (In.jmp E) ∧ Holds l (q + x.c.length + 2) R := by
      intro l hl
      obtain ⟨a1, a2⟩ := hl.cons
      obtain ⟨b1, b2⟩ := a2.app
      obtain ⟨c1, c2⟩ := b2.cons
      rw [show q + 1 + x.c.length + 1 = q + x.c.length + 2 by omega] at c2
      exact ⟨a1, b1, c1, c2⟩
    refine ⟨fun l hl => ?_, fun l hl k hk => ?_, fun i hi' => ?_, fun h5 => ?_, ?_⟩
    · obtain ⟨a1, b1, c1, d1⟩ := parts l hl
      rw [hlen]
      have f2 := hi.frag l d1
      rw [hRl] at f2
      have f1 := hx.frag l b1
      have := Frag.alt a1 rfl rfl (by show q + x.c.length + 2 = _; omega) f1 c1 rfl rfl (by rw [show q + 1 + x.c.length + 1 = q + x.c.length + 2 by omega]; exact f2)
      refine this.congr fun s => ?_
      simp only [List.mem_cons, exists_eq_or_imp]
      exact or_assoc.symm
    · obtain ⟨a1, b1, c1, d1⟩ := parts l hl
      rw [hlen]
      have hend : ∃ t, Goes l (q + 1 + x.c.length) t E := ⟨[], .eps c1 (by simp [In.succ, In.jmp]) (.refl _)⟩
      have hmid : ∀ j, j < x.c.length → ∃ t, Goes l (q + 1 + j) t E := fun j hj => by
        obtain ⟨t, ht⟩ := hx.live l b1 j hj
        obtain ⟨t', ht'⟩ := hend
        exact ⟨t ++ t', ht.trans ht'⟩
      have hfirst : ∃ t, Goes l (q + 1) t E := by
        by_cases hc : 0 < x.c.length
        · exact hmid 0 hc
        · have : x.c.length = 0 := by omega
          rw [this] at hend; exact hend
      rcases k with _ | k
      · obtain ⟨t, ht⟩ := hfirst
        exact ⟨t, .eps a1 (show q + 1 ∈ _ by simp [In.succ, In.spl]) ht⟩
      · by_cases h1 : k < x.c.length
        · have := hmid k h1
          rwa [show q + 1 + k = q + (k + 1) by omega] at this
        · by_cases h2 : k = x.c.length
          · subst h2
            rwa [show q + 1 + x.c.length = q + (x.c.length + 1) by omega] at hend
          · obtain ⟨t, ht⟩ := hi.live l d1 (k - x.c.length - 1) (by simp at hk; omega)
            rw [hRl, show q + x.c.length + 2 + (k - x.c.length - 1) = q + (k + 1) by omega] at ht
            exact ⟨t, ht⟩
    · rw [hlen]
      rcases List.mem_cons.mp hi' with rfl | hm
      · exact way_spl (by omega) (by omega)
      · rcases List.mem_append.mp hm with hm | hm
        · exact (hx.ways i hm).mono (by omega)
        · rcases List.mem_cons.mp hm with rfl | hm
          · exact way_jmp (Nat.le_refl _)
          · have := hi.ways i hm
            rwa [hRl] at this
    · simp only [List.map_cons, List.sum_cons] at h5 ⊢
      have t1 := hx.take (by omega)
      have t2 := hi.take (by omega)
      rw [rngs_cons, rngs_app, rngs_cons]
      simp only [In.spl, In.jmp]
      simp
      omega
    · have l1 := hx.len; have l2 := hi.len
      simp only [List.map_cons, List.sum_cons, List.length_cons, List.length_append]
      omega
/-- A star. -/
theorem Ok.star {L : List Nat → Prop} {n z p : Nat} {c : List In} (h : Ok L n z (p + 1) c) : Ok (Star L) n (z + 2) p (In.spl (p + 1) (p + c.length + 2) :: (c ++ [In.jmp p])) := by
  have hlen : p + (In.spl (p + 1) (p + c.length + 2) :: (c ++ [In.jmp p])).length = p + 1 + c.length + 1 := by simp; omega
  have parts : ∀ l, Holds l p (In.spl (p + 1) (p + c.length + 2) :: (c ++ [In.jmp p])) → l[p]? = some (In.spl (p + 1) (p + c.length + 2)) ∧ Holds l (p + 1) c ∧ l[p + 1 + c.length]? = some (In.jmp p) := by
    intro l hl
    obtain ⟨a1, a2⟩ := hl.cons
    obtain ⟨b1, b2⟩ := a2.app
    exact ⟨a1, b1, b2.cons.1⟩
  refine ⟨fun l hl => ?_, fun l hl k hk => ?_, fun i hi => ?_, fun h5 => ?_, ?_⟩
  · obtain ⟨a1, b1, c1⟩ := parts l hl
    rw [hlen]
    exact Frag.star a1 rfl rfl (by show p + c.length + 2 = _; omega) (h.frag l b1) c1 rfl rfl
  · obtain ⟨a1, b1, c1⟩ := parts l hl
    rw [hlen]
    have hout : Goes l p [] (p + 1 + c.length + 1) := .eps a1 (by simp only [In.succ, In.spl]; simp; omega) (.refl _)
    have hend : Goes l (p + 1 + c.length) [] (p + 1 + c.length + 1) := .eps c1 (show p ∈ _ by simp [In.succ, In.jmp]) hout
    rcases k with _ | k
    · exact ⟨_, hout⟩
    · by_cases h1 : k < c.length
      · obtain ⟨t, ht⟩ := h.live l b1 k h1
        rw [show p + 1 + k = p + (k + 1) by omega] at ht
        exact ⟨_, ht.trans hend⟩
      · have : k = c.length := by simp at hk; omega
        subst this
        rw [show p + (c.length + 1) = p + 1 + c.length by omega]
        exact ⟨_, hend⟩
  · rw [hlen]
    rcases List.mem_cons.mp hi with rfl | hm
    · exact way_spl (by omega) (by omega)
    · rcases List.mem_append.mp hm with hm | hm
      · exact (h.ways i hm).mono (by omega)
      · simp at hm; subst hm
        exact way_jmp (by omega)
  · have := h.take h5
    rw [rngs_cons, rngs_app]
    simp [In.spl, In.jmp, rngs] at this ⊢
    omega
  · have := h.len; simp; omega
/-- The part, or nothing. -/
theorem Ok.quest {L : List Nat → Prop} {n z p : Nat} {c : List In} (h : Ok L n z (p + 1) c) : Ok (fun s => s = [] ∨ L s) n (z + 1) p (In.spl (p + 1) (p + c.length + 1) :: c) := by
  have hlen : p + (In.spl (p + 1) (p + c.length + 1) :: c).length = p + 1 + c.length := by simp; omega
  refine ⟨fun l hl => ?_, fun l hl k hk => ?_, fun i hi => ?_, fun h5 => ?_, ?_⟩
  · obtain ⟨a1, b1⟩ := hl.cons
    rw [hlen]
    exact Frag.quest a1 rfl rfl (by show p + c.length + 1 = _; omega) (h.frag l b1)
  · obtain ⟨a1, b1⟩ := hl.cons
    rw [hlen]
    rcases k with _ | k
    · exact ⟨[], .eps a1 (by simp only [In.succ, In.spl]; simp; omega) (.refl _)⟩
    · obtain ⟨t, ht⟩ := h.live l b1 k (by simp at hk; omega)
      rw [show p + 1 + k = p + (k + 1) by omega] at ht
      exact ⟨_, ht⟩
  · rw [hlen]
    rcases List.mem_cons.mp hi with rfl | hm
    · exact way_spl (by omega) (by omega)
    · exact h.ways i hm
  · have := h.take h5
    rw [rngs_cons]
    simp [In.spl]
    omega
  · have := h.len; simp; omega
/-- The part once or more. -/
theorem Ok.plus {L : List Nat → Prop} {n z p : Nat} {c : List In} (h : Ok L n z p c) : Ok (fun s => ∃ b d, s = b ++ d ∧ L b ∧ Star L d) n (z + 1) p (c ++ [In.spl p (p + c.length + 1)]) := by
  have hlen : p + (c ++ [In.spl p (p + c.length + 1)]).length = p + c.length + 1 := by simp; omega
  have parts : ∀ l, Holds l p (c ++ [In.spl p (p + c.length + 1)]) → Holds l p c ∧ l[p + c.length]? = some (In.spl p (p + c.length + 1)) := by
    intro l hl
    obtain ⟨b1, b2⟩ := hl.app
    exact ⟨b1, b2.cons.1⟩
  refine ⟨fun l hl => ?_, fun l hl k hk => ?_, fun i hi => ?_, fun h5 => ?_, ?_⟩
  · obtain ⟨b1, c1⟩ := parts l hl
    rw [hlen]
    exact Frag.plus (h.frag l b1) c1 rfl rfl rfl
  · obtain ⟨b1, c1⟩ := parts l hl
    rw [hlen]
    have hend : Goes l (p + c.length) [] (p + c.length + 1) := .eps c1 (by simp only [In.succ, In.spl]; simp) (.refl _)
    by_cases h1 : k < c.length
    · obtain ⟨t, ht⟩ := h.live l b1 k h1
      exact ⟨_, ht.trans hend⟩
    · have : k = c.length := by simp at hk; omega
      subst this
      exact ⟨_, hend⟩
  · rw [hlen]
    rcases List.mem_append.mp hi with hm | hm
    · exact (h.ways i hm).mono (by omega)
    · simp at hm; subst hm
      exact way_spl (by omega) (by omega)
  · have := h.take h5
    rw [rngs_app]
    simp [In.spl, rngs] at this ⊢
    omega
  · have := h.len; simp; omega
/-- Ranges one behind the other. -/
theorem Ok.row : ∀ (q : List (Nat × Nat)) (p : Nat), (∀ x ∈ q, x.1 ≤ x.2 ∧ x.2 < 256) →
    Ok (fun s => s.length = q.length ∧ ∀ (i : Nat) x c, q[i]? = some x → s[i]? = some c → x.1 ≤ c ∧ c ≤ x.2) q.length q.length p (q.map fun x => In.rng x.1 x.2) := by
  intro q
  induction q with
  | nil =>
    intro p _
    refine (Ok.empty p).congr fun s => ?_
    constructor
    · rintro rfl; simp
    · rintro ⟨h, _⟩; exact List.eq_nil_of_length_eq_zero h
  | cons x r ih =>
    intro p h
    have hx := h x (by simp)
    have h1 : Ok (fun s => ∃ c, s = [c] ∧ x.1 ≤ c ∧ c ≤ x.2) 1 1 p [In.rng x.1 x.2] := by
      refine ⟨fun l hl => Frag.range (hl 0 _ rfl) rfl, fun l hl k hk => ?_, fun i hi => ?_, fun _ => by simp [rngs, In.rng], by simp⟩
      · have : k = 0 := by simp at hk; exact hk
        subst this
        have hi := hl 0 _ rfl
        exact ⟨[x.1], .take (by simp only [into]; rw [hi]; simp [In.rng, hx.1]) (.refl _)⟩
      · simp at hi; subst hi
        exact way_rng (by omega) hx.2
    have h2 := h1.cat (ih (p + 1) fun y hy => h y (by simp [hy]))
    refine (h2.more (by simp; omega) (by simp; omega)).congr fun s => ?_
    constructor
    · rintro ⟨a, b, rfl, ⟨c, rfl, hc⟩, hb, hr⟩
      refine ⟨by simp [hb] <;> omega, fun i y d hy hd => ?_⟩
      cases i with
      | zero => simp at hy hd; subst hy hd; exact hc
      | succ i => simp at hy hd; exact hr i y d hy hd
    · rintro ⟨hl, hr⟩
      cases s with
      | nil => simp at hl
      | cons c t =>
        exact ⟨[c], t, rfl, ⟨c, rfl, hr 0 x c rfl rfl⟩, by simpa using hl, fun i y d hy hd => hr (i + 1) y d (by simpa using hy) (by simpa using hd)⟩
end Go.Rg
/-! Counts and order of the ranges that NewSequences gives: plain mathematics. No program in sight. -/
namespace Go.Utf
/-- A letter is in a range. -/
def covB (q : Int × Int) (x : Int) : Bool := decide (q.1 ≤ x) && decide (x ≤ q.2)
theorem covB_iff (q : Int × Int) (x : Int) : covB q x = true ↔ q.1 ≤ x ∧ x ≤ q.2 := by unfold covB; simp
/-- How many strings of bytes are within ranges. -/
def many (l : List (Int × Int)) : Int := l.foldl (fun n p => n * (p.2 - p.1 + 1)) 1
theorem many_snoc (l : List (Int × Int)) (p : Int × Int) : many (l ++ [p]) = many l * (p.2 - p.1 + 1) := by unfold many; simp
theorem step64 {a b : Int} (h : Al a b 64) : (b / 64 - a / 64 + 1) * (b % 64 - a % 64 + 1) = b - a + 1 := by
  unfold Al at h
  rcases h with h | ⟨h1, h2⟩
  · rw [h, show b / 64 - b / 64 + 1 = 1 by omega, Int.one_mul]; omega
  · rw [h1, h2, show (64 - 1 - 0 + 1 : Int) = 64 by rfl]; omega
theorem dig_le {a b : Int} (h : Al a b 64) (h1 : a ≤ b) : a % 64 ≤ b % 64 ∧ a / 64 ≤ b / 64 := by unfold Al at h; omega
theorem good_al {a b : Int} (h : Good a b) (h1 : ¬ a ≤ 127) : Al a b 64 ∧ Al a b 4096 ∧ Al a b 262144 := by
  obtain ⟨_, _, h3, _, h5⟩ := h
  rcases h5 with h5 | ⟨_, _, h7⟩
  · omega
  · exact h7
theorem good_many {a b : Int} (h : Good a b) : many (seqOf (a, b)) = b - a + 1 := by
  have hwb := good_wid h
  unfold seqOf
  rcases wid_cases a with ⟨e1, a1⟩ | ⟨e1, a1, a2⟩ | ⟨e1, a1, a2, a3⟩ | ⟨e1, a1, a2, a3⟩ <;>
    rcases wid_cases b with ⟨e2, b1⟩ | ⟨e2, b1, b2⟩ | ⟨e2, b1, b2, b3⟩ | ⟨e2, b1, b2, b3⟩ <;> (try omega)
  · rw [bytes1 a1, bytes1 b1]; simp [many]
  · obtain ⟨h1, h2, h3⟩ := good_al h a1
    rw [bytes2 a1 a2, bytes2 b1 b2]
    simp only [many, List.zip_cons_cons, List.zip_nil_right, List.foldl_cons, List.foldl_nil, Int.one_mul]
    rw [show (192 + b / 64) - (192 + a / 64) + 1 = b / 64 - a / 64 + 1 by omega, show (128 + b % 64) - (128 + a % 64) + 1 = b % 64 - a % 64 + 1 by omega, step64 h1]
  · obtain ⟨h1, h2, h3⟩ := good_al h a1
    rw [bytes3 a1 a2 a3, bytes3 b1 b2 b3]
    simp only [many, List.zip_cons_cons, List.zip_nil_right, List.foldl_cons, List.foldl_nil, Int.one_mul]
    rw [show (224 + b / 4096) - (224 + a / 4096) + 1 = b / 64 / 64 - a / 64 / 64 + 1 by omega, show (128 + b / 64 % 64) - (128 + a / 64 % 64) + 1 = b / 64 % 64 - a / 64 % 64 + 1 by omega,
      show (128 + b % 64) - (128 + a % 64) + 1 = b % 64 - a % 64 + 1 by omega, step64 (al1 h2), step64 h1]
  · obtain ⟨h1, h2, h3⟩ := good_al h a1
    rw [bytes4 a1 a2 a3, bytes4 b1 b2 b3]
    simp only [many, List.zip_cons_cons, List.zip_nil_right, List.foldl_cons, List.foldl_nil, Int.one_mul]
    rw [show (240 + b / 262144) - (240 + a / 262144) + 1 = b / 64 / 64 / 64 - a / 64 / 64 / 64 + 1 by omega, show (128 + b / 4096 % 64) - (128 + a / 4096 % 64) + 1 = b / 64 / 64 % 64 - a / 64 / 64 % 64 + 1 by omega,
      show (128 + b / 64 % 64) - (128 + a / 64 % 64) + 1 = b / 64 % 64 - a / 64 % 64 + 1 by omega,
      show (128 + b % 64) - (128 + a % 64) + 1 = b % 64 - a % 64 + 1 by omega, step64 (al2 h3), step64 (al1 h2), step64 h1]
theorem good_digits {a b : Int} (h : Good a b) : ∀ p ∈ seqOf (a, b), p.1 ≤ p.2 ∧ 0 ≤ p.1 ∧ p.2 ≤ 255 := by
  have hwb := good_wid h
  have hab := h.2.2.1
  have h0 := h.1
  have hm := h.2.1
  unfold seqOf
  rcases wid_cases a with ⟨e1, a1⟩ | ⟨e1, a1, a2⟩ | ⟨e1, a1, a2, a3⟩ | ⟨e1, a1, a2, a3⟩ <;>
    rcases wid_cases b with ⟨e2, b1⟩ | ⟨e2, b1, b2⟩ | ⟨e2, b1, b2, b3⟩ | ⟨e2, b1, b2, b3⟩ <;> (try omega)
  · rw [bytes1 a1, bytes1 b1]; simp; omega
  · obtain ⟨h1, h2, h3⟩ := good_al h a1
    have d1 := dig_le h1 hab
    rw [bytes2 a1 a2, bytes2 b1 b2]; simp; omega
  · obtain ⟨h1, h2, h3⟩ := good_al h a1
    have d1 := dig_le h1 hab
    have d2 := dig_le (al1 h2) d1.2
    rw [bytes3 a1 a2 a3, bytes3 b1 b2 b3]; simp; omega
  · obtain ⟨h1, h2, h3⟩ := good_al h a1
    have d1 := dig_le h1 hab
    have d2 := dig_le (al1 h2) d1.2
    have d3 := dig_le (al2 h3) d2.2
    rw [bytes4 a1 a2 a3, bytes4 b1 b2 b3]; simp; omega
/-- How many letters there are. -/
def btw (f t : Int) : Int := if f > t then 0 else t - f + 1 - (if max f 55296 ≤ min t 57343 then min t 57343 - max f 55296 + 1 else 0)
theorem btw_nil {f t : Int} (h0 : 0 ≤ f) (ht : t ≤ 1114111) (h : ∀ x, Let x → f ≤ x → t < x) : btw f t = 0 := by
  have h1 := h f
  have h2 := h 57344
  have h3 := h 1114111
  unfold Let at h1 h2 h3
  unfold btw
  split
  · rfl
  · split <;> omega
theorem btw_skip {f g t : Int} (h0 : 0 ≤ f) (hfg : f ≤ g) (hgt : g ≤ t) (hg : Let g) (h : ∀ x, Let x → f ≤ x → g ≤ x) : btw f t = btw g t := by
  have h1 := h f
  have h2 := h 57344
  unfold Let at h1 h2 hg
  rcases (show f = g ∨ (55296 ≤ f ∧ f ≤ 57343 ∧ g = 57344) by omega) with rfl | ⟨a1, a2, rfl⟩
  · rfl
  · unfold btw
    rw [if_neg (show ¬ f > t by omega), if_neg (show ¬ (57344 : Int) > t by omega), if_pos (show max f 55296 ≤ min t 57343 by omega), if_neg (show ¬ max (57344 : Int) 55296 ≤ min t 57343 by omega)]
    omega
theorem btw_head {a b t : Int} (hab : a ≤ b) (hbt : b ≤ t) (hs : b < 55296 ∨ 57343 < a) : btw a t = (b - a + 1) + btw (b + 1) t := by
  unfold btw
  rw [if_neg (by omega)]
  by_cases h : b + 1 > t
  · rw [if_pos h]
    split <;> omega
  · rw [if_neg h]
    split <;> split <;> omega
theorem sum_btw {hi : Int} (hhi : hi ≤ 1114111) : ∀ (l : List (Int × Int)) (p : Int), 0 ≤ p → (∀ q ∈ l, Good q.1 q.2 ∧ p ≤ q.1 ∧ q.2 ≤ hi) → l.Pairwise (fun q r => q.2 < r.1) →
    (∀ x, Let x → p ≤ x → x ≤ hi → ∃ q ∈ l, q.1 ≤ x ∧ x ≤ q.2) → (l.map fun q => q.2 - q.1 + 1).sum = btw p hi := by
  intro l
  induction l with
  | nil =>
    intro p hp _ _ h
    rw [btw_nil hp hhi fun x hx h1 => ?_]
    · rfl
    · rcases Int.lt_or_le hi x with h2 | h2
      · exact h2
      · obtain ⟨q, hq, _⟩ := h x hx h1 h2
        simp at hq
  | cons q t ih =>
    intro p hp hq hpw h
    obtain ⟨hg, h1, h2⟩ := hq q (by simp)
    obtain ⟨p1, p2⟩ := List.pairwise_cons.1 hpw
    have hab := hg.2.2.1
    have hla : Let q.1 := by unfold Good at hg; unfold Let; omega
    have hlow : ∀ x, Let x → p ≤ x → q.1 ≤ x := by
      intro x hx hpx
      rcases Int.lt_or_le x q.1 with h3 | h3
      · obtain ⟨r, hr, h4, h5⟩ := h x hx hpx (by omega)
        rcases List.mem_cons.1 hr with rfl | hr
        · omega
        · have := p1 r hr; omega
      · exact h3
    rw [btw_skip hp h1 (by omega) hla hlow, btw_head hab h2 hg.2.2.2.1, List.map_cons, List.sum_cons]
    congr 1
    refine ih (q.2 + 1) (by have := hg.1; omega) (fun r hr => ⟨(hq r (by simp [hr])).1, by have := p1 r hr; omega, (hq r (by simp [hr])).2.2⟩) p2 fun x hx h3 h4 => ?_
    obtain ⟨r, hr, h5, h6⟩ := h x hx (by omega) h4
    rcases List.mem_cons.1 hr with rfl | hr
    · omega
    · exact ⟨r, hr, h5, h6⟩
theorem done_sum {lo hi : Int} {out : List (Int × Int)} (h : Done lo hi out) (h0 : 0 ≤ lo) (h1 : hi ≤ 1114111) : (out.map fun q => q.2 - q.1 + 1).sum = btw lo hi :=
  sum_btw h1 out lo h0 h.good h.rise h.all
theorem btw_le {f t : Int} (h0 : 0 ≤ f) (h1 : t ≤ 1114111) : 0 ≤ btw f t ∧ btw f t ≤ 1114112 := by
  unfold btw
  split
  · omega
  · split <;> omega
theorem sum_take {l : List Int} (h : ∀ x ∈ l, 0 ≤ x) (k : Nat) : 0 ≤ (l.take k).sum ∧ (l.take k).sum ≤ l.sum := by
  induction l generalizing k with
  | nil => simp
  | cons c r ih =>
    cases k with
    | zero =>
      have := ih (fun x hx => h x (by simp [hx])) r.length
      rw [List.take_length] at this
      have hc := h c (by simp)
      simp; omega
    | succ k =>
      have := ih (fun x hx => h x (by simp [hx])) k
      have hc := h c (by simp)
      simp; omega
theorem done_covB {lo hi x : Int} {out : List (Int × Int)} (h : Done lo hi out) (hx : Let x) : (0 < (out.filter fun q => covB q x).length) ↔ (lo ≤ x ∧ x ≤ hi) := by
  rw [List.length_pos_iff_exists_mem]
  constructor
  · rintro ⟨q, hq⟩
    obtain ⟨h1, h2⟩ := List.mem_filter.1 hq
    have := (covB_iff q x).1 h2
    have := (h.good q h1).2
    omega
  · rintro ⟨h1, h2⟩
    obtain ⟨q, hq, h3⟩ := h.all x hx h1 h2
    exact ⟨q, List.mem_filter.2 ⟨hq, (covB_iff q x).2 h3⟩⟩
/-- The order of bytes. -/
def lessI : List Int → List Int → Bool
  | _, [] => false
  | [], _ :: _ => true
  | a :: s, b :: t => if a = b then lessI s t else decide (a < b)
theorem less1 {x y : Int} : lessI [x] [y] = decide (x < y) := by simp [lessI]; omega
theorem less_cons_lt {a b : Int} {s t : List Int} (h : a < b) : lessI (a :: s) (b :: t) = true := by simp only [lessI]; rw [if_neg (by omega)]; simp [h]
theorem less_cons_eq {a b : Int} {s t : List Int} (h : a = b) : lessI (a :: s) (b :: t) = lessI s t := by simp only [lessI]; rw [if_pos h]
theorem ubytes_less {x y : Int} (h0 : 0 ≤ x) (h : x < y) : lessI (ubytes x) (ubytes y) = true := by
  rcases wid_cases x with ⟨_, a1⟩ | ⟨_, a1, a2⟩ | ⟨_, a1, a2, a3⟩ | ⟨_, a1, a2, a3⟩ <;>
    rcases wid_cases y with ⟨_, b1⟩ | ⟨_, b1, b2⟩ | ⟨_, b1, b2, b3⟩ | ⟨_, b1, b2, b3⟩ <;> (try omega)
  · rw [bytes1 a1, bytes1 b1, less1]; simpa using h
  · rw [bytes1 a1, bytes2 b1 b2]; exact less_cons_lt (by omega)
  · rw [bytes1 a1, bytes3 b1 b2 b3]; exact less_cons_lt (by omega)
  · rw [bytes1 a1, bytes4 b1 b2 b3]; exact less_cons_lt (by omega)
  · rw [bytes2 a1 a2, bytes2 b1 b2]
    rcases (show x / 64 < y / 64 ∨ x / 64 = y / 64 by omega) with h1 | h1
    · exact less_cons_lt (by omega)
    · rw [less_cons_eq (by omega)]; exact less_cons_lt (by omega)
  · rw [bytes2 a1 a2, bytes3 b1 b2 b3]; exact less_cons_lt (by omega)
  · rw [bytes2 a1 a2, bytes4 b1 b2 b3]; exact less_cons_lt (by omega)
  · rw [bytes3 a1 a2 a3, bytes3 b1 b2 b3]
    rcases (show x / 4096 < y / 4096 ∨ x / 4096 = y / 4096 by omega) with h1 | h1
    · exact less_cons_lt (by omega)
    · rw [less_cons_eq (by omega)]
      rcases (show x / 64 % 64 < y / 64 % 64 ∨ x / 64 % 64 = y / 64 % 64 by omega) with h2 | h2
      · exact less_cons_lt (by omega)
      · rw [less_cons_eq (by omega)]; exact less_cons_lt (by omega)
  · rw [bytes3 a1 a2 a3, bytes4 b1 b2 b3]; exact less_cons_lt (by omega)
  · rw [bytes4 a1 a2 a3, bytes4 b1 b2 b3]
    rcases (show x / 262144 < y / 262144 ∨ x / 262144 = y / 262144 by omega) with h1 | h1
    · exact less_cons_lt (by omega)
    · rw [less_cons_eq (by omega)]
      rcases (show x / 4096 % 64 < y / 4096 % 64 ∨ x / 4096 % 64 = y / 4096 % 64 by omega) with h2 | h2
      · exact less_cons_lt (by omega)
      · rw [less_cons_eq (by omega)]
        rcases (show x / 64 % 64 < y / 64 % 64 ∨ x / 64 % 64 = y / 64 % 64 by omega) with h3 | h3
        · exact less_cons_lt (by omega)
        · rw [less_cons_eq (by omega)]; exact less_cons_lt (by omega)
theorem zip_fst {α β : Type} : ∀ (l : List α) (m : List β), l.length = m.length → (l.zip m).map (·.1) = l := by
  intro l
  induction l with
  | nil => intro m _; simp
  | cons a r ih => intro m h; cases m with
    | nil => simp at h
    | cons b t => simp at h; simp [ih t h]
theorem zip_snd {α β : Type} : ∀ (l : List α) (m : List β), l.length = m.length → (l.zip m).map (·.2) = m := by
  intro l
  induction l with
  | nil => intro m h; cases m <;> simp_all
  | cons a r ih => intro m h; cases m with
    | nil => simp at h
    | cons b t => simp at h; simp [ih t h]
theorem seqOf_fst {a b : Int} (h : Good a b) : (seqOf (a, b)).map (·.1) = ubytes a := zip_fst _ _ (by rw [wid_len, wid_len, good_wid h])
theorem seqOf_snd {a b : Int} (h : Good a b) : (seqOf (a, b)).map (·.2) = ubytes b := zip_snd _ _ (by rw [wid_len, wid_len, good_wid h])
end Go.Utf
/-! Ranges of letters as codes: plain. -/
namespace Go.Rg
open Go.Utf
set_option linter.unusedVariables false
/-- The bytes of a letter. -/
def ub (x : Int) : List Nat := (ubytes x).map Int.toNat
theorem ub_len (x : Int) : (ub x).length = wid x := by simp [ub, wid_len]
/-- The letters of a range, as bytes. -/
def Rng (a b : Int) (s : List Nat) : Prop := ∃ x, Let x ∧ a ≤ x ∧ x ≤ b ∧ s = ub x
def seqN (q : Int × Int) : List (Nat × Nat) := (seqOf q).map fun x => (x.1.toNat, x.2.toNat)
def seqIns (q : Int × Int) : List In := (seqN q).map fun x => In.rng x.1 x.2
theorem seqIns_len {q : Int × Int} (h : Utf.Good q.1 q.2) : (seqIns q).length = wid q.1 := by simp only [seqIns, seqN, List.length_map]; exact seqOf_len h
/-- What the bytes of a good range say. -/
theorem good_letter {a b : Int} (h : Utf.Good a b) (s : List Int) : covers (seqOf (a, b)) s → ∃ x, a ≤ x ∧ x ≤ b ∧ s = ubytes x := by
  intro hc
  have hw := good_wid h
  have hl : s.length = wid a := by rw [← hc.1]; exact seqOf_len h
  have hal : ¬ a ≤ 127 → Al a b 64 ∧ Al a b 4096 ∧ Al a b 262144 := good_al h
  have h0 : 0 ≤ a := h.1
  unfold seqOf at hc
  rcases wid_cases a with ⟨e1, a1⟩ | ⟨e1, a1, a2⟩ | ⟨e1, a1, a2, a3⟩ | ⟨e1, a1, a2, a3⟩ <;>
    rcases wid_cases b with ⟨e2, b1⟩ | ⟨e2, b1, b2⟩ | ⟨e2, b1, b2, b3⟩ | ⟨e2, b1, b2, b3⟩ <;> (try omega)
  · rw [e1] at hl
    match s, hl with
    | [c], _ =>
      rw [bytes1 a1, bytes1 b1, cov1] at hc
      exact ⟨c, hc.1, hc.2, by rw [bytes1 (by omega)]⟩
  · rw [e1] at hl
    match s, hl with
    | [c, d], _ =>
      rw [bytes2 a1 a2, bytes2 b1 b2, covers2] at hc
      obtain ⟨⟨h1, h2⟩, h3, h4⟩ := hc
      have hx : a ≤ (c - 192) * 64 + (d - 128) ∧ (c - 192) * 64 + (d - 128) ≤ b := by
        rw [dig (hal a1).1]; omega
      refine ⟨(c - 192) * 64 + (d - 128), hx.1, hx.2, ?_⟩
      rw [bytes2 (by omega) (by omega)]
      have : 192 + ((c - 192) * 64 + (d - 128)) / 64 = c := by omega
      have : 128 + ((c - 192) * 64 + (d - 128)) % 64 = d := by omega
      simp only [*]
  · rw [e1] at hl
    match s, hl with
    | [c, d, e], _ =>
      rw [bytes3 a1 a2 a3, bytes3 b1 b2 b3, covers3] at hc
      obtain ⟨⟨h1, h2⟩, ⟨h3, h4⟩, h5, h6⟩ := hc
      obtain ⟨x, hx⟩ : ∃ x, x = (c - 224) * 4096 + (d - 128) * 64 + (e - 128) := ⟨_, rfl⟩
      have q1 : x / 64 % 64 = d - 128 := by omega
      have q2 : x / 64 / 64 = c - 224 := by omega
      have q3 : x % 64 = e - 128 := by omega
      have hx' : a ≤ x ∧ x ≤ b := by
        rw [dig (hal a1).1, dig (al1 (hal a1).2.1), q1, q2, q3, dd, dd]; omega
      refine ⟨x, hx'.1, hx'.2, ?_⟩
      rw [bytes3 (by omega) (by omega) (by omega), q1, q3, ← dd, q2]
      have : 224 + (c - 224) = c := by omega
      have : 128 + (d - 128) = d := by omega
      have : 128 + (e - 128) = e := by omega
      simp only [*]
  · rw [e1] at hl
    match s, hl with
    | [c, d, e, f], _ =>
      rw [bytes4 a1 a2 a3, bytes4 b1 b2 b3, covers4] at hc
      obtain ⟨⟨h1, h2⟩, ⟨h3, h4⟩, ⟨h5, h6⟩, h7, h8⟩ := hc
      obtain ⟨x, hx⟩ : ∃ x, x = (c - 240) * 262144 + (d - 128) * 4096 + (e - 128) * 64 + (f - 128) := ⟨_, rfl⟩
      have q0 : x % 64 = f - 128 := by omega
      have q1 : x / 64 % 64 = e - 128 := by omega
      have q2 : x / 64 / 64 % 64 = d - 128 := by omega
      have q3 : x / 64 / 64 / 64 = c - 240 := by omega
      have hx' : a ≤ x ∧ x ≤ b := by
        rw [dig (hal a1).1, dig (al1 (hal a1).2.1), dig (al2 (hal a1).2.2), q0, q1, q2, q3, ddd, ddd, dd, dd]; omega
      refine ⟨x, hx'.1, hx'.2, ?_⟩
      rw [bytes4 (by omega) (by omega) (by omega), q1, q0, ← dd, q2, ← ddd, q3]
      have : 240 + (c - 240) = c := by omega
      have : 128 + (d - 128) = d := by omega
      have : 128 + (e - 128) = e := by omega
      have : 128 + (f - 128) = f := by omega
      simp only [*]
theorem good_let {a b x : Int} (h : Utf.Good a b) (h1 : a ≤ x) (h2 : x ≤ b) : Let x := by unfold Utf.Good at h; unfold Let; omega
/-- One sequence, as a code. -/
theorem Ok.seq {q : Int × Int} (h : Utf.Good q.1 q.2) (p : Nat) : Ok (Rng q.1 q.2) (wid q.1) (wid q.1) p (seqIns q) := by
  have hd := good_digits h
  have hl : (seqN q).length = wid q.1 := by simp only [seqN, List.length_map]; exact seqOf_len h
  have hr := Ok.row (seqN q) p (fun x hx => by
    obtain ⟨y, hy, rfl⟩ := List.mem_map.mp hx
    have := hd y hy
    simp only
    omega)
  rw [hl] at hr
  refine hr.congr fun s => ?_
  constructor
  · rintro ⟨h1, h2⟩
    have hc : covers (seqOf (q.1, q.2)) (s.map (fun c : Nat => (c : Int))) := by
      refine ⟨by rw [List.length_map, h1]; exact seqOf_len h, fun i x y hx hy => ?_⟩
      simp only [List.getElem?_map, Option.map_eq_some_iff] at hy
      obtain ⟨c, hc, rfl⟩ := hy
      have hx' : (seqN q)[i]? = some (x.1.toNat, x.2.toNat) := by simp only [seqN, List.getElem?_map]; rw [show seqOf q = seqOf (q.1, q.2) from rfl, hx]; rfl
      have := h2 i _ c hx' hc
      have := hd x (List.mem_of_getElem? hx)
      simp only at *
      omega
    obtain ⟨x, a1, a2, a3⟩ := good_letter h _ hc
    refine ⟨x, good_let h a1 a2, a1, a2, ?_⟩
    rw [ub, ← a3, List.map_map]
    simp [Function.comp_def]
  · rintro ⟨x, hx, a1, a2, rfl⟩
    have hc := (good_covers h (x := x)).mpr ⟨a1, a2⟩
    refine ⟨by rw [ub_len, ← wid_len, ← hc.1]; exact (seqOf_len h), fun i y c hy hc' => ?_⟩
    simp only [seqN, List.getElem?_map, Option.map_eq_some_iff] at hy
    obtain ⟨z, hz, rfl⟩ := hy
    simp only [ub, List.getElem?_map, Option.map_eq_some_iff] at hc'
    obtain ⟨v, hv, rfl⟩ := hc'
    have := hc.2 i z v hz hv
    simp only
    omega
theorem wid_le4 (x : Int) : 1 ≤ wid x ∧ wid x ≤ 4 := by
  rcases wid_cases x with ⟨h, _⟩ | ⟨h, _⟩ | ⟨h, _⟩ | ⟨h, _⟩ <;> omega
/-- How long a range is, how many bytes it takes, at most. -/
def rngN (b : Int) : Nat := if b ≤ 127 then 1 else 31
def rngZ (b : Int) : Nat := if b ≤ 127 then 1 else 360
def seqPc (q : Int × Int) : Pc := ⟨seqIns q, Rng q.1 q.2, wid q.1, wid q.1⟩
theorem pcs_seq {out : List (Int × Int)} (h : ∀ q ∈ out, Utf.Good q.1 q.2) (p : Nat) : PcsOk p (out.map seqPc) := by
  intro i x hx
  simp only [List.getElem?_map, Option.map_eq_some_iff] at hx
  obtain ⟨q, hq, rfl⟩ := hx
  exact Ok.seq (h q (List.mem_of_getElem? hq)) _
/-- All sequences of a range. -/
theorem Ok.range {a b : Int} {out : List (Int × Int)} {q : Int × Int} (h : Done a b (out ++ [q])) (hasc : b ≤ 127 → out = []) (hlen : out.length ≤ 59) (p : Nat) :
    Ok (Rng a b) (rngN b) (rngZ b) p (segs (p + plen (out.map seqPc) + (seqIns q).length) p (out.map seqPc) ++ seqIns q) := by
  have hg := h.good
  have hq := (hg q (by simp)).1
  have h1 := Ok.alts (out.map seqPc) p (pcs_seq (fun r hr => (hg r (by simp [hr])).1) p) (Ok.seq hq _)
  have h2 := h1.congr (M := Rng a b) fun s => by
    constructor
    · rintro (⟨x, hx, hs⟩ | ⟨x, k1, k2, k3, rfl⟩)
      · obtain ⟨r, hr, rfl⟩ := List.mem_map.mp hx
        obtain ⟨x, k1, k2, k3, rfl⟩ := hs
        have := hg r (by simp [hr])
        exact ⟨x, k1, by have := this.2.1; omega, by have := this.2.2; omega, rfl⟩
      · have := hg q (by simp)
        exact ⟨x, k1, by omega, by omega, rfl⟩
    · rintro ⟨x, k1, k2, k3, rfl⟩
      obtain ⟨r, hr, k4, k5⟩ := h.all x k1 k2 k3
      rcases List.mem_append.mp hr with hr | hr
      · exact Or.inl ⟨seqPc r, List.mem_map.mpr ⟨r, hr, rfl⟩, ⟨x, k1, k4, k5, rfl⟩⟩
      · simp at hr; subst hr
        exact Or.inr ⟨x, k1, k4, k5, rfl⟩
  by_cases hb : b ≤ 127
  · obtain rfl := hasc hb
    refine h2.more ?_ ?_
    · have := (hg q (by simp)).2.2
      simp [rngN, hb, wid1 (show q.1 ≤ 127 by have := hq.2.2.1; omega)]
    · have := (hg q (by simp)).2.2
      simp [rngZ, hb, wid1 (show q.1 ≤ 127 by have := hq.2.2.1; omega)]
  · have h3 := h2.more (n' := ((out.map seqPc).map Pc.n).sum + wid q.1) (z' := rngZ b) (Nat.le_refl _) (by
      have hs : ∀ l : List (Int × Int), (((l.map seqPc).map fun x => x.z + 2).sum) ≤ l.length * 6 := by
        intro l
        induction l with
        | nil => simp
        | cons x r ih =>
          simp only [List.map_cons, List.sum_cons, List.length_cons]
          have : (seqPc x).z ≤ 4 := (wid_le4 x.1).2
          omega
      have := hs out
      have := (wid_le4 q.1).2
      simp only [rngZ, if_neg hb]
      omega)
    exact ⟨h3.frag, h3.live, h3.ways, fun h5 => by simp [rngN, hb] at h5, h3.len⟩
/-! ### Repeats -/
def olen (cs : List (List In)) : Nat := (cs.map fun c => c.length + 1).sum
theorem olen_cons (c : List In) (cs : List (List In)) : olen (c :: cs) = c.length + 1 + olen cs := by simp [olen]
theorem olen_snoc (cs : List (List In)) (c : List In) : olen (cs ++ [c]) = olen cs + (c.length + 1) := by simp [olen]
/-- Parts, each of which may be left out with all behind it; e: the end. -/
def opts (f : Nat → In) : Nat → List (List In) → List In
  | _, [] => []
  | q, c :: r => f q :: (c ++ opts f (q + 1 + c.length) r)
theorem opts_len (f : Nat → In) : ∀ (cs : List (List In)) (q : Nat), (opts f q cs).length = olen cs := by
  intro cs
  induction cs with
  | nil => intro q; rfl
  | cons c r ih => intro q; simp only [opts, List.length_cons, List.length_append, ih, olen_cons]; omega
theorem opts_snoc (f : Nat → In) (c : List In) : ∀ (cs : List (List In)) (q : Nat), opts f q (cs ++ [c]) = opts f q cs ++ f (q + olen cs) :: c := by
  intro cs
  induction cs with
  | nil => intro q; simp [opts, olen]
  | cons y r ih =>
    intro q
    rw [List.cons_append, opts, opts, ih, olen_cons]
    rw [show q + 1 + y.length + olen r = q + (y.length + 1 + olen r) by omega]
    simp
def Opt (L : List Nat → Prop) : Nat → List Nat → Prop
  | 0, s => s = []
  | k + 1, s => s = [] ∨ ∃ a b, s = a ++ b ∧ L a ∧ Opt L k b
def Pow (L : List Nat → Prop) : Nat → List Nat → Prop
  | 0, s => s = []
  | k + 1, s => ∃ a b, s = a ++ b ∧ Pow L k a ∧ L b
def CsOk (L : List Nat → Prop) (n z q : Nat) (cs : List (List In)) : Prop := ∀ (i : Nat) c, cs[i]? = some c → Ok L n z (q + olen (cs.take i) + 1) c
theorem csOk_nil (L : List Nat → Prop) (n z q : Nat) : CsOk L n z q [] := by intro i c h; simp at h
theorem CsOk.snoc {L : List Nat → Prop} {n z q : Nat} {cs : List (List In)} {c : List In} (h : CsOk L n z q cs) (hc : Ok L n z (q + olen cs + 1) c) : CsOk L n z q (cs ++ [c]) := by
  intro i y hy
  by_cases hi : i < cs.length
  · rw [List.getElem?_append_left hi] at hy
    rw [List.take_append_of_le_length (by omega)]
    exact h i y hy
  · rw [List.getElem?_append_right (by omega)] at hy
    have : i = cs.length := by have := (List.getElem?_eq_some_iff.mp hy).1; simp at this; omega
    subst this
    simp at hy; subst hy
    simpa using hc
theorem Ok.opts (L : List Nat → Prop) (n z : Nat) : ∀ (cs : List (List In)) (q : Nat), CsOk L n z q cs → Ok (Opt L cs.length) (cs.length * n) (cs.length * (z + 1)) q (Rg.opts (fun k => In.spl (k + 1) (q + olen cs)) q cs) := by
  intro cs
  induction cs with
  | nil => intro q _; exact (Ok.empty q).more (Nat.zero_le _) (Nat.zero_le _)
  | cons c r ih =>
    intro q h
    have h0 : Ok L n z (q + 1) c := by simpa [olen] using h 0 c rfl
    have hr : CsOk L n z (q + 1 + c.length) r := fun i y hy => by
      have := h (i + 1) y (by simpa using hy)
      rw [List.take_succ_cons, olen_cons] at this
      rwa [show q + (c.length + 1 + olen (r.take i)) + 1 = q + 1 + c.length + olen (r.take i) + 1 by omega] at this
    have h1 := ih _ hr
    have h2 := (h0.cat h1).quest
    rw [List.length_append, opts_len] at h2
    rw [olen_cons, Rg.opts]
    rw [show q + (c.length + olen r) + 1 = q + (c.length + 1 + olen r) by omega, show q + 1 + c.length + olen r = q + (c.length + 1 + olen r) by omega] at h2
    refine (h2.more ?_ ?_).congr fun s => Iff.rfl
    · simp only [List.length_cons, Nat.add_mul, Nat.one_mul]; omega
    · simp only [List.length_cons, Nat.add_mul, Nat.mul_add, Nat.one_mul, Nat.mul_one]; omega
/-- The code of a range: its sequences, one behind the other, parted by splits. -/
def RngC (a b : Int) (p : Nat) (c : List In) : Prop := ∃ (init : List (Int × Int)) (q : Int × Int), Done a b (init ++ [q]) ∧ c = segs (p + plen (init.map seqPc) + (seqIns q).length) p (init.map seqPc) ++ seqIns q
end Go.Rg
/-! Expressions as trees: their words, their codes: plain. -/
namespace Go.Rg
open Go.Utf
set_option linter.unusedVariables false
inductive Tr
  | mk (op : Nat) (lazy fold : Bool) (runes : List Int) (mn mx : Int) (subs : List Tr)
namespace Tr
def op : Tr → Nat | mk o _ _ _ _ _ _ => o
def lazy : Tr → Bool | mk _ l _ _ _ _ _ => l
def fold : Tr → Bool | mk _ _ f _ _ _ _ => f
def runes : Tr → List Int | mk _ _ _ r _ _ _ => r
def mn : Tr → Int | mk _ _ _ _ m _ _ => m
def mx : Tr → Int | mk _ _ _ _ _ m _ => m
def subs : Tr → List Tr | mk _ _ _ _ _ _ s => s
end Tr
def Tr.zero : Tr := .mk 2 false false [] 0 0 []
def Tr.sub (t : Tr) : Tr := t.subs.headD Tr.zero
/-- The pairs of a class. -/
def prs : List Int → List (Int × Int)
  | a :: b :: r => (a, b) :: prs r
  | _ => []
def rsOf (t : Tr) : List Int := if t.op = 6 then [0, 1114111] else if t.op = 5 then [0, 9, 11, 1114111] else t.runes
def Cls (rs : List Int) (s : List Nat) : Prop := ∃ q ∈ prs rs, Rng q.1 q.2 s
def word (rs : List Int) : List Nat := rs.flatMap ub
def CatL : List (List Nat → Prop) → List Nat → Prop
  | [], s => s = []
  | L :: r, s => ∃ a b, s = a ++ b ∧ L a ∧ CatL r b
/-- The words of an expression. -/
def lang : Nat → Tr → List Nat → Prop
  | 0, _ => fun _ => False
  | d + 1, t => fun s =>
    if t.op = 2 then s = [] else if t.op = 3 then s = word t.runes else if t.op = 4 ∨ t.op = 5 ∨ t.op = 6 then Cls (rsOf t) s
    else if t.op = 13 then lang d t.sub s else if t.op = 14 then Star (lang d t.sub) s
    else if t.op = 15 then ∃ b c, s = b ++ c ∧ lang d t.sub b ∧ Star (lang d t.sub) c
    else if t.op = 16 then s = [] ∨ lang d t.sub s
    else if t.op = 17 then ∃ b c, s = b ++ c ∧ Pow (lang d t.sub) t.mn.toNat b ∧ (if t.mx = -1 then Star (lang d t.sub) c else Opt (lang d t.sub) (t.mx - t.mn).toNat c)
    else if t.op = 18 then CatL (t.subs.map (lang d)) s
    else ∃ L ∈ t.subs.map (lang d), L s
/-- How many places of bytes, as the spec counts them. -/
def places : Nat → Tr → Nat
  | 0, _ => 0
  | d + 1, t =>
    if t.op = 2 then 0 else if t.op = 3 then (t.runes.map wid).sum else if t.op = 4 ∨ t.op = 5 ∨ t.op = 6 then ((prs (rsOf t)).map fun q => rngN q.2).sum
    else let n := (t.subs.map (places d)).sum
      if t.op = 17 then n * ((max t.mn t.mx).toNat + 1) else if t.op = 15 then n * 2 else n
/-- How many instructions, at most. -/
def size : Nat → Tr → Nat
  | 0, _ => 0
  | d + 1, t =>
    if t.op = 2 then 0 else if t.op = 3 then (t.runes.map wid).sum else if t.op = 4 ∨ t.op = 5 ∨ t.op = 6 then ((prs (rsOf t)).map fun q => rngZ q.2 + 2).sum
    else if t.op = 13 then size d t.sub else if t.op = 14 then size d t.sub + 2 else if t.op = 15 ∨ t.op = 16 then size d t.sub + 1
    else if t.op = 17 then (if t.mx = -1 then (t.mn.toNat + 1) * size d t.sub + 2 else t.mx.toNat * (size d t.sub + 1))
    else if t.op = 18 then (t.subs.map (size d)).sum
    else (t.subs.map fun x => size d x + 2).sum
/-- What is wrong with an expression, the first thing that is come to. -/
def bad : Nat → Tr → Option Nat
  | 0, _ => none
  | d + 1, t =>
    if t.lazy then some 1 else if 7 ≤ t.op ∧ t.op ≤ 10 then some 2 else if t.op = 11 ∨ t.op = 12 then some 3
    else if t.op < 13 then none
    else if t.op ≤ 17 then bad d t.sub
    else (t.subs.map (bad d)).findSome? id
/-- Expressions as the statements make them. -/
def WF : Nat → Tr → Prop
  | 0, _ => False
  | d + 1, t => t.fold = false ∧ 2 ≤ t.op ∧ t.op ≤ 19 ∧ (t.op = 3 → ∀ r ∈ t.runes, Let r) ∧
      (t.op = 4 → t.runes ≠ [] ∧ (∃ k, t.runes.length = 2 * k ∧ k ≤ 30) ∧ ∀ q ∈ prs t.runes, Let q.1 ∧ Let q.2 ∧ q.1 ≤ q.2) ∧
      (13 ≤ t.op → t.op ≤ 17 → ∃ x, t.subs = [x] ∧ WF d x) ∧
      (t.op = 17 → 0 ≤ t.mn ∧ t.mn ≤ 1000 ∧ t.mx ≤ 1000 ∧ (t.mx = -1 ∨ (1 ≤ t.mx ∧ t.mn ≤ t.mx))) ∧
      (18 ≤ t.op → t.subs ≠ [] ∧ (∀ x ∈ t.subs, WF d x) ∧ t.subs.length ≤ 100)
/-- What compile may answer. -/
inductive Res (d : Nat) (t : Tr) (p : Nat) : Option Nat → List In → Prop
  | ok {c : List In} : bad d t = none → Ok (lang d t) (places d t) (size d t) p c → Res d t p none c
  | bad {k : Nat} {c : List In} : bad d t = some k → Res d t p (some k) c
  | big {c : List In} : 262144 < p + size d t → Res d t p (some 4) c
theorem Ok.pow {L : List Nat → Prop} {n z p k : Nat} {c d : List In} (h : Ok (Pow L k) (k * n) (k * z) p c) (h' : Ok L n z (p + c.length) d) : Ok (Pow L (k + 1)) ((k + 1) * n) ((k + 1) * z) p (c ++ d) :=
  ((h.cat h').more (by rw [Nat.add_mul]; omega) (by rw [Nat.add_mul]; omega)).congr fun s => Iff.rfl
/-- The words of parts, one behind the other; grown at the end. -/
theorem catL_snoc (L : List Nat → Prop) : ∀ (l : List (List Nat → Prop)) (s : List Nat), CatL (l ++ [L]) s ↔ ∃ a b, s = a ++ b ∧ CatL l a ∧ L b := by
  intro l
  induction l with
  | nil =>
    intro s
    constructor
    · rintro ⟨a, b, rfl, ha, rfl⟩; exact ⟨[], a, by simp, rfl, ha⟩
    · rintro ⟨a, b, rfl, rfl, hb⟩; exact ⟨b, [], by simp, hb, rfl⟩
  | cons M r ih =>
    intro s
    constructor
    · rintro ⟨a, b, rfl, ha, hb⟩
      obtain ⟨c, e, rfl, hc, he⟩ := (ih b).mp hb
      exact ⟨a ++ c, e, by simp, ⟨a, c, rfl, ha, hc⟩, he⟩
    · rintro ⟨a, b, rfl, ⟨c, e, rfl, hc, he⟩, hb⟩
      exact ⟨c, e ++ b, by simp, hc, (ih _).mpr ⟨e, b, rfl, he, hb⟩⟩
/-- A literal's letters. -/
theorem word_snoc (l : List Int) (x : Int) : word (l ++ [x]) = word l ++ ub x := by simp [word]
theorem done_one {r : Int} (hr : Let r) {out : List (Int × Int)} (h : Done r r out) : out = [(r, r)] := by
  obtain ⟨q, hq, h1, h2⟩ := h.all r hr (Int.le_refl _) (Int.le_refl _)
  have he : ∀ x ∈ out, x = (r, r) := fun x hx => by
    obtain ⟨g, a, b⟩ := h.good x hx
    have := g.2.2.1
    exact Prod.ext (by show x.1 = r; omega) (by show x.2 = r; omega)
  match out, h.rise with
  | [], _ => simp at hq
  | [x], _ => rw [he x (by simp)]
  | x :: y :: t, hp =>
    have h1 := (List.pairwise_cons.mp hp).1 y (by simp)
    rw [he x (by simp), he y (by simp)] at h1
    simp at h1
theorem let_good {r : Int} (h : Let r) : Utf.Good r r := by
  unfold Let at h; unfold Utf.Good Al
  omega
theorem Ok.one {r : Int} (h : Let r) (p : Nat) : Ok (fun s => s = ub r) (wid r) (wid r) p (seqIns (r, r)) := by
  refine (Ok.seq (q := (r, r)) (let_good h) p).congr fun s => ?_
  constructor
  · rintro ⟨x, _, a, b, rfl⟩
    have : x = r := by simp only at a b; omega
    rw [this]
  · rintro rfl; exact ⟨r, h, Int.le_refl _, Int.le_refl _, rfl⟩
theorem Ok.word {l : List Int} {x : Int} {p : Nat} {c : List In} (h : Ok (fun s => s = word l) ((l.map wid).sum) ((l.map wid).sum) p c) (hx : Let x) :
    Ok (fun s => s = word (l ++ [x])) (((l ++ [x]).map wid).sum) (((l ++ [x]).map wid).sum) p (c ++ seqIns (x, x)) := by
  refine ((h.cat (Ok.one hx _)).congr fun s => ?_).more (by simp) (by simp)
  rw [word_snoc]
  constructor
  · rintro ⟨a, b, rfl, rfl, rfl⟩; rfl
  · rintro rfl; exact ⟨_, _, rfl, rfl, rfl⟩
/-! ### The whole program: the code and a match behind it -/
theorem Ok.sound {L : List Nat → Prop} {n z : Nat} {c : List In} (h : Ok L n z 0 c) : Sound (c ++ [In.fin]) := by
  intro k i hi
  have hl : (c ++ [In.fin]).length = c.length + 1 := by simp
  by_cases hk : k < c.length
  · rw [List.getElem?_append_left hk] at hi
    have := h.ways i (List.mem_of_getElem? hi)
    exact ⟨fun e => by have := this.to_ e; omega, fun e => by have := this.ab e; omega, fun _ => by omega, this.o3⟩
  · rw [List.getElem?_append_right (by omega)] at hi
    have : i = In.fin := by
      have := List.mem_of_getElem? hi
      simpa using this
    subst this
    exact ⟨fun e => by simp [In.fin] at e, fun e => by simp [In.fin] at e, fun e => by simp [In.fin] at e, by decide⟩
theorem fin_at (c : List In) : (c ++ [In.fin])[c.length]? = some In.fin := by simp
theorem Ok.match_at {L : List Nat → Prop} {n z : Nat} {c : List In} (h : Ok L n z 0 c) (m : Nat) : matchAt (c ++ [In.fin]) m = true ↔ m = c.length := by
  constructor
  · intro hm
    unfold matchAt at hm
    cases e : (c ++ [In.fin])[m]? with
    | none => rw [e] at hm; cases hm
    | some i =>
      rw [e] at hm
      simp at hm
      by_cases hk : m < c.length
      · rw [List.getElem?_append_left hk] at e
        exact absurd hm (h.ways i (List.mem_of_getElem? e)).o0
      · have := (List.getElem?_eq_some_iff.mp e).1
        simp at this; omega
  · rintro rfl
    unfold matchAt; rw [fin_at]; rfl
theorem hold_all (c : List In) : Holds (c ++ [In.fin]) 0 c := by
  have := holds_self [] c [In.fin]
  simpa using this
theorem Ok.goes {L : List Nat → Prop} {n z : Nat} {c : List In} (h : Ok L n z 0 c) (s : List Nat) : (∃ m, matchAt (c ++ [In.fin]) m = true ∧ Goes (c ++ [In.fin]) 0 s m) ↔ L s := by
  have hf := h.frag _ (hold_all c)
  rw [Nat.zero_add] at hf
  constructor
  · rintro ⟨m, hm, hg⟩
    rw [h.match_at] at hm
    subst hm
    obtain ⟨k, hk⟩ := hg.count
    obtain ⟨s1, s2, k', rfl, hl, _, hg'⟩ := hf.bwd k s _ hk (Or.inr (Nat.le_refl _))
    cases hg' with
    | refl => simpa using hl
    | eps e y _ => rw [fin_at] at e; cases e; simp [In.succ, In.fin] at y
    | take e _ => unfold into at e; rw [fin_at] at e; simp [In.fin] at e
  · intro hl
    exact ⟨c.length, (h.match_at _).mpr rfl, hf.fwd s hl⟩
theorem Ok.alive {L : List Nat → Prop} {n z : Nat} {c : List In} (h : Ok L n z 0 c) : Live (c ++ [In.fin]) := by
  intro k hk
  by_cases hc : k < c.length
  · obtain ⟨t, ht⟩ := h.live _ (hold_all c) k hc
    rw [Nat.zero_add, Nat.zero_add] at ht
    exact ⟨t, c.length, (h.match_at _).mpr rfl, ht⟩
  · have : k = c.length := by simp at hk; omega
    subst this
    exact ⟨[], c.length, (h.match_at _).mpr rfl, .refl _⟩
/-- The automaton of the code matches just behind the words. -/
theorem Ok.isM {L : List Nat → Prop} {n z : Nat} {c : List In} (h : Ok L n z 0 c) (s : List Nat) (i : Nat) (hi : i ≤ s.length) : isM (c ++ [In.fin]) (kAt (c ++ [In.fin]) s i) = true ↔ L (s.take i) := by
  rw [isM_iff h.sound (by simp) s i hi, h.goes]
theorem Ok.can {L : List Nat → Prop} {n z : Nat} {c : List In} (h : Ok L n z 0 c) (s : List Nat) (i : Nat) (hi : i ≤ s.length) : (kAt (c ++ [In.fin]) s i).isEmpty = false ↔ ∃ t, L (s.take i ++ t) := by
  rw [can_iff h.sound (by simp) s i hi, can_lang h.alive]
  constructor
  · rintro ⟨t, h1⟩; exact ⟨t, (h.goes _).mp h1⟩
  · rintro ⟨t, h1⟩; exact ⟨t, (h.goes _).mpr h1⟩
theorem filter_count (l : List In) : ∀ k, k ≤ l.length → ((List.range k).filter (takes l)).length = ((l.take k).countP fun i => i.op == 0 || i.op == 3) := by
  intro k
  induction k with
  | zero => intro _; rfl
  | succ k ih =>
    intro hk
    have hi : l[k]? = some l[k] := List.getElem?_eq_getElem (by omega)
    rw [List.range_succ, List.filter_append, List.length_append, ih (by omega), List.take_add_one, hi, List.countP_append]
    congr 1
    simp only [Option.toList_some]
    by_cases ht : takes l k = true
    · have : (l[k].op == 0 || l[k].op == 3) = true := by unfold takes at ht; rw [hi] at ht; exact ht
      simp [ht, List.countP_cons, this]
    · have : ¬ (l[k].op == 0 || l[k].op == 3) = true := by unfold takes at ht; rw [hi] at ht; exact ht
      simp only [List.filter_cons, List.filter_nil, if_neg ht, List.countP_cons, List.countP_nil, if_neg this]; rfl
/-- Few places: few instructions take a byte or match. -/
theorem Ok.few {L : List Nat → Prop} {n z : Nat} {c : List In} (h : Ok L n z 0 c) (h5 : n ≤ 5) : (taking (c ++ [In.fin])).length ≤ 6 := by
  have h1 := h.take h5
  unfold taking
  rw [filter_count _ _ (Nat.le_refl _), List.take_length, List.countP_append]
  have : (c.countP fun i => i.op == 0 || i.op == 3) = rngs c := by
    unfold rngs
    refine List.countP_congr fun i hi => ?_
    have := (h.ways i hi).o0
    simp [this]
  rw [this]
  simp [In.fin]
  omega
end Go.Rg
/-! How a code is put together in place: plain. -/
namespace Go.Rg
set_option linter.unusedVariables false
/-- Where the pieces' jumps stand. -/
def jpos : Nat → List Pc → List Nat
  | _, [] => []
  | q, x :: r => (q + x.c.length + 1) :: jpos (q + x.c.length + 2) r
theorem jpos_len : ∀ (ps : List Pc) (q : Nat), (jpos q ps).length = ps.length := by
  intro ps
  induction ps with
  | nil => intro q; rfl
  | cons x r ih => intro q; simp [jpos, ih]
theorem jpos_snoc (x : Pc) : ∀ (ps : List Pc) (q : Nat), jpos q (ps ++ [x]) = jpos q ps ++ [q + plen ps + x.c.length + 1] := by
  intro ps
  induction ps with
  | nil => intro q; simp [jpos, plen]
  | cons y r ih =>
    intro q
    rw [List.cons_append, jpos, jpos, ih, plen_cons, List.cons_append]
    rw [show q + y.c.length + 2 + plen r + x.c.length + 1 = q + (y.c.length + 2 + plen r) + x.c.length + 1 by omega]
theorem jpos_at : ∀ (ps : List Pc) (q j : Nat) (x : Pc), ps[j]? = some x → (jpos q ps)[j]? = some (q + plen (ps.take j) + x.c.length + 1) := by
  intro ps
  induction ps with
  | nil => intro q j x h; simp at h
  | cons y r ih =>
    intro q j x h
    cases j with
    | zero => simp at h; subst h; simp [jpos, plen]
    | succ j =>
      simp at h
      rw [jpos, List.getElem?_cons_succ, ih _ j x h, List.take_succ_cons, plen_cons]
      congr 1; omega
theorem set_mid (A B : List In) (i j : In) (k : Nat) (hk : k = A.length) : (A ++ i :: B).set k j = A ++ j :: B := by
  subst hk
  rw [List.set_append_right _ _ (Nat.le_refl _), Nat.sub_self, List.set_cons_zero]
theorem get_mid (A B : List In) (i : In) (k : Nat) (hk : k = A.length) : (A ++ i :: B)[k]? = some i := by
  subst hk
  rw [List.getElem?_append_right (Nat.le_refl _), Nat.sub_self]; rfl
/-- A piece is done: its split is laid. -/
theorem put_seg (L : List In) (x : Pc) : ((L ++ [In.spl 0 0] ++ x.c ++ [In.jmp 0]).set L.length { In.spl 0 0 with a := L.length + 1, b := L.length + x.c.length + 2 }) = L ++ seg 0 L.length x := by
  rw [List.append_assoc, List.append_assoc, List.singleton_append, set_mid _ _ _ _ _ rfl]
  rfl
theorem get_seg (L : List In) (x : Pc) : (L ++ [In.spl 0 0] ++ x.c ++ [In.jmp 0])[L.length]? = some (In.spl 0 0) := by
  rw [List.append_assoc, List.append_assoc, List.singleton_append, get_mid _ _ _ _ rfl]
theorem take_get {α : Type} {l : List α} {k : Nat} {x : α} (h : l[k]? = some x) : l.take (k + 1) = l.take k ++ [x] := by rw [List.take_add_one, h]; rfl
/-- The jumps of the first j pieces are laid. -/
def half (l : List In) (e j : Nat) (ps : List Pc) (c : List In) : List In := l ++ segs e l.length (ps.take j) ++ segs 0 (l.length + plen (ps.take j)) (ps.drop j) ++ c
theorem half_zero (l : List In) (e : Nat) (ps : List Pc) (c : List In) : half l e 0 ps c = l ++ segs 0 l.length ps ++ c := by simp [half, segs, plen]
theorem half_all (l : List In) (e : Nat) (ps : List Pc) (c : List In) : half l e ps.length ps c = l ++ (segs e l.length ps ++ c) := by simp [half, segs]
theorem half_split (l : List In) (e j : Nat) (ps : List Pc) (c : List In) (x : Pc) (h : ps[j]? = some x) : ∃ A B : List In, A.length = l.length + plen (ps.take j) + x.c.length + 1 ∧ half l e j ps c = A ++ In.jmp 0 :: B ∧ half l e (j + 1) ps c = A ++ In.jmp e :: B := by
  obtain ⟨hj, hx⟩ := List.getElem?_eq_some_iff.mp h
  have hd : ps.drop j = x :: ps.drop (j + 1) := by rw [List.drop_eq_getElem_cons hj, hx]
  have ht : ps.take (j + 1) = ps.take j ++ [x] := take_get h
  refine ⟨l ++ segs e l.length (ps.take j) ++ (In.spl (l.length + plen (ps.take j) + 1) (l.length + plen (ps.take j) + x.c.length + 2) :: x.c), segs 0 (l.length + plen (ps.take j) + x.c.length + 2) (ps.drop (j + 1)) ++ c, ?_, ?_, ?_⟩
  · simp [segs_len]; omega
  · unfold half
    rw [hd, segs, seg]
    simp
  · unfold half
    rw [ht, segs_snoc, seg, plen_snoc]
    rw [show l.length + (plen (ps.take j) + (x.c.length + 2)) = l.length + plen (ps.take j) + x.c.length + 2 by omega]
    simp
/-- Splits to the end: as they are laid at last. -/
def ohalf (l : List In) (e j : Nat) (cs : List (List In)) : List In := l ++ opts (fun k => In.spl (k + 1) e) l.length (cs.take j) ++ opts (fun _ => In.spl 0 0) (l.length + olen (cs.take j)) (cs.drop j)
theorem ohalf_zero (l : List In) (e : Nat) (cs : List (List In)) : ohalf l e 0 cs = l ++ opts (fun _ => In.spl 0 0) l.length cs := by simp [ohalf, opts, olen]
theorem ohalf_all (l : List In) (e : Nat) (cs : List (List In)) : ohalf l e cs.length cs = l ++ opts (fun k => In.spl (k + 1) e) l.length cs := by simp [ohalf, opts]
theorem ohalf_split (l : List In) (e j : Nat) (cs : List (List In)) (c : List In) (h : cs[j]? = some c) : ∃ A B : List In, A.length = l.length + olen (cs.take j) ∧ ohalf l e j cs = A ++ In.spl 0 0 :: B ∧ ohalf l e (j + 1) cs = A ++ In.spl (A.length + 1) e :: B := by
  obtain ⟨hj, hx⟩ := List.getElem?_eq_some_iff.mp h
  have hd : cs.drop j = c :: cs.drop (j + 1) := by rw [List.drop_eq_getElem_cons hj, hx]
  have ht : cs.take (j + 1) = cs.take j ++ [c] := take_get h
  have hA : (l ++ opts (fun k => In.spl (k + 1) e) l.length (cs.take j)).length = l.length + olen (cs.take j) := by simp [opts_len]
  refine ⟨l ++ opts (fun k => In.spl (k + 1) e) l.length (cs.take j), c ++ opts (fun _ => In.spl 0 0) (l.length + olen (cs.take j) + 1 + c.length) (cs.drop (j + 1)), hA, ?_, ?_⟩
  · unfold ohalf
    rw [hd, opts]
  · rw [hA]
    unfold ohalf
    rw [ht, opts_snoc, olen_snoc]
    rw [show l.length + (olen (cs.take j) + (c.length + 1)) = l.length + olen (cs.take j) + 1 + c.length by omega]
    simp
/-- Where the splits stand. -/
def spos : Nat → List (List In) → List Nat
  | _, [] => []
  | q, c :: r => q :: spos (q + 1 + c.length) r
theorem spos_len : ∀ (cs : List (List In)) (q : Nat), (spos q cs).length = cs.length := by
  intro cs
  induction cs with
  | nil => intro q; rfl
  | cons x r ih => intro q; simp [spos, ih]
theorem spos_snoc (c : List In) : ∀ (cs : List (List In)) (q : Nat), spos q (cs ++ [c]) = spos q cs ++ [q + olen cs] := by
  intro cs
  induction cs with
  | nil => intro q; simp [spos, olen]
  | cons y r ih =>
    intro q
    rw [List.cons_append, spos, spos, ih, olen_cons, List.cons_append]
    rw [show q + 1 + y.length + olen r = q + (y.length + 1 + olen r) by omega]
theorem spos_at : ∀ (cs : List (List In)) (q j : Nat) (c : List In), cs[j]? = some c → (spos q cs)[j]? = some (q + olen (cs.take j)) := by
  intro cs
  induction cs with
  | nil => intro q j x h; simp at h
  | cons y r ih =>
    intro q j x h
    cases j with
    | zero => simp [spos, olen]
    | succ j =>
      simp at h
      rw [spos, List.getElem?_cons_succ, ih _ j x h, List.take_succ_cons, olen_cons]
      congr 1; omega
/-! ### Ranges of letters: how many -/
open Go.Utf in
theorem rise_len2 : ∀ (l : List (Int × Int)) (c : Int), c ≤ 1114112 → (∀ q ∈ l, c ≤ q.1 ∧ q.1 ≤ q.2 ∧ q.2 ≤ 1114111) → l.Pairwise (fun q r => q.2 < r.1) → (l.length : Int) ≤ 1114112 - c := by
  intro l
  induction l with
  | nil => intro c hc _ _; simp; omega
  | cons q t ih =>
    intro c hc h hp
    obtain ⟨h1, h2, h3⟩ := h q (by simp)
    obtain ⟨p1, p2⟩ := List.pairwise_cons.1 hp
    have := ih (q.2 + 1) (by omega) (fun r hr => ⟨by have := p1 r hr; omega, (h r (by simp [hr])).2.1, (h r (by simp [hr])).2.2⟩) p2
    rw [List.length_cons]
    omega
theorem done_len2 {lo hi : Int} {out : List (Int × Int)} (h : Utf.Done lo hi out) : out.length ≤ 1114112 := by
  have := rise_len2 out 0 (by omega) (fun q hq => by have := (h.good q hq).1; unfold Utf.Good at this; omega) h.rise
  omega
theorem done_asc {lo hi : Int} {out : List (Int × Int)} {q : Int × Int} (h : Utf.Done lo hi (out ++ [q])) (hb : hi ≤ 127) : out = [] := by
  cases out with
  | nil => rfl
  | cons r t =>
    have h1 := (List.pairwise_append.mp h.rise).2.2 r (by simp) q (by simp)
    have e1 := h.ends r (by simp)
    have e2 := h.ends q (by simp)
    have g1 := h.good r (by simp)
    have g2 := h.good q (by simp)
    have := g2.1.2.2.1
    omega
theorem done_snoc {a b : Int} {out : List (Int × Int)} (h : Utf.Done a b out) (ha : Utf.Let a) (hab : a ≤ b) : ∃ init q, out = init ++ [q] := by
  obtain ⟨q, hq, _⟩ := h.all a ha (Int.le_refl _) hab
  rcases List.eq_nil_or_concat out with e | ⟨i, x, e⟩
  · subst e; simp at hq
  · exact ⟨i, x, by simpa [List.concat_eq_append] using e⟩
end Go.Rg
