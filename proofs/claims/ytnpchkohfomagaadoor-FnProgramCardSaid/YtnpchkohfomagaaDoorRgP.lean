/- Programs of instructions and the automaton of their sets, plain: no program in sight. -/
import Derived.WalkKit
namespace Go.Rg
set_option linter.unusedVariables false
/-- An instruction: 0 a match, 1 a jump, 2 a split, 3 a range. -/
structure In where
  op : Nat
  to : Nat
  a : Nat
  b : Nat
  lo : Nat
  hi : Nat
/-- Where an instruction leads without a byte. -/
def In.succ (i : In) : List Nat := if i.op = 1 then [i.to] else if i.op = 2 then [i.a, i.b] else []
/-- What the program's own add does: each instruction once, in the order in which it is come to. -/
def add (l : List In) : Nat → List Nat → Nat → List Nat
  | 0, S, _ => S
  | f + 1, S, ip => if ip ∈ S then S else match l[ip]? with
    | none => S ++ [ip]
    | some i => if i.op = 1 then add l f (S ++ [ip]) i.to else if i.op = 2 then add l f (add l f (S ++ [ip]) i.a) i.b else S ++ [ip]
/-- The instructions that are there. -/
def Sound (l : List In) : Prop := ∀ k i, l[k]? = some i → (i.op = 1 → i.to < l.length) ∧ (i.op = 2 → i.a < l.length ∧ i.b < l.length) ∧ (i.op = 3 → k + 1 < l.length) ∧ i.op ≤ 3
/-- A set as it lies: no number twice, all there. -/
structure Good (l : List In) (S : List Nat) : Prop where
  nd : S.Nodup
  lt : ∀ x ∈ S, x < l.length
theorem nodup_length : ∀ (n : Nat) (S : List Nat), S.Nodup → (∀ x ∈ S, x < n) → S.length ≤ n := by
  intro n
  induction n with
  | zero => intro S _ h; cases S with
    | nil => simp
    | cons a t => exact absurd (h a (by simp)) (by omega)
  | succ n ih =>
    intro S hn h
    have h1 : (S.erase n).length ≤ n := ih _ (hn.erase n) fun x hx => by
      have hx' := (List.Nodup.mem_erase_iff hn).mp hx
      have := h x hx'.2
      have := hx'.1
      omega
    by_cases hm : n ∈ S
    · rw [List.length_erase_of_mem hm] at h1; omega
    · rw [List.erase_of_not_mem hm] at h1; omega
theorem Good.len {l : List In} {S : List Nat} (h : Good l S) : S.length ≤ l.length := nodup_length _ _ h.nd h.lt
theorem Good.snoc {l : List In} {S : List Nat} (h : Good l S) {ip : Nat} (h1 : ip < l.length) (h2 : ip ∉ S) : Good l (S ++ [ip]) := by
  refine ⟨?_, ?_⟩
  · rw [List.nodup_append]
    refine ⟨h.nd, by simp, fun a ha b hb => ?_⟩
    simp at hb; subst hb
    exact fun e => h2 (e ▸ ha)
  · intro x hx
    rcases List.mem_append.mp hx with p | p
    · exact h.lt x p
    · simp at p; omega
/-- What one add leaves: the set grown at its end; and each new one's ways are in it; and each new one is come to. -/
structure Added (l : List In) (S : List Nat) (ip : Nat) (R : List Nat) : Prop where
  good : Good l R
  pre : ∃ T, R = S ++ T
  has : ip ∈ R
  closed : ∀ x ∈ R, x ∉ S → ∀ i, l[x]? = some i → ∀ y ∈ i.succ, y ∈ R
  least : ∀ P : Nat → Prop, P ip → (∀ x i, P x → l[x]? = some i → ∀ y ∈ i.succ, P y) → ∀ x ∈ R, x ∉ S → P x
theorem Added.len {l : List In} {S : List Nat} {ip : Nat} {R : List Nat} (h : Added l S ip R) : S.length ≤ R.length := by
  obtain ⟨T, rfl⟩ := h.pre; simp
theorem Added.sub {l : List In} {S : List Nat} {ip : Nat} {R : List Nat} (h : Added l S ip R) {x : Nat} (hx : x ∈ S) : x ∈ R := by
  obtain ⟨T, rfl⟩ := h.pre; simp [hx]
theorem add_added (l : List In) (hs : Sound l) : ∀ (f : Nat) (S : List Nat) (ip : Nat), Good l S → ip < l.length → l.length < f + S.length → Added l S ip (add l f S ip) := by
  intro f
  induction f with
  | zero => intro S ip h _ hf; have := h.len; omega
  | succ f ih =>
    intro S ip h hip hf
    unfold add
    by_cases hm : ip ∈ S
    · rw [if_pos hm]
      exact ⟨h, ⟨[], by simp⟩, hm, fun x hx hn => absurd hx hn, fun P _ _ x hx hn => absurd hx hn⟩
    · rw [if_neg hm]
      have hg := h.snoc hip hm
      have hl : (S ++ [ip]).length = S.length + 1 := by simp
      have hi : l[ip]? = some l[ip] := List.getElem?_eq_getElem hip
      rw [hi]
      obtain ⟨s1, s2, s3, s4⟩ := hs ip _ hi
      have hnew : ∀ x, x ∈ S ++ [ip] → x ∉ S → x = ip := by
        intro x hx hn
        rcases List.mem_append.mp hx with p | p
        · exact absurd p hn
        · simpa using p
      by_cases h1 : l[ip].op = 1
      · simp only [h1, if_true]
        have A := ih (S ++ [ip]) l[ip].to hg (s1 h1) (by omega)
        have hsu : l[ip].succ = [l[ip].to] := by simp [In.succ, h1]
        refine ⟨A.good, ?_, A.sub (by simp), ?_, ?_⟩
        · obtain ⟨T, e⟩ := A.pre; exact ⟨ip :: T, by rw [e]; simp⟩
        · intro x hx hn i hxi y hy
          by_cases hxs : x ∈ S ++ [ip]
          · obtain rfl := hnew x hxs hn
            rw [hi] at hxi; cases hxi
            rw [hsu] at hy; simp at hy; subst hy; exact A.has
          · exact A.closed x hx hxs i hxi y hy
        · intro P p0 p1 x hx hn
          by_cases hxs : x ∈ S ++ [ip]
          · obtain rfl := hnew x hxs hn; exact p0
          · exact A.least P (p1 ip _ p0 hi _ (by rw [hsu]; simp)) p1 x hx hxs
      · by_cases h2 : l[ip].op = 2
        · simp only [h2, if_true, show ¬ (2 : Nat) = 1 by omega, if_false]
          have A := ih (S ++ [ip]) l[ip].a hg (s2 h2).1 (by omega)
          have B := ih _ l[ip].b A.good (s2 h2).2 (by have := A.len; omega)
          have hsu : l[ip].succ = [l[ip].a, l[ip].b] := by simp [In.succ, h2]
          refine ⟨B.good, ?_, B.sub (A.sub (by simp)), ?_, ?_⟩
          · obtain ⟨T, e⟩ := A.pre; obtain ⟨T', e'⟩ := B.pre
            exact ⟨ip :: (T ++ T'), by rw [e', e]; simp⟩
          · intro x hx hn i hxi y hy
            by_cases hxs : x ∈ S ++ [ip]
            · obtain rfl := hnew x hxs hn
              rw [hi] at hxi; cases hxi
              rw [hsu] at hy; simp at hy
              rcases hy with rfl | rfl
              · exact B.sub A.has
              · exact B.has
            · by_cases hxa : x ∈ add l f (S ++ [ip]) l[ip].a
              · exact B.sub (A.closed x hxa hxs i hxi y hy)
              · exact B.closed x hx hxa i hxi y hy
          · intro P p0 p1 x hx hn
            by_cases hxs : x ∈ S ++ [ip]
            · obtain rfl := hnew x hxs hn; exact p0
            · by_cases hxa : x ∈ add l f (S ++ [ip]) l[ip].a
              · exact A.least P (p1 ip _ p0 hi _ (by rw [hsu]; simp)) p1 x hxa hxs
              · exact B.least P (p1 ip _ p0 hi _ (by rw [hsu]; simp)) p1 x hx hxa
        · simp only [h1, h2, if_false]
          have hsu : l[ip].succ = [] := by simp [In.succ, h1, h2]
          refine ⟨hg, ⟨[ip], rfl⟩, by simp, ?_, ?_⟩
          · intro x hx hn i hxi y hy
            obtain rfl := hnew x hx hn
            rw [hi] at hxi; cases hxi
            rw [hsu] at hy; simp at hy
          · intro P p0 p1 x hx hn
            obtain rfl := hnew x hx hn; exact p0
/-- Several adds, one behind the other. -/
def addAll (l : List In) (S : List Nat) (r : List Nat) : List Nat := r.foldl (fun S ip => add l (l.length + 1) S ip) S
theorem addAll_nil (l : List In) (S : List Nat) : addAll l S [] = S := rfl
theorem addAll_snoc (l : List In) (S r : List Nat) (x : Nat) : addAll l S (r ++ [x]) = add l (l.length + 1) (addAll l S r) x := by simp [addAll]
/-- The set is closed, and least over its roots. -/
structure Closure (l : List In) (r R : List Nat) : Prop where
  good : Good l R
  has : ∀ x ∈ r, x ∈ R
  closed : ∀ x ∈ R, ∀ i, l[x]? = some i → ∀ y ∈ i.succ, y ∈ R
  least : ∀ P : Nat → Prop, (∀ x ∈ r, P x) → (∀ x i, P x → l[x]? = some i → ∀ y ∈ i.succ, P y) → ∀ x ∈ R, P x
theorem closure_snoc {l : List In} {r R : List Nat} {x : Nat} {R' : List Nat} (h : Closure l r R) (a : Added l R x R') : Closure l (r ++ [x]) R' := by
  refine ⟨a.good, ?_, ?_, ?_⟩
  · intro y hy
    rcases List.mem_append.mp hy with p | p
    · exact a.sub (h.has y p)
    · simp at p; subst p; exact a.has
  · intro y hy i hi z hz
    by_cases hm : y ∈ R
    · exact a.sub (h.closed y hm i hi z hz)
    · exact a.closed y hy hm i hi z hz
  · intro P p0 p1 y hy
    by_cases hm : y ∈ R
    · exact h.least P (fun z hz => p0 z (by simp [hz])) p1 y hm
    · exact a.least P (p0 x (by simp)) p1 y hy hm
theorem closure_nil (l : List In) : Closure l [] [] := ⟨⟨by simp, by simp⟩, by simp, by simp, by simp⟩
theorem addAll_closure (l : List In) (hs : Sound l) (r : List Nat) (hr : ∀ x ∈ r, x < l.length) : Closure l r (addAll l [] r) := by
  suffices h : ∀ k, k ≤ r.length → Closure l (r.take k) (addAll l [] (r.take k)) by
    have := h r.length (Nat.le_refl _); rwa [List.take_length] at this
  intro k
  induction k with
  | zero => intro _; exact closure_nil l
  | succ k ih =>
    intro hk
    have hk' : k < r.length := by omega
    have e : r.take (k + 1) = r.take k ++ [r[k]] := by rw [List.take_add_one, List.getElem?_eq_getElem hk']; rfl
    rw [e, addAll_snoc]
    have c := ih (by omega)
    exact closure_snoc c (add_added l hs _ _ _ c.good (hr _ (List.getElem_mem hk')) (by omega))
/-- Closures over the same roots have the same members. -/
theorem Closure.same {l : List In} {r r' R R' : List Nat} (h : Closure l r R) (h' : Closure l r' R') (e : ∀ x, x ∈ r ↔ x ∈ r') (x : Nat) : x ∈ R ↔ x ∈ R' :=
  ⟨h.least (fun y => y ∈ R') (fun y hy => h'.has y ((e y).mp hy)) (fun y i hy hi z hz => h'.closed y hy i hi z hz) x,
   h'.least (fun y => y ∈ R) (fun y hy => h.has y ((e y).mpr hy)) (fun y i hy hi z hz => h.closed y hy i hi z hz) x⟩
/-- The instructions that take a byte or match. -/
def takes (l : List In) (x : Nat) : Bool := match l[x]? with
  | some i => i.op == 0 || i.op == 3
  | none => false
def matchAt (l : List In) (x : Nat) : Bool := match l[x]? with
  | some i => i.op == 0
  | none => false
def into (l : List In) (c x : Nat) : Bool := match l[x]? with
  | some i => i.op == 3 && decide (i.lo ≤ c) && decide (c ≤ i.hi)
  | none => false
/-- A state of the automaton: those of a set that take a byte or match, in their order. -/
def key (l : List In) (S : List Nat) : List Nat := S.filter (takes l)
def startK (l : List In) : List Nat := key l (addAll l [] [0])
def rootsOf (l : List In) (K : List Nat) (c : Nat) : List Nat := (K.filter (into l c)).map (· + 1)
def stepK (l : List In) (K : List Nat) (c : Nat) : List Nat := key l (addAll l [] (rootsOf l K c))
def isM (l : List In) (K : List Nat) : Bool := K.any (matchAt l)
end Go.Rg
