/- Expressions as trees: a deeper count of floors says the same; the trees of FnRegexTimes and FnRegexEither: plain. -/
import Derived.Test.YtnpchkohfomagaaDoorRgPa
/-! Expressions as trees: a deeper count of floors says the same: plain. -/
namespace Go.Rg
open Go.Utf
set_option linter.unusedVariables false
set_option linter.unusedSimpArgs false
/-- At most so many floors. -/
def Dp : Nat → Tr → Prop
  | 0, _ => False
  | d + 1, t => ∀ x ∈ t.subs, Dp d x
theorem Dp.up : ∀ (d : Nat) (t : Tr), Dp d t → Dp (d + 1) t := by
  intro d
  induction d with
  | zero => intro t h; exact h.elim
  | succ d ih => intro t h x hx; exact ih x (h x hx)
theorem WF.up : ∀ (d : Nat) (t : Tr), WF d t → WF (d + 1) t := by
  intro d
  induction d with
  | zero => intro t h; exact h.elim
  | succ d ih =>
    rintro t ⟨h1, h2, h3, h4, h5, h6, h7, h8⟩
    refine ⟨h1, h2, h3, h4, h5, fun a b => ?_, h7, fun a => ⟨(h8 a).1, fun x hx => ih x ((h8 a).2.1 x hx), (h8 a).2.2⟩⟩
    obtain ⟨x, e, hx⟩ := h6 a b
    exact ⟨x, e, ih x hx⟩
theorem sub_in {d : Nat} {t : Tr} (h : WF (d + 1) t) (h1 : 13 ≤ t.op) (h2 : t.op ≤ 17) : t.sub ∈ t.subs ∧ WF d t.sub := by
  obtain ⟨x, e, hx⟩ := h.2.2.2.2.2.1 h1 h2
  unfold Tr.sub
  rw [e]
  exact ⟨by simp, hx⟩
theorem size_succ (d : Nat) (t : Tr) : size (d + 1) t = (if t.op = 2 then 0 else if t.op = 3 then (t.runes.map wid).sum else if t.op = 4 ∨ t.op = 5 ∨ t.op = 6 then ((prs (rsOf t)).map fun q => rngZ q.2 + 2).sum
    else if t.op = 13 then size d t.sub else if t.op = 14 then size d t.sub + 2 else if t.op = 15 ∨ t.op = 16 then size d t.sub + 1
    else if t.op = 17 then (if t.mx = -1 then (t.mn.toNat + 1) * size d t.sub + 2 else t.mx.toNat * (size d t.sub + 1))
    else if t.op = 18 then (t.subs.map (size d)).sum
    else (t.subs.map fun x => size d x + 2).sum) := rfl
theorem places_succ (d : Nat) (t : Tr) : places (d + 1) t = (if t.op = 2 then 0 else if t.op = 3 then (t.runes.map wid).sum else if t.op = 4 ∨ t.op = 5 ∨ t.op = 6 then ((prs (rsOf t)).map fun q => rngN q.2).sum
    else if t.op = 17 then (t.subs.map (places d)).sum * ((max t.mn t.mx).toNat + 1) else if t.op = 15 then (t.subs.map (places d)).sum * 2 else (t.subs.map (places d)).sum) := rfl
theorem bad_succ (d : Nat) (t : Tr) : bad (d + 1) t = (if t.lazy then some 1 else if 7 ≤ t.op ∧ t.op ≤ 10 then some 2 else if t.op = 11 ∨ t.op = 12 then some 3
    else if t.op < 13 then none
    else if t.op ≤ 17 then bad d t.sub
    else (t.subs.map (bad d)).findSome? id) := rfl
theorem lang_succ (d : Nat) (t : Tr) (s : List Nat) : lang (d + 1) t s = (
    if t.op = 2 then s = [] else if t.op = 3 then s = word t.runes else if t.op = 4 ∨ t.op = 5 ∨ t.op = 6 then Cls (rsOf t) s
    else if t.op = 13 then lang d t.sub s else if t.op = 14 then Star (lang d t.sub) s
    else if t.op = 15 then ∃ b c, s = b ++ c ∧ lang d t.sub b ∧ Star (lang d t.sub) c
    else if t.op = 16 then s = [] ∨ lang d t.sub s
    else if t.op = 17 then ∃ b c, s = b ++ c ∧ Pow (lang d t.sub) t.mn.toNat b ∧ (if t.mx = -1 then Star (lang d t.sub) c else Opt (lang d t.sub) (t.mx - t.mn).toNat c)
    else if t.op = 18 then CatL (t.subs.map (lang d)) s
    else ∃ L ∈ t.subs.map (lang d), L s) := rfl
/-- The parts of a tree that is not too deep. -/
theorem up_step {α : Type} {f : Nat → Tr → α} {d : Nat} {t : Tr} (ih : ∀ x, WF d x → Dp d x → f (d + 1) x = f d x) (h : WF (d + 1) t) (hd : Dp (d + 1) t) : (13 ≤ t.op → t.op ≤ 17 → f (d + 1) t.sub = f d t.sub) ∧ (18 ≤ t.op → ∀ x ∈ t.subs, f (d + 1) x = f d x) :=
  ⟨fun h1 h2 => ih _ (sub_in h h1 h2).2 (hd _ (sub_in h h1 h2).1), fun h1 x hx => ih x ((h.2.2.2.2.2.2.2 h1).2.1 x hx) (hd x hx)⟩
/-- The nodes that ask for a place have no parts. -/
def Lf : Nat → Tr → Prop
  | 0, _ => True
  | d + 1, t => (t.op < 13 → t.subs = []) ∧ ∀ x ∈ t.subs, Lf d x
theorem size_up : ∀ (d : Nat) (t : Tr), WF d t → Dp d t → Lf d t → size (d + 1) t = size d t := by
  intro d
  induction d with
  | zero => intro t h; exact h.elim
  | succ d ih =>
    intro t h hd hl
    have e1 : 13 ≤ t.op → t.op ≤ 17 → size (d + 1) t.sub = size d t.sub := fun h1 h2 => ih _ (sub_in h h1 h2).2 (hd _ (sub_in h h1 h2).1) (hl.2 _ (sub_in h h1 h2).1)
    have e2 : 18 ≤ t.op → ∀ x ∈ t.subs, size (d + 1) x = size d x := fun h1 x hx => ih x ((h.2.2.2.2.2.2.2 h1).2.1 x hx) (hd x hx) (hl.2 x hx)
    rw [size_succ (d + 1) t, size_succ d t]
    by_cases h13 : t.op < 13
    · have : t.subs = [] := hl.1 h13
      rw [this]
      have n1 : ¬ t.op = 13 := by omega
      have n2 : ¬ t.op = 14 := by omega
      have n3 : ¬ (t.op = 15 ∨ t.op = 16) := by omega
      have n5 : ¬ t.op = 17 := by omega
      have n6 : ¬ t.op = 18 := by omega
      rw [if_neg n1, if_neg n2, if_neg n3, if_neg n5, if_neg n6, if_neg n1, if_neg n2, if_neg n3, if_neg n5, if_neg n6]
      rfl
    · by_cases h17 : t.op ≤ 17
      · rw [e1 (by omega) h17]
        have n6 : ¬ t.op = 18 := by omega
        have : t.op = 13 ∨ t.op = 14 ∨ t.op = 15 ∨ t.op = 16 ∨ t.op = 17 := by omega
        rcases this with e | e | e | e | e <;> (rw [e]; rfl)
      · have m1 : t.subs.map (size (d + 1)) = t.subs.map (size d) := List.map_congr_left fun x hx => e2 (by omega) x hx
        have m2 : (t.subs.map fun x => size (d + 1) x + 2) = t.subs.map fun x => size d x + 2 := List.map_congr_left fun x hx => by rw [e2 (by omega) x hx]
        rw [m1, m2]
        have n0 : ¬ t.op = 2 := by omega
        have n4 : ¬ t.op = 3 := by omega
        have n7 : ¬ (t.op = 4 ∨ t.op = 5 ∨ t.op = 6) := by omega
        have n1 : ¬ t.op = 13 := by omega
        have n2 : ¬ t.op = 14 := by omega
        have n3 : ¬ (t.op = 15 ∨ t.op = 16) := by omega
        have n5 : ¬ t.op = 17 := by omega
        rw [if_neg n0, if_neg n4, if_neg n7, if_neg n1, if_neg n2, if_neg n3, if_neg n5, if_neg n0, if_neg n4, if_neg n7, if_neg n1, if_neg n2, if_neg n3, if_neg n5]
theorem places_up : ∀ (d : Nat) (t : Tr), WF d t → Dp d t → Lf d t → places (d + 1) t = places d t := by
  intro d
  induction d with
  | zero => intro t h; exact h.elim
  | succ d ih =>
    intro t h hd hl
    rw [places_succ (d + 1) t, places_succ d t]
    by_cases h13 : t.op < 13
    · have : t.subs = [] := hl.1 h13
      rw [this]
      rfl
    · have m1 : t.subs.map (places (d + 1)) = t.subs.map (places d) := List.map_congr_left fun x hx => by
        by_cases h17 : t.op ≤ 17
        · obtain ⟨y, e, hy⟩ := h.2.2.2.2.2.1 (by omega) h17
          have : x = y := by rw [e] at hx; simpa using hx
          subst this
          exact ih x hy (hd x hx) (hl.2 x hx)
        · exact ih x ((h.2.2.2.2.2.2.2 (by omega)).2.1 x hx) (hd x hx) (hl.2 x hx)
      rw [m1]
theorem bad_up : ∀ (d : Nat) (t : Tr), WF d t → Dp d t → bad (d + 1) t = bad d t := by
  intro d
  induction d with
  | zero => intro t h; exact h.elim
  | succ d ih =>
    intro t h hd
    obtain ⟨e1, e2⟩ := up_step (f := bad) ih h hd
    rw [bad_succ (d + 1) t, bad_succ d t]
    by_cases h17 : t.op ≤ 17
    · by_cases h13 : 13 ≤ t.op
      · rw [e1 h13 h17, if_pos h17, if_pos h17]
      · have : t.op < 13 := by omega
        rw [if_pos this, if_pos this]
    · have m1 : t.subs.map (bad (d + 1)) = t.subs.map (bad d) := List.map_congr_left fun x hx => e2 (by omega) x hx
      rw [m1, if_neg h17, if_neg h17]
theorem lang_up : ∀ (d : Nat) (t : Tr), WF d t → Dp d t → Lf d t → lang (d + 1) t = lang d t := by
  intro d
  induction d with
  | zero => intro t h; exact h.elim
  | succ d ih =>
    intro t h hd hl
    funext s
    have e1 : 13 ≤ t.op → t.op ≤ 17 → lang (d + 1) t.sub = lang d t.sub := fun h1 h2 => ih _ (sub_in h h1 h2).2 (hd _ (sub_in h h1 h2).1) (hl.2 _ (sub_in h h1 h2).1)
    have e2 : 18 ≤ t.op → ∀ x ∈ t.subs, lang (d + 1) x = lang d x := fun h1 x hx => ih x ((h.2.2.2.2.2.2.2 h1).2.1 x hx) (hd x hx) (hl.2 x hx)
    rw [lang_succ (d + 1) t, lang_succ d t]
    by_cases h13 : t.op < 13
    · have e : t.subs = [] := hl.1 h13
      rw [e]
      have n1 : ¬ t.op = 13 := by omega
      have n2 : ¬ t.op = 14 := by omega
      have n3 : ¬ t.op = 15 := by omega
      have n4 : ¬ t.op = 16 := by omega
      have n5 : ¬ t.op = 17 := by omega
      have n6 : ¬ t.op = 18 := by omega
      simp only [n1, n2, n3, n4, n5, n6, if_false, List.map_nil]
    · by_cases h17 : t.op ≤ 17
      · rw [e1 (by omega) h17]
        have n6 : ¬ t.op = 18 := by omega
        by_cases h17' : t.op = 17
        · simp only [h17']; rfl
        · have : t.op = 13 ∨ t.op = 14 ∨ t.op = 15 ∨ t.op = 16 := by omega
          rcases this with e | e | e | e <;> (rw [e]; rfl)
      · have m1 : t.subs.map (lang (d + 1)) = t.subs.map (lang d) := List.map_congr_left fun x hx => e2 (by omega) x hx
        rw [m1]
        have n0 : ¬ t.op = 2 := by omega
        have n1 : ¬ t.op = 13 := by omega
        have n2 : ¬ t.op = 14 := by omega
        have n3 : ¬ t.op = 15 := by omega
        have n4 : ¬ t.op = 16 := by omega
        have n5 : ¬ t.op = 17 := by omega
        have n6 : ¬ t.op = 3 := by omega
        have n7 : ¬ (t.op = 4 ∨ t.op = 5 ∨ t.op = 6) := by omega
        simp only [n0, n1, n2, n3, n4, n5, n6, n7, if_false]
theorem Lf.up : ∀ (d : Nat) (t : Tr), Dp d t → Lf d t → Lf (d + 1) t := by
  intro d
  induction d with
  | zero => intro t h; exact h.elim
  | succ d ih => intro t h hl; exact ⟨hl.1, fun x hx => ih x (h x hx) (hl.2 x hx)⟩
end Go.Rg
/-! Words of stars, repeats and parts one behind the other: plain. -/
namespace Go.Rg
open Go.Utf
set_option linter.unusedVariables false
set_option linter.unusedSimpArgs false
theorem Star.one {L : List Nat → Prop} {s : List Nat} (h : L s) : Star L s := by
  have := Star.more h Star.nil
  simpa using this
theorem Star.cat {L : List Nat → Prop} {a b : List Nat} (h : Star L a) (k : Star L b) : Star L (a ++ b) := by
  induction h with
  | nil => exact k
  | more h1 _ ih => rw [List.append_assoc]; exact Star.more h1 ih
theorem star_star (L : List Nat → Prop) (s : List Nat) : Star (Star L) s ↔ Star L s := by
  constructor
  · intro h
    induction h with
    | nil => exact .nil
    | more h1 _ ih => exact h1.cat ih
  · exact Star.one
theorem catL_nil (s : List Nat) : CatL [] s ↔ s = [] := Iff.rfl
theorem catL_one (L : List Nat → Prop) (s : List Nat) : CatL [L] s ↔ L s := by
  constructor
  · rintro ⟨a, b, rfl, ha, rfl⟩; simpa using ha
  · intro h; exact ⟨s, [], by simp, h, rfl⟩
theorem catL_append : ∀ (l r : List (List Nat → Prop)) (s : List Nat), CatL (l ++ r) s ↔ ∃ a b, s = a ++ b ∧ CatL l a ∧ CatL r b := by
  intro l
  induction l with
  | nil => intro r s; exact ⟨fun h => ⟨[], s, rfl, rfl, h⟩, fun ⟨a, b, e, ha, hb⟩ => by cases ha; subst e; exact hb⟩
  | cons L l ih =>
    intro r s
    constructor
    · rintro ⟨a, b, rfl, ha, hb⟩
      obtain ⟨c, e, rfl, hc, he⟩ := (ih r b).mp hb
      exact ⟨a ++ c, e, by simp, ⟨a, c, rfl, ha, hc⟩, he⟩
    · rintro ⟨a, b, rfl, ⟨c, e, rfl, hc, he⟩, hb⟩
      exact ⟨c, e ++ b, by simp, hc, (ih r _).mpr ⟨e, b, rfl, he, hb⟩⟩
theorem pow_front (L : List Nat → Prop) : ∀ (k : Nat) (s : List Nat), Pow L (k + 1) s ↔ ∃ a b, s = a ++ b ∧ L a ∧ Pow L k b := by
  intro k
  induction k with
  | zero =>
    intro s
    constructor
    · rintro ⟨a, b, rfl, rfl, hb⟩; exact ⟨b, [], by simp, hb, rfl⟩
    · rintro ⟨a, b, rfl, ha, rfl⟩; exact ⟨[], a, by simp, rfl, ha⟩
  | succ k ih =>
    intro s
    constructor
    · rintro ⟨a, b, rfl, ha, hb⟩
      obtain ⟨c, e, rfl, hc, he⟩ := (ih a).mp ha
      exact ⟨c, e ++ b, by simp, hc, ⟨e, b, rfl, he, hb⟩⟩
    · rintro ⟨a, b, rfl, ha, c, e, rfl, hc, he⟩
      exact ⟨a ++ c, e, by simp, (ih _).mpr ⟨a, c, rfl, ha, hc⟩, he⟩
theorem catL_pow (L : List Nat → Prop) : ∀ (k : Nat) (s : List Nat), CatL (List.replicate k L) s ↔ Pow L k s := by
  intro k
  induction k with
  | zero => intro s; exact Iff.rfl
  | succ k ih =>
    intro s
    rw [List.replicate_succ, pow_front]
    constructor
    · rintro ⟨a, b, rfl, ha, hb⟩; exact ⟨a, b, rfl, ha, (ih b).mp hb⟩
    · rintro ⟨a, b, rfl, ha, hb⟩; exact ⟨a, b, rfl, ha, (ih b).mpr hb⟩
theorem opt_up (L : List Nat → Prop) : ∀ (k : Nat) (s : List Nat), Opt L k s → Opt L (k + 1) s := by
  intro k
  induction k with
  | zero => intro s h; exact Or.inl h
  | succ k ih =>
    intro s h
    rcases h with h | ⟨a, b, rfl, ha, hb⟩
    · exact Or.inl h
    · exact Or.inr ⟨a, b, rfl, ha, ih b hb⟩
theorem catL_opt (L : List Nat → Prop) : ∀ (k : Nat) (s : List Nat), CatL (List.replicate k fun s => s = [] ∨ L s) s ↔ Opt L k s := by
  intro k
  induction k with
  | zero => intro s; exact Iff.rfl
  | succ k ih =>
    intro s
    rw [List.replicate_succ]
    constructor
    · rintro ⟨a, b, rfl, ha, hb⟩
      have h := (ih b).mp hb
      rcases ha with rfl | ha
      · exact opt_up L k b h
      · exact Or.inr ⟨a, b, rfl, ha, h⟩
    · rintro (rfl | ⟨a, b, rfl, ha, hb⟩)
      · refine ⟨[], [], rfl, Or.inl rfl, (ih []).mpr ?_⟩
        cases k with
        | zero => rfl
        | succ k => exact Or.inl rfl
      · exact ⟨a, b, rfl, Or.inr ha, (ih b).mpr hb⟩
end Go.Rg
/-! The trees of FnRegexTimes and FnRegexEither: well formed, short, their words: plain. -/
namespace Go.Rg
open Go.Utf
set_option linter.unusedVariables false
set_option linter.unusedSimpArgs false
theorem bad_node (d o : Nat) (mn mx : Int) (l : List Tr) : bad (d + 1) (.mk o false false [] mn mx l) = (if 7 ≤ o ∧ o ≤ 10 then some 2 else if o = 11 ∨ o = 12 then some 3 else if o < 13 then none else if o ≤ 17 then bad d (l.headD Tr.zero) else (l.map (bad d)).findSome? id) := rfl
theorem size_node (d o : Nat) (mn mx : Int) (l : List Tr) (h : 13 ≤ o) : size (d + 1) (.mk o false false [] mn mx l) = (if o = 13 then size d (l.headD Tr.zero) else if o = 14 then size d (l.headD Tr.zero) + 2 else if o = 15 ∨ o = 16 then size d (l.headD Tr.zero) + 1
    else if o = 17 then (if mx = -1 then (mn.toNat + 1) * size d (l.headD Tr.zero) + 2 else mx.toNat * (size d (l.headD Tr.zero) + 1))
    else if o = 18 then (l.map (size d)).sum
    else (l.map fun x => size d x + 2).sum) := by
  rw [size_succ]
  show (if o = 2 then 0 else if o = 3 then _ else if o = 4 ∨ o = 5 ∨ o = 6 then _ else _) = _
  rw [if_neg (by omega), if_neg (by omega), if_neg (by omega)]
  rfl
/-- A node over parts. -/
def nod (op : Nat) (l : List Tr) : Tr := .mk op false false [] 0 0 l
def rep (mn mx : Int) (a : Tr) : Tr := .mk 17 false false [] mn mx [a]
/-- A tree that can be made an automaton of, of at most n instructions. -/
structure Fine (d n : Nat) (t : Tr) : Prop where
  wf : WF d t
  dp : Dp d t
  lf : Lf d t
  bd : bad d t = none
  sz : size d t ≤ n
theorem Fine.up {d n : Nat} {t : Tr} (h : Fine d n t) : Fine (d + 1) n t :=
  ⟨WF.up d t h.wf, Dp.up d t h.dp, Lf.up d t h.dp h.lf, by rw [bad_up d t h.wf h.dp]; exact h.bd, by rw [size_up d t h.wf h.dp h.lf]; exact h.sz⟩
theorem Fine.more {d n m : Nat} {t : Tr} (h : Fine d n t) (hm : n ≤ m) : Fine d m t := ⟨h.wf, h.dp, h.lf, h.bd, Nat.le_trans h.sz hm⟩
theorem Fine.lang {d n : Nat} {t : Tr} (h : Fine d n t) : lang (d + 1) t = lang d t := lang_up d t h.wf h.dp h.lf
theorem Fine.places {d n : Nat} {t : Tr} (h : Fine d n t) : places (d + 1) t = places d t := places_up d t h.wf h.dp h.lf
theorem Fine.one {d n : Nat} {x : Tr} (o : Nat) (h : Fine d n x) (h1 : 13 ≤ o) (h2 : o ≤ 16) : Fine (d + 1) (n + 2) (nod o [x]) := by
  refine ⟨⟨rfl, by show 2 ≤ o; omega, by show o ≤ 19; omega, fun h => ?_, fun h => ?_, fun _ _ => ⟨x, rfl, h.wf⟩, fun h => ?_, fun h => ?_⟩, fun y hy => ?_, ⟨fun h => ?_, fun y hy => ?_⟩, ?_, ?_⟩
  · change o = 3 at h; omega
  · change o = 4 at h; omega
  · change o = 17 at h; omega
  · change 18 ≤ o at h; omega
  · have : y = x := by simpa [nod, Tr.subs] using hy
    subst this; exact h.dp
  · change o < 13 at h; omega
  · have : y = x := by simpa [nod, Tr.subs] using hy
    subst this; exact h.lf
  · rw [nod, bad_node, if_neg (by omega), if_neg (by omega), if_neg (by omega), if_pos (by omega)]
    exact h.bd
  · rw [nod, size_node _ _ _ _ _ h1]
    have hs := h.sz
    simp only [List.headD_cons]
    repeat' split
    all_goals (first | omega)
theorem Fine.rep {d n : Nat} {x : Tr} (mn mx : Int) (h : Fine d n x) (h1 : 0 ≤ mn) (h2 : mn ≤ 3) (h3 : mx = -1 ∨ (1 ≤ mx ∧ mn ≤ mx ∧ mx ≤ 5)) : Fine (d + 1) (5 * n + 10) (rep mn mx x) := by
  refine ⟨⟨rfl, by show 2 ≤ 17; omega, by show 17 ≤ 19; omega, fun h => ?_, fun h => ?_, fun _ _ => ⟨x, rfl, h.wf⟩, fun _ => ?_, fun h => ?_⟩, fun y hy => ?_, ⟨fun h => ?_, fun y hy => ?_⟩, ?_, ?_⟩
  · change 17 = 3 at h; omega
  · change 17 = 4 at h; omega
  · show 0 ≤ mn ∧ mn ≤ 1000 ∧ mx ≤ 1000 ∧ (mx = -1 ∨ (1 ≤ mx ∧ mn ≤ mx)); omega
  · change 18 ≤ 17 at h; omega
  · have : y = x := by simpa [Rg.rep, Tr.subs] using hy
    subst this; exact h.dp
  · change 17 < 13 at h; omega
  · have : y = x := by simpa [Rg.rep, Tr.subs] using hy
    subst this; exact h.lf
  · rw [Rg.rep, bad_node, if_neg (by omega), if_neg (by omega), if_neg (by omega), if_pos (by omega)]
    exact h.bd
  · rw [Rg.rep, size_node _ _ _ _ _ (by omega)]
    have hs := h.sz
    simp only [List.headD_cons]
    have g1 : (mn.toNat + 1) * size d x ≤ 4 * size d x := Nat.mul_le_mul_right _ (by omega)
    have g2 : mx.toNat * (size d x + 1) ≤ 5 * (size d x + 1) := by
      rcases h3 with e | e
      · subst e; simp
      · exact Nat.mul_le_mul_right _ (by omega)
    rw [if_neg (by omega), if_neg (by omega), if_neg (by omega), if_pos trivial]
    by_cases hm : mx = -1
    · rw [if_pos hm]; omega
    · rw [if_neg hm]; omega
theorem sum_cap {α : Type} (f : α → Nat) (c : Nat) : ∀ (l : List α), (∀ x ∈ l, f x ≤ c) → (l.map f).sum ≤ l.length * c := by
  intro l
  induction l with
  | nil => intro _; simp
  | cons a r ih =>
    intro h
    have h1 := h a (by simp)
    have h2 := ih fun x hx => h x (by simp [hx])
    simp only [List.map_cons, List.sum_cons, List.length_cons]
    rw [Nat.add_mul]
    omega
theorem Fine.many {d n : Nat} {l : List Tr} (o : Nat) (h : ∀ x ∈ l, Fine d n x) (h1 : o = 18 ∨ o = 19) (h2 : l ≠ []) (h3 : l.length ≤ 10) : Fine (d + 1) (10 * (n + 2)) (nod o l) := by
  refine ⟨⟨rfl, by show 2 ≤ o; omega, by show o ≤ 19; omega, fun h => ?_, fun h => ?_, fun _ h => ?_, fun h => ?_, fun _ => ⟨h2, fun x hx => (h x hx).wf, by show l.length ≤ 100; omega⟩⟩, fun y hy => (h y hy).dp, ⟨fun h => ?_, fun y hy => (h y hy).lf⟩, ?_, ?_⟩
  · change o = 3 at h; omega
  · change o = 4 at h; omega
  · change o ≤ 17 at h; omega
  · change o = 17 at h; omega
  · change o < 13 at h; omega
  · rw [nod, bad_node, if_neg (by omega), if_neg (by omega), if_neg (by omega), if_neg (by omega), List.findSome?_eq_none_iff]
    intro x hx
    obtain ⟨y, hy, rfl⟩ := List.mem_map.1 hx
    rw [(h y hy).bd]; rfl
  · rw [nod, size_node _ _ _ _ _ (by omega)]
    have g1 := sum_cap (size d) n l fun x hx => (h x hx).sz
    have g2 := sum_cap (fun x => size d x + 2) (n + 2) l fun x hx => by have := (h x hx).sz; omega
    have g3 : l.length * n ≤ 10 * n := Nat.mul_le_mul_right _ h3
    have g4 : l.length * (n + 2) ≤ 10 * (n + 2) := Nat.mul_le_mul_right _ h3
    rcases h1 with rfl | rfl
    · rw [if_neg (by omega), if_neg (by omega), if_neg (by omega), if_neg (by omega), if_pos rfl]; omega
    · rw [if_neg (by omega), if_neg (by omega), if_neg (by omega), if_neg (by omega), if_neg (by omega)]; omega
def emp : Tr := .mk 2 false false [] 0 0 []
theorem Fine.emp (d n : Nat) : Fine (d + 1) n emp := by
  refine ⟨⟨rfl, by decide, by decide, fun h => ?_, fun h => ?_, fun h => ?_, fun h => ?_, fun h => ?_⟩, fun y hy => ?_, ⟨fun _ => rfl, fun y hy => ?_⟩, rfl, ?_⟩
  · change 2 = 3 at h; omega
  · change 2 = 4 at h; omega
  · change 13 ≤ 2 at h; omega
  · change 2 = 17 at h; omega
  · change 18 ≤ 2 at h; omega
  · simp [Rg.emp, Tr.subs] at hy
  · simp [Rg.emp, Tr.subs] at hy
  · rw [size_succ]; simp [Rg.emp, Tr.op]
/-- Two trees of the same words. -/
structure Alike (d : Nat) (A B : Tr) : Prop where
  fa : Fine d 262144 A
  fb : Fine d 262144 B
  eq : ∀ s, lang d A s ↔ lang d B s
section
theorem star_lang (d : Nat) (t : Tr) (s : List Nat) : lang (d + 1) (nod 14 [t]) s ↔ Star (lang d t) s := Iff.rfl
theorem quest_lang (d : Nat) (t : Tr) (s : List Nat) : lang (d + 1) (nod 16 [t]) s ↔ (s = [] ∨ lang d t s) := Iff.rfl
theorem cat_lang (d : Nat) (l : List Tr) (s : List Nat) : lang (d + 1) (nod 18 l) s ↔ CatL (l.map (lang d)) s := Iff.rfl
theorem map_rep {α β : Type} (f : α → β) (x : α) : ∀ n : Nat, (List.replicate n x).map f = List.replicate n (f x) := by
  intro n; simp
variable {a : Tr} (h : Fine 4 11000 a)
include h
theorem times_star : Alike 6 (nod 14 [a]) (nod 14 [nod 14 [a]]) := by
  refine ⟨((h.one 14 (by omega) (by omega)).up).more (by omega), ((h.one 14 (by omega) (by omega)).one 14 (by omega) (by omega)).more (by omega), fun s => ?_⟩
  show Star (lang 5 a) s ↔ Star (fun s => Star (lang 4 a) s) s
  rw [h.lang]
  exact (star_star _ s).symm
theorem times_plus : Alike 6 (nod 15 [a]) (nod 18 [a, nod 14 [a]]) := by
  refine ⟨((h.one 15 (by omega) (by omega)).up).more (by omega), ?_, fun s => ?_⟩
  · refine (Fine.many (n := 11002) 18 (fun x hx => ?_) (Or.inl rfl) (by simp) (by simp)).more (by omega)
    simp at hx
    rcases hx with rfl | rfl
    · exact h.up.more (by omega)
    · exact h.one 14 (by omega) (by omega)
  · show (∃ b c, s = b ++ c ∧ lang 5 a b ∧ Star (lang 5 a) c) ↔ CatL [lang 5 a, fun s => Star (lang 4 a) s] s
    rw [h.lang]
    constructor
    · rintro ⟨b, c, rfl, hb, hc⟩; exact ⟨b, c, rfl, hb, c, [], by simp, hc, rfl⟩
    · rintro ⟨b, c, rfl, hb, e, f, rfl, he, rfl⟩; exact ⟨b, e, by simp, hb, he⟩
theorem times_quest : Alike 6 (nod 16 [a]) (nod 19 [a, emp]) := by
  refine ⟨((h.one 16 (by omega) (by omega)).up).more (by omega), ?_, fun s => ?_⟩
  · refine (Fine.many (n := 11002) 19 (fun x hx => ?_) (Or.inr rfl) (by simp) (by simp)).more (by omega)
    simp at hx
    rcases hx with rfl | rfl
    · exact h.up.more (by omega)
    · exact Fine.emp 4 _
  · show (s = [] ∨ lang 5 a s) ↔ ∃ L ∈ [lang 5 a, fun s => s = []], L s
    constructor
    · rintro (e | e)
      · exact ⟨fun s => s = [], by simp, e⟩
      · exact ⟨_, List.mem_cons_self, e⟩
    · rintro ⟨L, hL, e⟩
      simp at hL
      rcases hL with rfl | rfl
      · exact Or.inr e
      · exact Or.inl e
theorem times_cap : Alike 6 (nod 13 [a]) a := by
  refine ⟨((h.one 13 (by omega) (by omega)).up).more (by omega), (h.up.up).more (by omega), fun s => ?_⟩
  show lang 5 a s ↔ lang 6 a s
  rw [h.up.lang]
theorem times_rep (n m : Nat) (hn : n ≤ 3) (hm : 1 ≤ n + m) (hm2 : n + m ≤ 5) : Alike 6 (rep n ((n + m : Nat) : Int) a) (nod 18 (List.replicate n a ++ List.replicate m (nod 16 [a]))) := by
  refine ⟨((h.rep n ((n + m : Nat) : Int) (by omega) (by omega) (Or.inr (by omega))).up).more (by omega), ?_, fun s => ?_⟩
  · refine (Fine.many (n := 11002) 18 (fun x hx => ?_) (Or.inl rfl) (fun e => ?_) (by simp; omega)).more (by omega)
    · rcases List.mem_append.1 hx with hx | hx
      · rw [(List.mem_replicate.1 hx).2]; exact h.up.more (by omega)
      · rw [(List.mem_replicate.1 hx).2]; exact h.one 16 (by omega) (by omega)
    · have := congrArg List.length e; simp at this; omega
  · show (∃ b c, s = b ++ c ∧ Pow (lang 5 a) (n : Int).toNat b ∧ (if ((n + m : Nat) : Int) = -1 then Star (lang 5 a) c else Opt (lang 5 a) (((n + m : Nat) : Int) - n).toNat c)) ↔ CatL ((List.replicate n a ++ List.replicate m (nod 16 [a])).map (lang 5)) s
    have i1 : ∀ c, (if ((n + m : Nat) : Int) = -1 then Star (lang 5 a) c else Opt (lang 5 a) (((n + m : Nat) : Int) - n).toNat c) = Opt (lang 5 a) m c := fun c => by
      rw [if_neg (by omega), show (((n + m : Nat) : Int) - n).toNat = m by omega]
    simp only [i1]
    rw [show (n : Int).toNat = n by omega, List.map_append, map_rep, map_rep, catL_append]
    have e : lang 5 (nod 16 [a]) = fun s => s = [] ∨ lang 5 a s := by rw [h.lang]; rfl
    rw [e]
    constructor
    · rintro ⟨b, c, e, hb, hc⟩; exact ⟨b, c, e, (catL_pow _ _ _).mpr hb, (catL_opt _ _ _).mpr hc⟩
    · rintro ⟨b, c, e, hb, hc⟩; exact ⟨b, c, e, (catL_pow _ _ _).mp hb, (catL_opt _ _ _).mp hc⟩
theorem times_ever (n : Nat) (hn : n ≤ 3) : Alike 6 (rep n (-1) a) (nod 18 (List.replicate n a ++ [nod 14 [a]])) := by
  refine ⟨((h.rep n (-1) (by omega) (by omega) (Or.inl rfl)).up).more (by omega), ?_, fun s => ?_⟩
  · refine (Fine.many (n := 11002) 18 (fun x hx => ?_) (Or.inl rfl) (by simp) (by simp; omega)).more (by omega)
    rcases List.mem_append.1 hx with hx | hx
    · rw [(List.mem_replicate.1 hx).2]; exact h.up.more (by omega)
    · simp at hx; subst hx; exact h.one 14 (by omega) (by omega)
  · show (∃ b c, s = b ++ c ∧ Pow (lang 5 a) (n : Int).toNat b ∧ (if (-1 : Int) = -1 then Star (lang 5 a) c else Opt (lang 5 a) ((-1 : Int) - n).toNat c)) ↔ CatL ((List.replicate n a ++ [nod 14 [a]]).map (lang 5)) s
    have i1 : ∀ c, (if (-1 : Int) = -1 then Star (lang 5 a) c else Opt (lang 5 a) ((-1 : Int) - n).toNat c) = Star (lang 5 a) c := fun c => if_pos rfl
    simp only [i1]
    rw [show (n : Int).toNat = n by omega, List.map_append, map_rep, catL_append]
    have e : lang 5 (nod 14 [a]) = Star (lang 5 a) := by rw [h.lang]; rfl
    rw [List.map_cons, List.map_nil, e]
    constructor
    · rintro ⟨b, c, e, hb, hc⟩; exact ⟨b, c, e, (catL_pow _ _ _).mpr hb, (catL_one _ _).mpr hc⟩
    · rintro ⟨b, c, e, hb, hc⟩; exact ⟨b, c, e, (catL_pow _ _ _).mp hb, (catL_one _ _).mp hc⟩
end
theorem either_fine {a b : Tr} (ha : Fine 4 70000 a) (hb : Fine 4 70000 b) (hs : size 4 a + size 4 b ≤ 262000) : Fine 5 262144 (nod 19 [a, b]) := by
  have h0 := Fine.many (n := 70000) 19 (l := [a, b]) (fun x hx => by simp at hx; rcases hx with rfl | rfl; exact ha; exact hb) (Or.inr rfl) (by simp) (by simp)
  refine ⟨h0.wf, h0.dp, h0.lf, h0.bd, ?_⟩
  have : size 5 (nod 19 [a, b]) = size 4 a + 2 + (size 4 b + 2 + 0) := rfl
  omega
theorem either_lang (a b : Tr) (s : List Nat) : lang 5 (nod 19 [a, b]) s ↔ (lang 4 a s ∨ lang 4 b s) := by
  show (∃ L ∈ [lang 4 a, lang 4 b], L s) ↔ _
  simp
theorem either_places (a b : Tr) : places 5 (nod 19 [a, b]) = places 4 a + places 4 b := by
  show places 4 a + (places 4 b + 0) = _
  omega
end Go.Rg
