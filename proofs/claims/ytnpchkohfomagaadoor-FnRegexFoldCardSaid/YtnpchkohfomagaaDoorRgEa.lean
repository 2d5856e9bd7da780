/- The spec's own expressions, plain: the tree that Expression makes; it is well formed. (and what follows) -/
import Derived.Test.YtnpchkohfomagaaDoorRgY2
import Derived.Test.YtnpchkohfomagaaDoorRgXa
import Derived.Test.YtnpchkohfomagaaDoorRgPb
import Derived.Test.YtnpchkohfomagaaDoorFLib
/-! The spec's own expressions, plain: the tree that Expression makes; it is well formed. -/
namespace Go.Proofs.YtnpchkohfomagaaDoor.Rgy
open Go.Utf Go.Rg
set_option linter.unusedVariables false
set_option linter.unusedSimpArgs false
/-- An expression as it came in. -/
inductive Rw
  | mk (op : Int) (runes : List Int) (mn mx : Int) (lazy fold : Bool) (subs : List Rw)
namespace Rw
def op : Rw → Int | mk o _ _ _ _ _ _ => o
def runes : Rw → List Int | mk _ r _ _ _ _ _ => r
def mn : Rw → Int | mk _ _ m _ _ _ _ => m
def mx : Rw → Int | mk _ _ _ m _ _ _ => m
def subs : Rw → List Rw | mk _ _ _ _ _ _ s => s
end Rw
def ops14 : List Nat := [2, 3, 3, 4, 4, 6, 5, 18, 19, 14, 15, 16, 17, 13]
def exOp (leaf : Bool) (r : Rw) : Nat :=
  let o := ops14.getD (atP r.op 14) 2
  if leaf = true ∧ 6 < o then 3 else o
def litP (l : List Int) : List Int := if l.length = 0 then [97] else (l.take 4).map letP
def mxP (mn mx : Int) : Int := if 0 ≤ mx then max 1 ((atP mn 4 : Int) + (atP mx 3 : Int)) else -1
/-- What Expression makes of it. -/
def ex : Nat → Rw → Tr
  | 0, r => .mk 2 false false [] 0 0 []
  | d + 1, r =>
    let o := exOp (decide (d = 0) || decide (r.subs.length = 0)) r
    if o = 2 ∨ o = 5 ∨ o = 6 then .mk o false false [] 0 0 []
    else if o = 3 then .mk 3 false false (litP r.runes) 0 0 []
    else if o = 4 then .mk 4 false false (pairsP r.runes) 0 0 []
    else .mk o false false [] (if o = 17 then (atP r.mn 4 : Int) else 0) (if o = 17 then mxP r.mn r.mx else 0) ((r.subs.take (if 18 ≤ o then 3 else 1)).map (ex d))
theorem prs_app : ∀ (l : List Int) (a b : Int) (k : Nat), l.length = 2 * k → prs (l ++ [a, b]) = prs l ++ [(a, b)] := by
  intro l
  induction l using prs.induct with
  | case1 x y r ih =>
    intro a b k h
    simp only [List.cons_append, prs]
    rw [ih a b (k - 1) (by simp at h; omega)]
  | case2 l h =>
    intro a b k hk
    match l, h, hk with
    | [], _, _ => simp [prs]
    | [x], _, hk => simp at hk; omega
    | x :: y :: r, h, _ => exact absurd rfl (h x y r)
theorem pa_pb (x y : Int) : Let (pa x y) ∧ Let (pb x y) ∧ pa x y ≤ pb x y := by
  unfold pa pb
  split
  · exact ⟨letP_let _, letP_let _, by omega⟩
  · exact ⟨letP_let _, letP_let _, by omega⟩
theorem pk_ok (l : List Int) : ∀ k, (∃ j, (pk l k).length = 2 * j ∧ j ≤ k) ∧ ∀ q ∈ prs (pk l k), Let q.1 ∧ Let q.2 ∧ q.1 ≤ q.2 := by
  intro k
  induction k with
  | zero => exact ⟨⟨0, by simp [pk], Nat.le_refl _⟩, fun q h => by simp [pk, prs] at h⟩
  | succ k ih =>
    obtain ⟨⟨j, h1, h2⟩, h3⟩ := ih
    rw [pk, pstep]
    split
    · exact ⟨⟨j, h1, by omega⟩, h3⟩
    · refine ⟨⟨j + 1, by simp [h1]; omega, by omega⟩, fun q hq => ?_⟩
      rw [prs_app _ _ _ j h1] at hq
      rcases List.mem_append.1 hq with hq | hq
      · exact h3 q hq
      · simp at hq; subst hq; exact pa_pb _ _
theorem pairs_ok (l : List Int) : pairsP l ≠ [] ∧ (∃ j, (pairsP l).length = 2 * j ∧ j ≤ 4) ∧ ∀ q ∈ prs (pairsP l), Let q.1 ∧ Let q.2 ∧ q.1 ≤ q.2 := by
  have h := pk_ok l (pm l)
  have hm : pm l ≤ 4 := Nat.min_le_left _ _
  unfold pairsP
  split
  · refine ⟨by simp, ⟨1, rfl, by omega⟩, fun q hq => ?_⟩
    simp [prs] at hq; subst hq; simp [Let]
  · rename_i hz
    obtain ⟨⟨j, h1, h2⟩, h3⟩ := h
    exact ⟨fun e => hz (by rw [e]; rfl), ⟨j, h1, by omega⟩, h3⟩
theorem lit_ok (l : List Int) : litP l ≠ [] ∧ (litP l).length ≤ 4 ∧ ∀ r ∈ litP l, Let r := by
  unfold litP
  split
  · exact ⟨by simp, by simp, fun r h => by simp at h; subst h; simp [Let]⟩
  · rename_i hz
    refine ⟨fun e => ?_, by simp; omega, fun r h => ?_⟩
    · have := congrArg List.length e; simp at this
      exact hz (by rw [this]; rfl)
    · obtain ⟨x, _, rfl⟩ := List.mem_map.1 h
      exact letP_let x
theorem exOp_le (lf : Bool) (r : Rw) : 2 ≤ exOp lf r ∧ exOp lf r ≤ 19 ∧ (exOp lf r ≤ 6 ∨ (13 ≤ exOp lf r ∧ lf = false)) := by
  have h := atP_lt r.op 14 (by omega)
  unfold exOp
  generalize atP r.op 14 = n at h
  match n, h with
  | 0, _ | 1, _ | 2, _ | 3, _ | 4, _ | 5, _ | 6, _ | 7, _ | 8, _ | 9, _ | 10, _ | 11, _ | 12, _ | 13, _ => cases lf <;> decide
  | n + 14, h => omega
theorem atP4 (x : Int) : (0 : Int) ≤ (atP x 4 : Int) ∧ (atP x 4 : Int) ≤ 3 := by have := atP_lt x 4 (by omega); omega
theorem mxP_ok (mn mx : Int) : mxP mn mx ≤ 1000 ∧ (mxP mn mx = -1 ∨ (1 ≤ mxP mn mx ∧ (atP mn 4 : Int) ≤ mxP mn mx)) := by
  have h1 := atP_lt mn 4 (by omega)
  have h2 := atP_lt mx 3 (by omega)
  unfold mxP
  split
  · refine ⟨by omega, Or.inr ⟨by omega, by omega⟩⟩
  · exact ⟨by omega, Or.inl rfl⟩
theorem ex_step (d : Nat) (hs : ∀ r, 0 < d → WF d (ex d r)) (r : Rw) : WF (d + 1) (ex (d + 1) r) := by
  have ho := exOp_le (decide (d = 0) || decide (r.subs.length = 0)) r
  rw [ex]
  generalize exOp (decide (d = 0) || decide (r.subs.length = 0)) r = o at ho
  skip
  split
  · simp only [WF, Tr.op, Tr.fold, Tr.runes, Tr.subs, Tr.mn, Tr.mx]
    refine ⟨trivial, by omega, by omega, fun h => by omega, fun h => by omega, fun h1 h2 => by omega, fun h => by omega, fun h => by omega⟩
  · split
    · simp only [WF, Tr.op, Tr.fold, Tr.runes, Tr.subs, Tr.mn, Tr.mx]
      refine ⟨trivial, by omega, by omega, fun _ => (lit_ok r.runes).2.2, fun h => by omega, fun h1 h2 => by omega, fun h => by omega, fun h => by omega⟩
    · split
      · simp only [WF, Tr.op, Tr.fold, Tr.runes, Tr.subs, Tr.mn, Tr.mx]
        obtain ⟨p1, ⟨j, p2, p3⟩, p4⟩ := pairs_ok r.runes
        refine ⟨trivial, by omega, by omega, fun h => by omega, fun _ => ⟨p1, ⟨j, p2, by omega⟩, p4⟩, fun h1 h2 => by omega, fun h => by omega, fun h => by omega⟩
      · have hlf : d ≠ 0 ∧ r.subs.length ≠ 0 := by
          rcases ho.2.2 with h | ⟨_, h⟩
          · omega
          · simpa using h
        have hd : 0 < d := by omega
        simp only [WF, Tr.op, Tr.fold, Tr.runes, Tr.subs, Tr.mn, Tr.mx]
        obtain ⟨y, ys, hy⟩ : ∃ y ys, r.subs = y :: ys := by
          cases e : r.subs with
          | nil => exact absurd (by rw [e]; rfl) hlf.2
          | cons y ys => exact ⟨y, ys, rfl⟩
        refine ⟨trivial, by omega, by omega, fun h => by omega, fun h => by omega, fun h1 h2 => ⟨ex d y, ?_, hs y hd⟩, fun h => ?_, fun h => ⟨?_, fun x hx => ?_, ?_⟩⟩
        · rw [if_neg (by omega), hy]; rfl
        · rw [if_pos h, if_pos h]
          have := mxP_ok r.mn r.mx
          have := atP4 r.mn
          refine ⟨by omega, by omega, by omega, by omega⟩
        · rw [hy, if_pos h]; simp
        · obtain ⟨z, _, rfl⟩ := List.mem_map.1 hx
          exact hs z hd
        · rw [if_pos h]; simp; omega
theorem ex_wf : ∀ (d : Nat) (r : Rw), 0 < d → WF d (ex d r) := by
  intro d
  induction d with
  | zero => intro r h; omega
  | succ d ih => intro r _; exact ex_step d ih r
end Go.Proofs.YtnpchkohfomagaaDoor.Rgy
/-! The spec's own expressions, plain: how long their codes are. -/
namespace Go.Proofs.YtnpchkohfomagaaDoor.Rgy
open Go.Utf Go.Rg Go.Proofs.YtnpchkohfomagaaDoor.Seq
set_option linter.unusedVariables false
set_option linter.unusedSimpArgs false
def exF : Nat → Nat
  | 0 => 0
  | d + 1 => max 1448 (5 * exF d + 10)
theorem sum_le {α : Type} (f : α → Nat) (c : Nat) : ∀ (l : List α), (∀ x ∈ l, f x ≤ c) → (l.map f).sum ≤ l.length * c := by
  intro l
  induction l with
  | nil => intro _; simp
  | cons a r ih =>
    intro h
    have h1 := h a (by simp)
    have h2 := ih fun x hx => h x (by simp [hx])
    simp only [List.map_cons, List.sum_cons, List.length_cons]
    rw [Nat.add_mul]
    omega
theorem prs_len : ∀ (l : List Int), 2 * (prs l).length ≤ l.length := by
  intro l
  induction l using prs.induct with
  | case1 x y r ih => simp only [prs, List.length_cons]; omega
  | case2 l h =>
    match l, h with
    | [], _ => simp [prs]
    | [x], _ => simp [prs]
    | x :: y :: r, h => exact absurd rfl (h x y r)
theorem rngZ_le (h : Int) : rngZ h ≤ 360 := by unfold rngZ; split <;> omega
theorem mxP_le5 (mn mx : Int) : mxP mn mx ≤ 5 := by
  have h1 := atP_lt mn 4 (by omega)
  have h2 := atP_lt mx 3 (by omega)
  unfold mxP
  split <;> omega
theorem ex_size : ∀ (d : Nat) (r : Rw), size d (ex d r) ≤ exF d := by
  intro d
  induction d with
  | zero => intro r; simp [size]
  | succ d ih =>
    intro r
    have ho := exOp_le (decide (d = 0) || decide (r.subs.length = 0)) r
    have hF : 1448 ≤ exF (d + 1) ∧ 5 * exF d + 10 ≤ exF (d + 1) := by simp only [exF]; omega
    have hcls : ∀ l : List Int, l.length ≤ 8 → ((prs l).map fun q => rngZ q.2 + 2).sum ≤ 1448 := fun l hl => by
      have h1 := sum_le (fun q : Int × Int => rngZ q.2 + 2) 362 (prs l) (fun q _ => by have := rngZ_le q.2; omega)
      have h2 := prs_len l
      have h3 : (prs l).length * 362 ≤ 4 * 362 := Nat.mul_le_mul_right _ (by omega)
      omega
    rw [ex]
    generalize exOp (decide (d = 0) || decide (r.subs.length = 0)) r = o at ho
    skip
    split
    · rename_i h
      simp only [size, Tr.op, Tr.runes, rsOf]
      rcases h with h | h | h <;> subst h <;> simp
      · exact Nat.le_trans (hcls [0, 9, 11, 1114111] (by simp)) hF.1
      · exact Nat.le_trans (hcls [0, 1114111] (by simp)) hF.1
    · split
      · simp only [size, Tr.op, Tr.runes]
        have h1 := sum_le wid 4 (litP r.runes) (fun x _ => (wid_le4 x).2)
        have h2 := (lit_ok r.runes).2.1
        simp
        omega
      · split
        · simp only [size, Tr.op, Tr.runes, rsOf]
          obtain ⟨_, ⟨j, p2, p3⟩, _⟩ := pairs_ok r.runes
          have := hcls (pairsP r.runes) (by omega)
          simp
          omega
        · rename_i n1 n2 n3
          have hsub : size d ((Tr.mk o false false [] (if o = 17 then (atP r.mn 4 : Int) else 0) (if o = 17 then mxP r.mn r.mx else 0) ((r.subs.take (if 18 ≤ o then 3 else 1)).map (ex d))).sub) ≤ exF d := by
            unfold Tr.sub Tr.subs
            cases e : (r.subs.take (if 18 ≤ o then 3 else 1)) with
            | nil => cases d <;> simp [size, Tr.zero, Tr.op]
            | cons y ys => exact ih y
          have hl3 : (r.subs.take (if 18 ≤ o then 3 else 1)).length ≤ 3 := by simp; split <;> omega
          have hs1 := sum_le (fun x => size d (ex d x)) (exF d) (r.subs.take (if 18 ≤ o then 3 else 1)) (fun x _ => ih x)
          have hs2 := sum_le (fun x => size d (ex d x) + 2) (exF d + 2) (r.subs.take (if 18 ≤ o then 3 else 1)) (fun x _ => by have := ih x; omega)
          have hm1 : (r.subs.take (if 18 ≤ o then 3 else 1)).length * exF d ≤ 3 * exF d := Nat.mul_le_mul_right _ hl3
          have hm2 : (r.subs.take (if 18 ≤ o then 3 else 1)).length * (exF d + 2) ≤ 3 * (exF d + 2) := Nat.mul_le_mul_right _ hl3
          have h4 := atP4 r.mn
          have h5 := mxP_le5 r.mn r.mx
          generalize hS : size d (Tr.sub _) = S at hsub
          have g1 : ((atP r.mn 4 : Int).toNat + 1) * S ≤ 4 * S := Nat.mul_le_mul_right _ (by omega)
          have g2 : (mxP r.mn r.mx).toNat * (S + 1) ≤ 5 * (S + 1) := Nat.mul_le_mul_right _ (by omega)
          rw [size, hS]
          simp only [Tr.op, Tr.mn, Tr.mx, Tr.subs, List.map_map, Function.comp_def]
          repeat' split
          all_goals (first | omega | (simp_all; omega))
theorem ex_small (r : Rw) : size 5 (ex 5 r) ≤ 999990 := Nat.le_trans (ex_size 5 r) (by decide)
end Go.Proofs.YtnpchkohfomagaaDoor.Rgy
/-! The spec's own expressions, plain: nothing is wrong with them. -/
namespace Go.Proofs.YtnpchkohfomagaaDoor.Rgy
open Go.Utf Go.Rg
set_option linter.unusedVariables false
set_option linter.unusedSimpArgs false
theorem bad_mk (d o : Nat) (a b : Int) (ss : List Tr) (h : 13 ≤ o) : bad (d + 1) (.mk o false false [] a b ss) = if o ≤ 17 then bad d (ss.headD Tr.zero) else (ss.map (bad d)).findSome? id := by
  have e1 : ¬ (7 ≤ o ∧ o ≤ 10) := by omega
  have e2 : ¬ (o = 11 ∨ o = 12) := by omega
  have e3 : ¬ o < 13 := by omega
  have e : bad (d + 1) (.mk o false false [] a b ss) = (if 7 ≤ o ∧ o ≤ 10 then some 2 else if o = 11 ∨ o = 12 then some 3 else if o < 13 then none else if o ≤ 17 then bad d (ss.headD Tr.zero) else (ss.map (bad d)).findSome? id) := rfl
  rw [e, if_neg e1, if_neg e2, if_neg e3]
theorem ex_bad : ∀ (d : Nat) (r : Rw), bad d (ex d r) = none := by
  intro d
  induction d with
  | zero => intro r; rfl
  | succ d ih =>
    intro r
    have ho := exOp_le (decide (d = 0) || decide (r.subs.length = 0)) r
    rw [ex]
    generalize exOp (decide (d = 0) || decide (r.subs.length = 0)) r = o at ho
    skip
    split
    · rename_i h
      rcases h with h | h | h <;> subst h <;> rfl
    · split
      · rfl
      · split
        · rfl
        · have h13 : 13 ≤ o := by omega
          rw [bad_mk d o _ _ _ h13]
          split
          · cases e : (r.subs.take (if 18 ≤ o then 3 else 1)) with
            | nil => cases d <;> simp [bad, Tr.zero, Tr.op, Tr.lazy]
            | cons y ys => exact ih y
          · rw [List.findSome?_eq_none_iff]
            intro x hx
            obtain ⟨y, hy, rfl⟩ := List.mem_map.1 hx
            obtain ⟨z, _, rfl⟩ := List.mem_map.1 hy
            rw [ih z]; rfl
end Go.Proofs.YtnpchkohfomagaaDoor.Rgy
/-! The spec's own expressions, plain: few places, short code. -/
namespace Go.Proofs.YtnpchkohfomagaaDoor.Rgy
open Go.Utf Go.Rg Go.Proofs.YtnpchkohfomagaaDoor.Seq
set_option linter.unusedVariables false
set_option linter.unusedSimpArgs false
def exB : Nat → Nat
  | 0 => 0
  | d + 1 => 5 * exB d + 10
theorem sum_lin {α : Type} (f g : α → Nat) (c b : Nat) : ∀ (l : List α), (∀ x ∈ l, f x ≤ c * g x + b) → (l.map f).sum ≤ c * (l.map g).sum + l.length * b := by
  intro l
  induction l with
  | nil => intro _; simp
  | cons a r ih =>
    intro h
    have h1 := h a (by simp)
    have h2 := ih fun x hx => h x (by simp [hx])
    simp only [List.map_cons, List.sum_cons, List.length_cons]
    rw [Nat.add_mul, Nat.mul_add]
    omega
theorem rng_lin (b : Int) : rngZ b + 2 ≤ 363 * rngN b + 0 := by unfold rngZ rngN; split <;> simp
theorem ex_lin : ∀ (d : Nat) (r : Rw), size d (ex d r) ≤ 363 * places d (ex d r) + exB d := by
  intro d
  induction d with
  | zero => intro r; simp [size]
  | succ d ih =>
    intro r
    have ho := exOp_le (decide (d = 0) || decide (r.subs.length = 0)) r
    have hcls : ∀ l : List Int, ((prs l).map fun q => rngZ q.2 + 2).sum ≤ 363 * ((prs l).map fun q => rngN q.2).sum := fun l => by
      have h1 := sum_lin (fun q : Int × Int => rngZ q.2 + 2) (fun q => rngN q.2) 363 0 (prs l) (fun q _ => rng_lin q.2)
      omega
    rw [ex]
    generalize exOp (decide (d = 0) || decide (r.subs.length = 0)) r = o at ho
    skip
    split
    · rename_i h
      simp only [size, places, Tr.op, Tr.runes, rsOf]
      rcases h with h | h | h <;> subst h <;> simp
      · exact Nat.le_trans (hcls [0, 9, 11, 1114111]) (Nat.le_add_right _ _)
      · exact Nat.le_trans (hcls [0, 1114111]) (Nat.le_add_right _ _)
    · split
      · simp only [size, places, Tr.op, Tr.runes]
        simp
        omega
      · split
        · simp only [size, places, Tr.op, Tr.runes, rsOf]
          have := hcls (pairsP r.runes)
          simp
          omega
        · rename_i n1 n2 n3
          have h13 : 13 ≤ o := by omega
          have hl3 : (r.subs.take (if 18 ≤ o then 3 else 1)).length ≤ 3 := by simp; split <;> omega
          have q1 := sum_lin (fun x => size d (ex d x)) (fun x => places d (ex d x)) 363 (exB d) (r.subs.take (if 18 ≤ o then 3 else 1)) (fun x _ => ih x)
          have q2 := sum_lin (fun x => size d (ex d x) + 2) (fun x => places d (ex d x)) 363 (exB d + 2) (r.subs.take (if 18 ≤ o then 3 else 1)) (fun x _ => by have := ih x; omega)
          have m1 : (r.subs.take (if 18 ≤ o then 3 else 1)).length * exB d ≤ 3 * exB d := Nat.mul_le_mul_right _ hl3
          have m2 : (r.subs.take (if 18 ≤ o then 3 else 1)).length * (exB d + 2) ≤ 3 * (exB d + 2) := Nat.mul_le_mul_right _ hl3
          have hsub : size d ((Tr.mk o false false [] (if o = 17 then (atP r.mn 4 : Int) else 0) (if o = 17 then mxP r.mn r.mx else 0) ((r.subs.take (if 18 ≤ o then 3 else 1)).map (ex d))).sub) ≤ 363 * ((r.subs.take (if 18 ≤ o then 3 else 1)).map (fun x => places d (ex d x))).sum + exB d := by
            unfold Tr.sub Tr.subs
            cases e : (r.subs.take (if 18 ≤ o then 3 else 1)) with
            | nil => cases d <;> simp [size, Tr.zero, Tr.op]
            | cons y ys =>
              have := ih y
              simp only [List.map_cons, List.headD_cons, List.sum_cons]
              omega
          have h4 := atP4 r.mn
          have h5 := mxP_le5 r.mn r.mx
          have h6 := mxP_ok r.mn r.mx
          rw [size, places]
          simp only [Tr.op, Tr.mn, Tr.mx, Tr.subs, List.map_map, Function.comp_def]
          generalize size d (Tr.sub _) = S at hsub ⊢
          generalize ((r.subs.take (if 18 ≤ o then 3 else 1)).map (fun x => places d (ex d x))).sum = n at hsub q1 q2 ⊢
          generalize ((r.subs.take (if 18 ≤ o then 3 else 1)).map (fun x => size d (ex d x))).sum = s1 at q1 ⊢
          generalize ((r.subs.take (if 18 ≤ o then 3 else 1)).map (fun x => size d (ex d x) + 2)).sum = s2 at q2 ⊢
          have hB : exB (d + 1) = 5 * exB d + 10 := rfl
          rw [hB]
          generalize exB d = B at *
          have c2 : ¬ o = 2 := by omega
          have c3 : ¬ o = 3 := by omega
          have c4 : ¬ (o = 4 ∨ o = 5 ∨ o = 6) := by omega
          rw [if_neg c2, if_neg c2, if_neg c3, if_neg c3, if_neg c4, if_neg c4]
          by_cases o17 : o = 17
          · subst o17
            simp
            obtain ⟨a, ha⟩ : ∃ a, a = atP r.mn 4 := ⟨_, rfl⟩
            rw [← ha] at h4 h6 ⊢
            generalize mxP r.mn r.mx = m at h5 h6 ⊢
            split
            · rename_i hm
              have e1 : (max (a : Int) m).toNat = a := by omega
              rw [e1]
              have g1 : (a + 1) * S ≤ (a + 1) * (363 * n + B) := Nat.mul_le_mul_left _ hsub
              have g2 : (a + 1) * B ≤ 4 * B := Nat.mul_le_mul_right _ (by omega)
              have g3 : (a + 1) * (363 * n + B) = 363 * (n * (a + 1)) + (a + 1) * B := by
                rw [Nat.mul_add, Nat.mul_left_comm, Nat.mul_comm n]
              omega
            · rename_i hm
              obtain ⟨mm, rfl⟩ := Int.eq_ofNat_of_zero_le (show (0 : Int) ≤ m by omega)
              have e1 : (max (a : Int) (mm : Int)).toNat = mm := by omega
              rw [e1, Int.toNat_natCast]
              have g1 : mm * (S + 1) ≤ mm * (363 * n + (B + 1)) := Nat.mul_le_mul_left _ (by omega)
              have g2 : mm * (B + 1) ≤ 5 * (B + 1) := Nat.mul_le_mul_right _ (by omega)
              have g3 : mm * (363 * n + (B + 1)) = 363 * (n * mm) + mm * (B + 1) := by
                rw [Nat.mul_add, Nat.mul_left_comm, Nat.mul_comm n]
              have g4 : n * (mm + 1) = n * mm + n := by rw [Nat.mul_add, Nat.mul_one]
              omega
          · repeat' split
            all_goals omega
theorem ex_few (r : Rw) (h : places 5 (ex 5 r) ≤ 5) : size 5 (ex 5 r) ≤ 262144 := by
  have := ex_lin 5 r
  have h2 : exB 5 = 7810 := by decide
  omega
end Go.Proofs.YtnpchkohfomagaaDoor.Rgy
/-! The spec's own expressions, plain: no deeper than asked for, fine for an automaton; one that is spoilt at a place. -/
namespace Go.Proofs.YtnpchkohfomagaaDoor.Rgy
open Go.Utf Go.Rg Go.Proofs.YtnpchkohfomagaaDoor.Seq
set_option linter.unusedVariables false
set_option linter.unusedSimpArgs false
/-- What Expression makes: a leaf, or a node over what it makes of the first parts. -/
theorem ex_forms (d : Nat) (r : Rw) : (∃ o rs, ex (d + 1) r = .mk o false false rs 0 0 [] ∧ 2 ≤ o ∧ o ≤ 6) ∨
    (∃ o mn mx, 0 < d ∧ ex (d + 1) r = .mk o false false [] mn mx ((r.subs.take (if 18 ≤ o then 3 else 1)).map (ex d)) ∧ 13 ≤ o ∧ o ≤ 19 ∧ r.subs ≠ [] ∧ (o = 17 → 0 ≤ mn ∧ mn ≤ 3 ∧ mx ≤ 5 ∧ (mx = -1 ∨ (1 ≤ mx ∧ mn ≤ mx))) ∧ (o ≠ 17 → mn = 0 ∧ mx = 0)) := by
  have ho := exOp_le (decide (d = 0) || decide (r.subs.length = 0)) r
  rw [ex]
  generalize exOp (decide (d = 0) || decide (r.subs.length = 0)) r = o at ho
  skip
  split
  · rename_i h
    exact Or.inl ⟨o, [], rfl, by omega, by omega⟩
  · split
    · exact Or.inl ⟨3, _, rfl, by omega, by omega⟩
    · split
      · exact Or.inl ⟨4, _, rfl, by omega, by omega⟩
      · have hlf : d ≠ 0 ∧ r.subs.length ≠ 0 := by
          rcases ho.2.2 with h | ⟨_, h⟩
          · omega
          · simpa using h
        refine Or.inr ⟨o, _, _, by omega, rfl, by omega, by omega, fun e => hlf.2 (by rw [e]; rfl), fun e => ?_, fun e => ?_⟩
        · rw [if_pos e, if_pos e]
          have h1 := atP4 r.mn
          have h2 := mxP_ok r.mn r.mx
          have h3 := mxP_le5 r.mn r.mx
          exact ⟨h1.1, h1.2, h3, h2.2⟩
        · rw [if_neg e, if_neg e]; exact ⟨rfl, rfl⟩
theorem ex_dp : ∀ (d : Nat) (r : Rw), 0 < d → Dp d (ex d r) := by
  intro d
  induction d with
  | zero => intro r h; omega
  | succ d ih =>
    intro r _
    rcases ex_forms d r with ⟨o, rs, e, _⟩ | ⟨o, mn, mx, hd, e, _⟩
    · rw [e]; intro x hx; simp [Tr.subs] at hx
    · rw [e]; intro x hx
      obtain ⟨y, _, rfl⟩ := List.mem_map.1 (show x ∈ (r.subs.take (if 18 ≤ o then 3 else 1)).map (ex d) from hx)
      exact ih y hd
theorem ex_lf : ∀ (d : Nat) (r : Rw), Lf d (ex d r) := by
  intro d
  induction d with
  | zero => intro r; trivial
  | succ d ih =>
    intro r
    rcases ex_forms d r with ⟨o, rs, e, _⟩ | ⟨o, mn, mx, hd, e, h13, _⟩
    · rw [e]; exact ⟨fun _ => rfl, fun x hx => by simp [Tr.subs] at hx⟩
    · rw [e]
      refine ⟨fun h => absurd h (by show ¬ o < 13; omega), fun x hx => ?_⟩
      obtain ⟨y, _, rfl⟩ := List.mem_map.1 (show x ∈ (r.subs.take (if 18 ≤ o then 3 else 1)).map (ex d) from hx)
      exact ih y
theorem ex_fine (d : Nat) (r : Rw) (hd : 0 < d) : Fine d (363 * places d (ex d r) + exB d) (ex d r) := ⟨ex_wf d r hd, ex_dp d r hd, ex_lf d r, ex_bad d r, ex_lin d r⟩
/-- A node's length, of its parts'. -/
def ndS (o : Nat) (mn mx : Int) (S : List Nat) : Nat :=
  if o = 13 then S.headD 0 else if o = 14 then S.headD 0 + 2 else if o = 15 ∨ o = 16 then S.headD 0 + 1
  else if o = 17 then (if mx = -1 then (mn.toNat + 1) * S.headD 0 + 2 else mx.toNat * (S.headD 0 + 1))
  else if o = 18 then S.sum else (S.map (· + 2)).sum
def ndN (o : Nat) (mn mx : Int) (N : List Nat) : Nat :=
  if o = 17 then N.sum * ((max mn mx).toNat + 1) else if o = 15 then N.sum * 2 else N.sum
theorem size_nd (d o : Nat) (mn mx : Int) (l : List Tr) (h : 13 ≤ o) (h2 : l ≠ []) : size (d + 1) (.mk o false false [] mn mx l) = ndS o mn mx (l.map (size d)) := by
  rw [size_node _ _ _ _ _ h]
  obtain ⟨x, r, rfl⟩ : ∃ x r, l = x :: r := by
    cases l with
    | nil => exact absurd rfl h2
    | cons x r => exact ⟨x, r, rfl⟩
  simp only [List.headD_cons, ndS, List.map_cons, List.map_map]
  rfl
theorem places_nd (d o : Nat) (mn mx : Int) (l : List Tr) (h : 13 ≤ o) : places (d + 1) (.mk o false false [] mn mx l) = ndN o mn mx (l.map (places d)) := by
  have e : places (d + 1) (.mk o false false [] mn mx l) = (if o = 2 then 0 else if o = 3 then (List.map wid ([] : List Int)).sum else if o = 4 ∨ o = 5 ∨ o = 6 then ((prs (rsOf (.mk o false false [] mn mx l))).map fun q => rngN q.2).sum
    else if o = 17 then (l.map (places d)).sum * ((max mn mx).toNat + 1) else if o = 15 then (l.map (places d)).sum * 2 else (l.map (places d)).sum) := rfl
  rw [e, if_neg (by omega), if_neg (by omega), if_neg (by omega)]
  rfl
theorem sum_pt (B : Nat) : ∀ (S N : List Nat), S.length = N.length → (∀ (i : Nat) s n, S[i]? = some s → N[i]? = some n → s ≤ 363 * n + B) → S.sum ≤ 363 * N.sum + S.length * B := by
  intro S
  induction S with
  | nil => intro N h _; simp
  | cons a S ih =>
    intro N h hp
    cases N with
    | nil => simp at h
    | cons b N =>
      have h1 := hp 0 a b rfl rfl
      have h2 := ih N (by simpa using h) fun i s n hs hn => hp (i + 1) s n hs hn
      simp only [List.sum_cons, List.length_cons]
      rw [Nat.add_mul, Nat.mul_add]
      omega
theorem nd_lin (o : Nat) (mn mx : Int) (S N : List Nat) (B : Nat) (hl : S.length = N.length) (h3 : S.length ≤ 3) (h1 : S ≠ []) (hp : ∀ (i : Nat) s n, S[i]? = some s → N[i]? = some n → s ≤ 363 * n + B)
    (h13 : 13 ≤ o) (h17 : o = 17 → 0 ≤ mn ∧ mn ≤ 3 ∧ mx ≤ 5 ∧ (mx = -1 ∨ (1 ≤ mx ∧ mn ≤ mx))) : ndS o mn mx S ≤ 363 * ndN o mn mx N + (5 * B + 10) := by
  have q1 := sum_pt B S N hl hp
  have m1 : S.length * B ≤ 3 * B := Nat.mul_le_mul_right _ h3
  have q2 : (S.map (· + 2)).sum ≤ S.sum + 2 * S.length := by
    clear q1 hp hl h3 h1 m1
    induction S with
    | nil => simp
    | cons a S ih => simp only [List.map_cons, List.sum_cons, List.length_cons]; omega
  have q3 : S.headD 0 ≤ 363 * N.sum + B := by
    cases S with
    | nil => exact absurd rfl h1
    | cons a S =>
      cases N with
      | nil => simp at hl
      | cons b N =>
        have := hp 0 a b rfl rfl
        simp only [List.headD_cons, List.sum_cons]
        omega
  unfold ndS ndN
  generalize S.headD 0 = H at q3 ⊢
  generalize N.sum = n at q1 q3 ⊢
  generalize S.sum = s1 at q1 q2 ⊢
  generalize (S.map (· + 2)).sum = s2 at q2 ⊢
  by_cases o17 : o = 17
  · obtain ⟨g1, g2, g3, g4⟩ := h17 o17
    subst o17
    simp
    obtain ⟨a, rfl⟩ := Int.eq_ofNat_of_zero_le g1
    split
    · rename_i hm
      have e1 : (max (a : Int) mx).toNat = a := by omega
      rw [e1, Int.toNat_natCast]
      have g1 : (a + 1) * H ≤ (a + 1) * (363 * n + B) := Nat.mul_le_mul_left _ q3
      have g2 : (a + 1) * B ≤ 4 * B := Nat.mul_le_mul_right _ (by omega)
      have g3 : (a + 1) * (363 * n + B) = 363 * (n * (a + 1)) + (a + 1) * B := by
        rw [Nat.mul_add, Nat.mul_left_comm, Nat.mul_comm n]
      omega
    · rename_i hm
      obtain ⟨mm, rfl⟩ := Int.eq_ofNat_of_zero_le (show (0 : Int) ≤ mx by omega)
      have e1 : (max (a : Int) (mm : Int)).toNat = mm := by omega
      rw [e1, Int.toNat_natCast]
      have g1 : mm * (H + 1) ≤ mm * (363 * n + (B + 1)) := Nat.mul_le_mul_left _ (by omega)
      have g2 : mm * (B + 1) ≤ 5 * (B + 1) := Nat.mul_le_mul_right _ (by omega)
      have g3 : mm * (363 * n + (B + 1)) = 363 * (n * mm) + mm * (B + 1) := by
        rw [Nat.mul_add, Nat.mul_left_comm, Nat.mul_comm n]
      have g4 : n * (mm + 1) = n * mm + n := by rw [Nat.mul_add, Nat.mul_one]
      omega
  · repeat' split
    all_goals omega
end Go.Proofs.YtnpchkohfomagaaDoor.Rgy
/-! The spec's own expressions, plain: one that is spoilt at a place. -/
namespace Go.Proofs.YtnpchkohfomagaaDoor.Rgy
open Go.Utf Go.Rg Go.Proofs.YtnpchkohfomagaaDoor.Seq
set_option linter.unusedVariables false
set_option linter.unusedSimpArgs false
/-- Another node at a place that is told by numbers. -/
def spoil (b : Tr) : List Int → Tr → Tr
  | [], t => if t.subs.isEmpty then nod 18 [t, b] else b
  | x :: ws, t => if t.subs.isEmpty then nod 18 [t, b] else .mk t.op t.lazy t.fold t.runes t.mn t.mx (t.subs.set (atP x t.subs.length) (spoil b ws (t.subs.getD (atP x t.subs.length) Tr.zero)))
theorem spoil_leaf (b t : Tr) (way : List Int) (h : t.subs = []) : spoil b way t = nod 18 [t, b] := by
  cases way with
  | nil => rw [spoil, h]; rfl
  | cons x ws => rw [spoil, h]; rfl
/-- A tree that is wrong at once, or but one floor down. -/
structure BadT (b : Tr) (k : Nat) : Prop where
  wf : ∀ d, WF (d + 2) b
  bd : ∀ d, bad (d + 2) b = some k
  sz : ∀ d, size (d + 2) b ≤ 3
def lazyT : Tr := .mk 14 true false [] 0 0 [.mk 3 false false [97] 0 0 []]
def endT (o : Nat) : Tr := .mk o false false [] 0 0 []
theorem lit_wf (d : Nat) : WF (d + 1) (.mk 3 false false [97] 0 0 []) := by
  refine ⟨rfl, by decide, by decide, fun _ r h => ?_, fun h => ?_, fun h => ?_, fun h => ?_, fun h => ?_⟩
  · have : r = 97 := by simpa [Tr.runes] using h
    subst this; unfold Let; omega
  · change 3 = 4 at h; omega
  · change 13 ≤ 3 at h; omega
  · change 3 = 17 at h; omega
  · change 18 ≤ 3 at h; omega
theorem badT_lazy : BadT lazyT 1 := by
  refine ⟨fun d => ⟨rfl, by decide, by decide, fun h => ?_, fun h => ?_, fun _ _ => ⟨_, rfl, lit_wf d⟩, fun h => ?_, fun h => ?_⟩, fun d => rfl, fun d => ?_⟩
  · change 14 = 3 at h; omega
  · change 14 = 4 at h; omega
  · change 14 = 17 at h; omega
  · change 18 ≤ 14 at h; omega
  · have : size (d + 2) lazyT = wid 97 + 0 + 2 := rfl
    rw [this]; decide
theorem badT_end (o k : Nat) (h : (7 ≤ o ∧ o ≤ 10 ∧ k = 2) ∨ ((o = 11 ∨ o = 12) ∧ k = 3)) : BadT (endT o) k := by
  refine ⟨fun d => ⟨rfl, by show 2 ≤ o; omega, by show o ≤ 19; omega, fun h => ?_, fun h => ?_, fun h => ?_, fun h => ?_, fun h => ?_⟩, fun d => ?_, fun d => ?_⟩
  · change o = 3 at h; omega
  · change o = 4 at h; omega
  · change 13 ≤ o at h; omega
  · change o = 17 at h; omega
  · change 18 ≤ o at h; omega
  · rw [endT, bad_node]
    rcases h with ⟨h1, h2, rfl⟩ | ⟨h1, rfl⟩
    · rw [if_pos ⟨h1, h2⟩]
    · rw [if_neg (by omega), if_pos h1]
  · have e : size (d + 2) (endT o) = 0 := by
      obtain rfl | rfl | rfl | rfl | rfl | rfl : o = 7 ∨ o = 8 ∨ o = 9 ∨ o = 10 ∨ o = 11 ∨ o = 12 := by omega
      all_goals rfl
    rw [e]; omega
theorem findSome_set {α : Type} (f : α → Option Nat) (y : α) (k : Nat) (hy : f y = some k) : ∀ (l : List α) (i : Nat), i < l.length → (∀ x ∈ l, f x = none) → ((l.set i y).map f).findSome? id = some k := by
  intro l
  induction l with
  | nil => intro i h; simp at h
  | cons a l ih =>
    intro i hi hn
    cases i with
    | zero => simp [hy]
    | succ i =>
      have h1 := hn a (by simp)
      simp only [List.set_cons_succ, List.map_cons, List.findSome?_cons, h1, id]
      exact ih i (by simpa using hi) fun x hx => hn x (by simp [hx])
def exC : Nat → Nat
  | 0 => 13
  | d + 1 => 5 * exC d + 10
theorem exC_ge : ∀ d, exB d + 3 ≤ exC d := by
  intro d
  induction d with
  | zero => decide
  | succ d ih => simp only [exB, exC]; omega
theorem spoil_ok {b : Tr} {k : Nat} (hb : BadT b k) : ∀ (d : Nat) (r : Rw) (way : List Int), 0 < d → WF (d + 2) (spoil b way (ex d r)) ∧ bad (d + 2) (spoil b way (ex d r)) = some k ∧ size (d + 2) (spoil b way (ex d r)) ≤ 363 * places d (ex d r) + exC d := by
  intro d
  induction d with
  | zero => intro r way h; omega
  | succ d ih =>
    intro r way _
    have hf := ex_fine (d + 1) r (by omega)
    have hC := exC_ge (d + 1)
    rcases ex_forms d r with ⟨o, rs, e, _⟩ | ⟨o, mn, mx, hd, e, h13, h19, hne, h17, h0⟩
    · have hs : (ex (d + 1) r).subs = [] := by rw [e]; rfl
      rw [spoil_leaf _ _ _ hs]
      have w1 := hf.up.wf
      refine ⟨⟨rfl, by show 2 ≤ 18; omega, by show 18 ≤ 19; omega, fun h => ?_, fun h => ?_, fun _ h => ?_, fun h => ?_, fun _ => ⟨by simp [nod, Tr.subs], fun x hx => ?_, by simp [nod, Tr.subs]⟩⟩, ?_, ?_⟩
      · change 18 = 3 at h; omega
      · change 18 = 4 at h; omega
      · change 18 ≤ 17 at h; omega
      · change 18 = 17 at h; omega
      · have : x = ex (d + 1) r ∨ x = b := by simpa [nod, Tr.subs] using hx
        rcases this with rfl | rfl
        · exact w1
        · exact hb.wf d
      · have : bad (d + 1 + 2) (nod 18 [ex (d + 1) r, b]) = ([bad (d + 2) (ex (d + 1) r), bad (d + 2) b]).findSome? id := rfl
        rw [this, hf.up.bd, hb.bd]; rfl
      · have : size (d + 1 + 2) (nod 18 [ex (d + 1) r, b]) = size (d + 2) (ex (d + 1) r) + (size (d + 2) b + 0) := rfl
        have h1 : size (d + 2) (ex (d + 1) r) ≤ 363 * places (d + 1) (ex (d + 1) r) + exB (d + 1) := hf.up.sz
        have h2 := hb.sz d
        omega
    · have hsub : (ex (d + 1) r).subs = (r.subs.take (if 18 ≤ o then 3 else 1)).map (ex d) := by rw [e]; rfl
      obtain ⟨y0, ys, hy⟩ : ∃ y ys, r.subs = y :: ys := by
        cases e : r.subs with
        | nil => exact absurd e hne
        | cons y ys => exact ⟨y, ys, rfl⟩
      have hlne : (r.subs.take (if 18 ≤ o then 3 else 1)).map (ex d) ≠ [] := by
        rw [hy]; split <;> simp
      have hie : (ex (d + 1) r).subs.isEmpty = false := by rw [hsub]; exact List.isEmpty_eq_false_iff.2 hlne
      cases way with
      | nil =>
        have es : spoil b [] (ex (d + 1) r) = b := by rw [spoil, hie]; rfl
        rw [es]
        exact ⟨hb.wf (d + 1), hb.bd (d + 1), Nat.le_trans (hb.sz (d + 1)) (by omega)⟩
      | cons x ws =>
        obtain ⟨l, hl⟩ : ∃ l, l = r.subs.take (if 18 ≤ o then 3 else 1) := ⟨_, rfl⟩
        have hl3 : l.length ≤ 3 := by rw [hl]; simp; split <;> omega
        have hl1 : o ≤ 17 → l = [y0] := fun h => by rw [hl, hy, if_neg (by omega)]; rfl
        rw [← hl] at hsub hlne
        have hln : 0 < l.length := by
          cases l with
          | nil => simp at hlne
          | cons a t => simp
        obtain ⟨at_, hat⟩ : ∃ at_, at_ = atP x l.length := ⟨_, rfl⟩
        have hlt : at_ < l.length := by rw [hat]; exact atP_lt x _ hln
        obtain ⟨z, hz⟩ : ∃ z, l[at_]? = some z := ⟨_, List.getElem?_eq_getElem hlt⟩
        obtain ⟨i1, i2, i3⟩ := ih z ws hd
        have es : spoil b (x :: ws) (ex (d + 1) r) = .mk o false false [] mn mx ((l.map (ex d)).set at_ (spoil b ws (ex d z))) := by
          rw [spoil, hie, hsub]
          have e1 : (l.map (ex d)).getD at_ Tr.zero = ex d z := by rw [List.getD_eq_getElem?_getD, List.getElem?_map, hz]; rfl
          rw [List.length_map, ← hat, e1, e]
          rfl
        have hset : at_ < (l.map (ex d)).length := by simpa using hlt
        have hmem : ∀ q ∈ (l.map (ex d)).set at_ (spoil b ws (ex d z)), q = spoil b ws (ex d z) ∨ ∃ y, q = ex d y := fun q hq => by
          rcases List.mem_or_eq_of_mem_set hq with h | h
          · obtain ⟨y, _, rfl⟩ := List.mem_map.1 h
            exact Or.inr ⟨y, rfl⟩
          · exact Or.inl h
        have hone : o ≤ 17 → (l.map (ex d)).set at_ (spoil b ws (ex d z)) = [spoil b ws (ex d z)] := fun h => by
          have e1 := hl1 h
          have e0 : at_ = 0 := by rw [e1] at hlt; simpa using hlt
          rw [e1, e0]; rfl
        have hse : (l.map (ex d)).set at_ (spoil b ws (ex d z)) ≠ [] := fun h => by
          have := congrArg List.length h; simp at this; rw [this] at hln; simp at hln
        rw [es]
        refine ⟨⟨rfl, by show 2 ≤ o; omega, by show o ≤ 19; omega, fun h => ?_, fun h => ?_, fun _ h => ?_, fun h => ?_, fun _ => ⟨hse, fun q hq => ?_, ?_⟩⟩, ?_, ?_⟩
        · change o = 3 at h; omega
        · change o = 4 at h; omega
        · exact ⟨_, hone h, i1⟩
        · obtain ⟨g1, g2, g3, g4⟩ := h17 h
          show 0 ≤ mn ∧ mn ≤ 1000 ∧ mx ≤ 1000 ∧ (mx = -1 ∨ (1 ≤ mx ∧ mn ≤ mx))
          exact ⟨g1, by omega, by omega, g4⟩
        · rcases hmem q hq with rfl | ⟨y, rfl⟩
          · exact i1
          · exact (ex_fine d y hd).up.up.wf
        · show ((l.map (ex d)).set at_ (spoil b ws (ex d z))).length ≤ 100
          simp; omega
        · rw [bad_mk (d + 2) o _ _ _ h13]
          split
          · rename_i h
            rw [hone h]; exact i2
          · exact findSome_set (bad (d + 2)) _ k i2 _ _ hset fun q hq => by
              obtain ⟨y, _, rfl⟩ := List.mem_map.1 hq
              exact (ex_fine d y hd).up.up.bd
        · rw [show size (d + 1 + 2) (.mk o false false [] mn mx ((l.map (ex d)).set at_ (spoil b ws (ex d z)))) = _ from size_nd (d + 2) o mn mx _ h13 hse]
          have ep : places (d + 1) (ex (d + 1) r) = ndN o mn mx ((l.map (ex d)).map (places d)) := by
            rw [e, hl]; exact places_nd d o mn mx _ h13
          rw [ep]
          have hq := nd_lin o mn mx (((l.map (ex d)).set at_ (spoil b ws (ex d z))).map (size (d + 2))) ((l.map (ex d)).map (places d)) (exC d) (by simp) (by simpa using hl3) (by simpa using hse) (fun i s n hs hn => ?_) h13 h17
          · exact hq
          · rw [List.getElem?_map] at hs hn
            by_cases hi : i = at_
            · subst hi
              rw [List.getElem?_set_self hset] at hs
              rw [List.getElem?_map, hz] at hn
              simp at hs hn
              rw [← hs, ← hn]; exact i3
            · rw [List.getElem?_set_ne (fun h => hi h.symm)] at hs
              cases hc : l[i]? with
              | none => rw [List.getElem?_map, hc] at hs; simp at hs
              | some y =>
                rw [List.getElem?_map, hc] at hs hn
                simp at hs hn
                rw [← hs, ← hn]
                have h1 : size (d + 2) (ex d y) ≤ 363 * places d (ex d y) + exB d := (ex_fine d y hd).up.up.sz
                have h2 := exC_ge d
                omega
end Go.Proofs.YtnpchkohfomagaaDoor.Rgy
/-! Expressions as they came in: as cells in memory, and out of an argument. -/
namespace Go.Proofs.YtnpchkohfomagaaDoor.Rgy
open Go.ChangeShapes Go.WideShapes Go.ChangeAt Go.RowKit Go.Trav Go.Utf Go.Rg Go.Joins Go.Deep Go.Proofs.YtnpchkohfomagaaDoor.Seq
set_option linter.unusedVariables false
set_option linter.unusedSimpArgs false
set_option maxRecDepth 100000
/-- An expression as it came in: its seven cells. -/
def RwV (w : World) : Nat → Rw → List Value → Prop
  | 0, _, _ => False
  | d + 1, r, cs => ∃ (rv sv : Value) (lz fo : Bool) (css : List (List Value)), cs = [.int .i64 r.op, rv, .int .i64 r.mn, .int .i64 r.mx, .bool lz, .bool fo, sv] ∧ Reads w rv r.runes.length 1 (r.runes.map rV) ∧
      css.length = r.subs.length ∧ Reads w sv css.length 7 css.flatten ∧ (∀ c ∈ css, c.length = 7) ∧ ∀ (i : Nat) c s, css[i]? = some c → r.subs[i]? = some s → RwV w d s c
theorem RwV.below {w w' : World} (hb : Below w.heap.size w w') : ∀ (d : Nat) (r : Rw) (cs : List Value), RwV w d r cs → RwV w' d r cs := by
  intro d
  induction d with
  | zero => intro t cs h; exact h
  | succ d ih =>
    rintro t cs ⟨rv, sv, lz, fo, css, h1, h2, h3, h4, h5, h6⟩
    exact ⟨rv, sv, lz, fo, css, h1, h2.below hb, h3, h4.below hb, h5, fun i c s hc hs => ih s c (h6 i c s hc hs)⟩
theorem RwV.up {w : World} : ∀ (d : Nat) (r : Rw) (cs : List Value), RwV w d r cs → RwV w (d + 1) r cs := by
  intro d
  induction d with
  | zero => intro t cs h; exact h.elim
  | succ d ih =>
    rintro t cs ⟨rv, sv, lz, fo, css, h1, h2, h3, h4, h5, h6⟩
    exact ⟨rv, sv, lz, fo, css, h1, h2, h3, h4, h5, fun i c s hc hs => ih s c (h6 i c s hc hs)⟩
section
variable {H : Type} {enc : TypeId × Value → H} {P : Program} {w : World} {spare : Nat → Bool} {held : Bool}
theorem slice_reads_at {t e : TypeId} {s : Nat} {v : Value} {x : DataW H × List MemPlace} {a0 : Option Addr} {l0 c0 fuel : Nat} (ht : P.underlying t = some (.slice e)) (hs : P.cellsOf e = s) (hsp : 0 < s)
    (hv : v = .slice a0 l0 c0) (hf : DataW.trod enc P w 0 spare held fuel t [v] = some x) (q : List Value → Prop)
    (hq : ∀ n cs x, fuel = n + 1 → cs.length = s → DataW.trod enc P w 0 spare held n e cs = some x → q cs) :
    ∃ css : List (List Value), (∀ cs ∈ css, cs.length = s ∧ q cs) ∧ Reads w v css.length s css.flatten := by
  subst hv
  rcases DataW.trod_slice ht hf with ⟨h1, _⟩ | ⟨a, len, cap, elems, rest, n, hfu, h1, _, _, hl, hm, hmm, hel, _⟩
  · simp at h1
    obtain ⟨rfl, rfl, rfl⟩ := h1
    exact ⟨[], by simp, none, 0, rfl, by simp, by simp, fun _ => rfl, by simp, by simp⟩
  · simp at h1
    obtain ⟨rfl, rfl, rfl⟩ := h1
    have hall : ∀ i, i < l0 → ∃ cs : List Value, (cs.length = s ∧ q cs) ∧ ∀ j, j < s → w.cell? ((a.add (i * s)).add j) = cs[j]? := by
      intro i hi
      have h2 := hel i hi
      rw [List.getElem?_eq_getElem (by omega)] at h2
      obtain ⟨cs, hc, htr⟩ := Option.bind_eq_some_iff.1 h2
      rw [hs] at hc
      obtain ⟨_, hcl, hcc⟩ := World.cells?_some hc
      exact ⟨cs, ⟨hcl, hq _ _ _ hfu hcl htr⟩, hcc⟩
    have hex : ∃ css : List (List Value), css.length = l0 ∧ ∀ i, i < l0 → ∃ cs, css[i]? = some cs ∧ (cs.length = s ∧ q cs) ∧ ∀ j, j < s → w.cell? ((a.add (i * s)).add j) = cs[j]? := by
      obtain ⟨f, hf⟩ := Deep.choose_lt hall
      refine ⟨(List.range l0).map f, by simp, fun i hi => ⟨f i, by simp [hi], (hf i hi).1, (hf i hi).2⟩⟩
    obtain ⟨css, hlen, hcs⟩ := hex
    have hmem : ∀ cs ∈ css, cs.length = s ∧ q cs := by
      intro cs hc
      obtain ⟨i, hi, rfl⟩ := List.getElem_of_mem hc
      obtain ⟨cs', e1, e2, _⟩ := hcs i (by omega)
      rw [List.getElem?_eq_getElem hi] at e1
      cases e1
      exact e2
    have hfl := flatten_len (fun c hc => (hmem c hc).1)
    refine ⟨css, hmem, some a, c0, by rw [hlen], by omega, hm, by simp, hfl, fun hp => ?_⟩
    have hl0 : 0 < l0 := by
      rcases Nat.eq_zero_or_pos l0 with h | h
      · rw [hfl, hlen, h] at hp; simp at hp
      · exact h
    have hcell : ∀ k u, css.flatten[k]? = some u → w.cell? (a.add k) = some u := by
      intro k u hk
      have hkl : k < css.flatten.length := (List.getElem?_eq_some_iff.1 hk).1
      obtain ⟨b1, b2⟩ := at_bound hsp (fun c hc => (hmem c hc).1) hkl
      obtain ⟨cs', e1, _, e3⟩ := hcs (k / s) (by omega)
      rw [b2, e1] at hk
      have := e3 (k % s) (Nat.mod_lt _ hsp)
      rw [Deep.add_add] at this
      have ek : k / s * s + k % s = k := Nat.div_add_mod' k s
      rw [ek] at this
      rw [this]; exact hk
    obtain ⟨b, off, sp⟩ := a
    have h00 : ∃ u, css.flatten[0]? = some u := ⟨css.flatten[0], List.getElem?_eq_getElem hp⟩
    obtain ⟨u0, hu0⟩ := h00
    have h0 := hcell 0 u0 hu0
    have hspot : sp = none := by simpa [Addr.add] using World.cell?_spot h0
    subst hspot
    refine ⟨b, off, rfl, fun j u hj => ?_⟩
    have := hcell j u hj
    rwa [addr_add] at this
theorem field_cells_at {t : TypeId} {fs : Array Field} (hs : P.underlying t = some (.struct fs)) (hone : oneCellFields P fs = true) {n : Nat} {cs : List Value} {x} (h : DataW.trod enc P w 0 spare held n t cs = some x) :
    ∃ m, n = m + 1 ∧ ∀ (i : Nat) (f : Field), fs[i]? = some f → ∃ y, DataW.trod enc P w 0 spare held m f.type (cs[i]?.toList) = some y := by
  obtain ⟨xs, m, hn, _, _, hxl, hf⟩ := DataW.trod_struct hs h
  refine ⟨m, hn, fun i f hif => ?_⟩
  obtain ⟨o0, k0⟩ := hone_of hone i f hif
  have h1 := hf i f hif
  have hi : i < xs.length := by rw [hxl]; exact (Array.getElem?_eq_some_iff.1 hif).1
  rw [List.getElem?_eq_getElem hi, o0, k0] at h1
  have e : (cs.drop i).take 1 = cs[i]?.toList := by
    rw [List.take_one, List.head?_drop]
  rw [e] at h1
  exact ⟨_, h1⟩
end
theorem each_sub {w : World} {k : Nat} : ∀ (css : List (List Value)), (∀ cs ∈ css, cs.length = 7 ∧ ∃ r, RwV w k r cs) → ∃ l : List Rw, css.length = l.length ∧ ∀ (i : Nat) c s, css[i]? = some c → l[i]? = some s → RwV w k s c := by
  intro css
  induction css with
  | nil => intro _; exact ⟨[], rfl, fun i c s h => by simp at h⟩
  | cons a t ih =>
    intro h
    obtain ⟨l, h1, h2⟩ := ih fun x hx => h x (by simp [hx])
    obtain ⟨_, r, hr⟩ := h a (by simp)
    refine ⟨r :: l, by simp [h1], fun i c s hc hs => ?_⟩
    cases i with
    | zero => simp at hc hs; subst hc hs; exact hr
    | succ i => simp at hc hs; exact h2 i c s hc hs
theorem ones_recs {css : List (List Value)} (h : ∀ cs ∈ css, cs.length = 1 ∧ ∃ z : Int, cs = [rV z]) : ∃ l : List Int, l.length = css.length ∧ css.flatten = l.map rV := by
  induction css with
  | nil => exact ⟨[], rfl, rfl⟩
  | cons c r ih =>
    obtain ⟨l, hl, e⟩ := ih (fun x hx => h x (by simp [hx]))
    obtain ⟨_, y, rfl⟩ := h c (by simp)
    exact ⟨y :: l, by simp [hl], by simp [e]⟩
theorem raw_open {H : Type} {enc : TypeId × Value → H} {w : World} {spare : Nat → Bool} {held : Bool} (n : Nat) : ∀ (cs : List Value) x, cs.length = 7 → DataW.trod enc Tryd.prog w 0 spare held n 35 cs = some x → ∃ r, RwV w n r cs := by
  induction n using Nat.strongRecOn with
  | _ n ih =>
    intro cs x hl h
    obtain ⟨m, rfl, hf⟩ := field_cells_at Tryd.underlying35 (by kernel_rfl) h
    match cs, hl with
    | [c0, c1, c2, c3, c4, c5, c6], _ =>
      obtain ⟨y0, k0⟩ := hf 0 _ rfl
      obtain ⟨y1, k1⟩ := hf 1 _ rfl
      obtain ⟨y2, k2⟩ := hf 2 _ rfl
      obtain ⟨y3, k3⟩ := hf 3 _ rfl
      obtain ⟨y4, k4⟩ := hf 4 _ rfl
      obtain ⟨y5, k5⟩ := hf 5 _ rfl
      obtain ⟨y6, k6⟩ := hf 6 _ rfl
      obtain ⟨a0, rfl, _⟩ := int_one Tryd.underlying3 k0
      obtain ⟨a2, rfl, _⟩ := int_one Tryd.underlying3 k2
      obtain ⟨a3, rfl, _⟩ := int_one Tryd.underlying3 k3
      obtain ⟨a4, rfl⟩ := bool_one Tryd.underlying4 k4
      obtain ⟨a5, rfl⟩ := bool_one Tryd.underlying4 k5
      obtain ⟨o1, l1, p1, e1⟩ := slice_one Tryd.underlying32 k1
      obtain ⟨o6, l6, p6, e6⟩ := slice_one Tryd.underlying33 k6
      obtain ⟨ru, hru, hrd⟩ := slice_reads_at Tryd.underlying32 (s := 1) (by kernel_rfl) (by decide) e1 k1 (fun cs => ∃ z : Int, cs = [rV z]) (fun n cs x _ hl hx => by
        match cs, hl with
        | [c], _ => obtain ⟨z, rfl, _⟩ := int_one Tryd.underlying21 hx; exact ⟨z, rfl⟩)
      obtain ⟨zs, hz1, hz2⟩ := ones_recs hru
      rw [hz2, ← hz1] at hrd
      cases m with
      | zero => simp [DataW.trod] at k6
      | succ k =>
        obtain ⟨css, hcs, hsd⟩ := slice_reads_at Tryd.underlying33 (s := 7) (by kernel_rfl) (by decide) e6 k6 (fun cs => ∃ r, RwV w k r cs) (fun n cs x hn hl hx => by
          obtain rfl : n = k := by omega
          exact ih n (by omega) cs x hl hx)
        obtain ⟨l, hl1, hl2⟩ := each_sub css hcs
        refine ⟨.mk a0 zs a2 a3 a4 a5 l, RwV.up _ _ _ ⟨c1, c6, a4, a5, css, rfl, hrd, hl1, hsd, fun c hc => (hcs c hc).1, hl2⟩⟩
end Go.Proofs.YtnpchkohfomagaaDoor.Rgy
