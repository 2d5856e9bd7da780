/- spec.Accepts: what a table says. -/
import Derived.Test.YtanimdajohpggaaMeth1
import Derived.Test.YtanimdajohpggaaCont1
namespace Go.Proofs.Ytanimdajohpggaa.Table
open Go.ChangeShapes Go.WideShapes Go.ChangeAt Go.RowKit Go.Trav
set_option linter.unusedVariables false
set_option maxRecDepth 100000
/-- The next state. -/
def nx (cls : List Nat) (nxs : List (List Nat)) (s b : Nat) : Nat := ((nxs[s]?.getD [])[cls[b]?.getD 0]?).getD 0
/-- The state behind bytes. -/
def runT (cls : List Nat) (nxs : List (List Nat)) (s : Nat) (l : List Nat) : Nat := l.foldl (nx cls nxs) s
/-- All is in range. -/
structure Fit (n : Nat) (cls : List Nat) (nxs : List (List Nat)) : Prop where
  cl : cls.length = 256
  c5 : ∀ c ∈ cls, c < 5
  nl : nxs.length = n
  r5 : ∀ (i : Nat) r, nxs[i]? = some r → r.length = 5
  lt : ∀ (i : Nat) r, nxs[i]? = some r → ∀ u ∈ r, u < n
theorem Fit.step {n : Nat} {cls : List Nat} {nxs : List (List Nat)} (h : Fit n cls nxs) {s b : Nat} (hs : s < n) (hb : b < 256) : ∃ c r u, cls[b]? = some c ∧ nxs[s]? = some r ∧ r[c]? = some u ∧ nx cls nxs s b = u ∧ u < n ∧ u ∈ r := by
  have h1 : b < cls.length := by rw [h.cl]; exact hb
  have h2 : s < nxs.length := by rw [h.nl]; exact hs
  have e1 := List.getElem?_eq_getElem h1
  have e2 := List.getElem?_eq_getElem h2
  have h3 : cls[b] < (nxs[s]).length := by rw [h.r5 s _ e2]; exact h.c5 _ (List.getElem_mem h1)
  have e3 := List.getElem?_eq_getElem h3
  exact ⟨_, _, _, e1, e2, e3, by unfold nx; rw [e1, e2]; simp only [Option.getD_some]; rw [e3]; rfl, h.lt s _ e2 _ (List.getElem_mem h3), List.getElem_mem h3⟩
theorem runT_lt {n : Nat} {cls : List Nat} {nxs : List (List Nat)} (h : Fit n cls nxs) : ∀ (l : List Nat) (s : Nat), s < n → (∀ b ∈ l, b < 256) → runT cls nxs s l < n
  | [], s, hs, _ => hs
  | b :: r, s, hs, hb => by
    obtain ⟨_, _, u, _, _, _, e, hu, _⟩ := h.step hs (hb b (by simp))
    show runT cls nxs (nx cls nxs s b) r < n
    rw [e]
    exact runT_lt h r u hu (fun x hx => hb x (by simp [hx]))
theorem runT_reach {n : Nat} {cls : List Nat} {nxs : List (List Nat)} (h : Fit n cls nxs) {s0 : Nat} : ∀ (l : List Nat) (s : Nat), s < n → (∀ b ∈ l, b < 256) → Reach nxs s0 s → Reach nxs s0 (runT cls nxs s l)
  | [], s, _, _, hr => hr
  | b :: r, s, hs, hb, hr => by
    obtain ⟨_, rr, u, _, e2, _, e, hu, hm⟩ := h.step hs (hb b (by simp))
    show Reach nxs s0 (runT cls nxs (nx cls nxs s b) r)
    rw [e]
    exact runT_reach h r u hu (fun x hx => hb x (by simp [hx])) (Reach.step s u rr hr e2 hm)
theorem runT_snoc (cls : List Nat) (nxs : List (List Nat)) (s : Nat) (l : List Nat) (b : Nat) : runT cls nxs s (l ++ [b]) = nx cls nxs (runT cls nxs s l) b := by
  unfold runT
  rw [List.foldl_append]
  rfl
/-- What is answered with the early No is what the table says. -/
theorem cont_run {n : Nat} {cls : List Nat} {nxs : List (List Nat)} {mts cans : List Bool} (h : Fit n cls nxs) (hok : CanOk nxs mts cans) (hc : cans.length = n) (hm : mts.length = n) (mt cn : Int → Bool) (ac : Int → Int → Int)
    (h1 : ∀ s : Nat, s < n → mt ((s : Int) + 2) = (mts[s]?.getD false)) (h2 : ∀ s : Nat, s < n → cn ((s : Int) + 2) = (cans[s]?.getD false)) (h3 : ∀ s b : Nat, s < n → b < 256 → ac ((s : Int) + 2) (b : Int) = ((nx cls nxs s b : Nat) : Int) + 2) :
    ∀ (l : List Nat) (s : Nat), s < n → (∀ b ∈ l, b < 256) → Path.cont mt cn ac ((s : Int) + 2) (l.map fun (b : Nat) => (b : Int)) = (mts[runT cls nxs s l]?.getD false)
  | [], s, hs, _ => h1 s hs
  | b :: r, s, hs, hb => by
    rw [List.map_cons, Path.cont, h2 s hs]
    obtain ⟨_, _, u, _, _, _, e, hu, _⟩ := h.step hs (hb b (by simp))
    have hcl : cans[s]? = some cans[s] := List.getElem?_eq_getElem (by omega)
    cases hcs : cans[s]
    · rw [hcl, hcs]
      have hr := runT_reach h (b :: r) s hs hb (Reach.refl)
      have hl := runT_lt h (b :: r) s hs hb
      have hne := hok s (by rw [hcl, hcs]) _ hr
      have hml : mts[runT cls nxs s (b :: r)]? = some mts[runT cls nxs s (b :: r)] := List.getElem?_eq_getElem (by omega)
      rw [hml] at hne ⊢
      simp only [Option.getD_some, Bool.false_eq_true, if_false]
      cases hx : mts[runT cls nxs s (b :: r)]
      · rfl
      · exact absurd (by rw [hx]) hne
    · rw [hcl, hcs]
      simp only [Option.getD_some, if_true]
      rw [h3 s b hs (hb b (by simp)), cont_run h hok hc hm mt cn ac h1 h2 h3 r _ (by rw [e]; exact hu) (fun x hx => hb x (by simp [hx]))]
      rfl
end Go.Proofs.Ytanimdajohpggaa.Table
