/- Places of expressions are few; the arguments of a frame. -/
import Derived.Test.YtnpchkohfomagaaDoorRgHb
import Derived.Test.YtnpchkohfomagaaDoorRgEa
namespace Go.Proofs.YtnpchkohfomagaaDoor.Rgy
open Go.ChangeShapes Go.WideShapes Go.ChangeAt Go.RowKit Go.Trav Go.Rg Go.Utf Go.Proofs.YtnpchkohfomagaaDoor.Seq Go.Proofs.YtnpchkohfomagaaDoor.Sparse Go.Proofs.YtnpchkohfomagaaDoor.Rgw
set_option linter.unusedVariables false
set_option linter.unusedSimpArgs false
set_option maxRecDepth 100000
def exP : Nat → Nat
  | 0 => 0
  | d + 1 => max 124 (18 * exP d)
theorem ex_places : ∀ (d : Nat) (r : Rw), places d (ex d r) ≤ exP d := by
  intro d
  induction d with
  | zero => intro r; simp [places]
  | succ d ih =>
    intro r
    have ho := exOp_le (decide (d = 0) || decide (r.subs.length = 0)) r
    have hF : 124 ≤ exP (d + 1) ∧ 18 * exP d ≤ exP (d + 1) := by simp only [exP]; omega
    rw [ex]
    generalize exOp (decide (d = 0) || decide (r.subs.length = 0)) r = o at ho
    skip
    split
    · rename_i h
      refine Nat.le_trans ?_ hF.1
      rcases h with h | h | h <;> subst h
      · exact Nat.zero_le _
      · have e : places (d + 1) (.mk 5 false false [] 0 0 []) = ((prs [0, 9, 11, 1114111]).map fun q => rngN q.2).sum := rfl
        rw [e]; decide
      · have e : places (d + 1) (.mk 6 false false [] 0 0 []) = ((prs [0, 1114111]).map fun q => rngN q.2).sum := rfl
        rw [e]; decide
    · split
      · have e : places (d + 1) (.mk 3 false false (litP r.runes) 0 0 []) = ((litP r.runes).map wid).sum := rfl
        rw [e]
        have h1 := sum_cap wid 4 (litP r.runes) (fun x _ => (wid_le4 x).2)
        have h2 := (lit_ok r.runes).2.1
        omega
      · split
        · have e : places (d + 1) (.mk 4 false false (pairsP r.runes) 0 0 []) = ((prs (pairsP r.runes)).map fun q => rngN q.2).sum := rfl
          rw [e]
          have h1 := sum_cap (fun q : Int × Int => rngN q.2) 31 (prs (pairsP r.runes)) fun q _ => rngN_le q.2
          obtain ⟨_, ⟨j, p2, p3⟩, _⟩ := pairs_ok r.runes
          have h2 := prs_len (pairsP r.runes)
          omega
        · rw [places_nd _ _ _ _ _ (by omega)]
          refine Nat.le_trans ?_ hF.2
          have h1 := sum_cap (fun x => places d (ex d x)) (exP d) (r.subs.take (if 18 ≤ o then 3 else 1)) fun x _ => ih x
          have h3 : (r.subs.take (if 18 ≤ o then 3 else 1)).length ≤ 3 := by simp; split <;> omega
          have h4 : (r.subs.take (if 18 ≤ o then 3 else 1)).length * exP d ≤ 3 * exP d := Nat.mul_le_mul_right _ h3
          have e : (((r.subs.take (if 18 ≤ o then 3 else 1)).map (ex d)).map (places d)).sum = ((r.subs.take (if 18 ≤ o then 3 else 1)).map fun x => places d (ex d x)).sum := by rw [List.map_map]; rfl
          unfold ndN
          rw [e]
          have h5 := mxP_le5 r.mn r.mx
          have h6 := atP4 r.mn
          generalize ((r.subs.take (if 18 ≤ o then 3 else 1)).map fun x => places d (ex d x)).sum = n at h1 ⊢
          split
          · rename_i h17
            have g : (max (atP r.mn 4 : Int) (mxP r.mn r.mx)).toNat + 1 ≤ 6 := by omega
            have := Nat.mul_le_mul (show n ≤ 3 * exP d by omega) g
            omega
          · split <;> omega
theorem ex4_places (r : Rw) : places 4 (ex 4 r) ≤ 1000000000 := Nat.le_trans (ex_places 4 r) (by decide)
theorem ex5_places (r : Rw) : places 5 (ex 5 r) ≤ 1000000000 := Nat.le_trans (ex_places 5 r) (by decide)
theorem rx_arg {H : Type} {enc : TypeId × Value → H} {w : World} {spare : Nat → Bool} {held : Bool} {v : Value} {d : DataW H} {ps : List MemPlace} {r : Reach} {b0 : Nat} (hv : Value.okWide Tryd.prog w r b0 35 v) (h : DataW.Trod enc Tryd.prog w 0 spare held 35 v d ps) : ∃ (n : Nat) (r : Rw) (cs : List Value), v = .agg cs.toArray ∧ RwV w n r cs := by
  obtain ⟨cs, rfl, hsz⟩ := okWide_struct Tryd.underlying35 hv
  obtain ⟨n, hn⟩ := h
  obtain ⟨r, hr⟩ := raw_open n cs.toList _ (by rw [Array.length_toList, hsz]; kernel_rfl) hn
  exact ⟨n, r, cs.toList, by simp, hr⟩
end Go.Proofs.YtnpchkohfomagaaDoor.Rgy
