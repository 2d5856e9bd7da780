/- The encoder: encodeState. -/
import Derived.Test.YtkbonmjbfpdchaaDoorEnc4
namespace Go.Proofs.YtkbonmjbfpdchaaDoor.Buf
open Go.ChangeShapes Go.WideShapes Go.ChangeAt Go.RowKit Go.Trav Go.Pk Go.Proofs.YtkbonmjbfpdchaaDoor.Node Go.Proofs.YtkbonmjbfpdchaaDoor.Common
set_option linter.unusedVariables false
set_option linter.unusedSimpArgs false
set_option maxRecDepth 100000
/-- The bytes of a state, of which start stand ahead, the state ahead of it at the address last. -/
def encB (start last : Nat) (f : Bool) (fo : Nat) : List NA → List Nat
  | [] => if f ∧ fo = 0 then [] else manyB start f fo []
  | [a] => if f then manyB start f fo [a] else if a.2.1 = 0 ∧ a.2.2 = last then finB 64 a.1 else oneB start a
  | a :: b :: r => manyB start f fo (a :: b :: r)
/-- Its address: that of its last byte; 0 if nothing is written. -/
def encA (start last : Nat) (f : Bool) (fo : Nat) (l : List NA) : Nat := if encB start last f fo l = [] then 0 else start + (encB start last f fo l).length - 1
theorem finB_ne (nx b : Nat) : finB nx b ≠ [] := by unfold finB; simp
theorem oneB_ne (s : Nat) (a : NA) : oneB s a ≠ [] := by unfold oneB; simp
theorem manyB_ne (s : Nat) (f : Bool) (fo : Nat) (l : List NA) : manyB s f fo l ≠ [] := by unfold manyB; simp
theorem encA_of {start last : Nat} {f : Bool} {fo : Nat} {l : List NA} {x : List Nat} {bs : List Nat} (h : encB start last f fo l = x) (hx : x ≠ []) (hs : start = bs.length) : (encA start last f fo l : Nat) = (bs ++ x).length - 1 := by
  unfold encA
  rw [h, if_neg hx, List.length_append, hs]
set_option maxHeartbeats 1000000 in
theorem st_any (en u : Nat) (i : Ids) (bs : List Nat) (B : Nat) (v : Value) (f : Bool) (fo : Nat) (l : List NA) (last : Nat) (w : World) (h : EOut w en u i bs) (hN : NodeAt w B v f fo (l.map toArc)) (hT : ∀ w', Mod (WF u i) w w' → TabAt w' 2 T0) (ha : ∀ a ∈ l, NAok bs.length a) (hl : bs.length ≤ 4294900000) (hn : l.length ≤ 256) (hfo : fo < 18446744073709551616)
    (hd : ∀ k, fp B v k → ¬ WF u i k) :
    Calls Tryd.prog 58 #[.pointer (some ⟨en, 0, none⟩), .pointer (some ⟨B, 0, none⟩), .int .i64 last] w fun e w' => e = .returned (.tuple #[.int .i64 (encA bs.length last f fo l : Nat), .nilIface]) ∧ EWent w w' en u i (bs ++ encB bs.length last f fo l) := by
  have hM := many_one en u i bs B v f fo l w h hN ha hl hn hfo hd
  obtain ⟨nxp, hB, hR⟩ := hN.at
  rw [List.length_map] at hR
  obtain ⟨va, vc, rfl⟩ := hR.form
  have c0 : w.cell? ⟨B, 0, none⟩ = some (.int .u64 fo) := block_cell hB rfl
  have c1 : w.cell? ⟨B, 1, none⟩ = some (.slice va l.length vc) := block_cell hB rfl
  have c2 : w.cell? ⟨B, 2, none⟩ = some (.bool f) := block_cell hB rfl
  have H := Lib.hid h
  have HM := Lib.hid hM
  have HN := Lib.hid hN
  have HT := Lib.hid hT
  have HA := Lib.hid ha
  have HD := Lib.hid hd
  clear h hM hN hT ha hd hR hB hfo
  match l, hn with
  | [], _ =>
    simp only [List.length_nil] at c1
    cases f with
    | false =>
      have hB : encB bs.length last false fo [] = manyB bs.length false fo [] := by unfold encB; rw [if_neg (by simp)]
      have HBB := Lib.hid hB
      clear hB
      go_enter Tryd.func58, Tryd.ntmps58
      go_wp2_with fail
      refine HM.out.mono ?_
      rintro e w1 ⟨rfl, h1⟩
      have H1 := Lib.hid h1
      clear h1
      go_wp2_with fail
      go_ret2
      have eA := encA_of (start := bs.length) (last := last) (f := false) (fo := fo) (bs := bs) HBB.out (manyB_ne _ _ _ _) rfl
      refine ⟨?_, by rw [HBB.out]; exact H1.out⟩
      rw [eA, List.length_append]
      rfl
    | true =>
      by_cases hz : fo = 0
      · subst hz
        go_enter Tryd.func58, Tryd.ntmps58
        go_wp2_with fail
        go_ret2
        exact ⟨by simp [encA, encB], by simpa [encB] using H.out.refl⟩
      · have hB : encB bs.length last true fo [] = manyB bs.length true fo [] := by unfold encB; rw [if_neg (by simp [hz])]
        have HBB := Lib.hid hB
        have hz2 : ((fo : Int) == 0) = false := beq_eq_false_iff_ne.2 (by omega)
        clear hB hz
        go_enter Tryd.func58, Tryd.ntmps58
        go_wp2_with fail
        refine HM.out.mono ?_
        rintro e w1 ⟨rfl, h1⟩
        have H1 := Lib.hid h1
        clear h1
        go_wp2_with fail
        go_ret2
        have eA := encA_of (start := bs.length) (last := last) (f := true) (fo := fo) (bs := bs) HBB.out (manyB_ne _ _ _ _) rfl
        refine ⟨?_, by rw [HBB.out]; exact H1.out⟩
        rw [eA, List.length_append]
        rfl
  | [a], _ =>
    simp only [List.length_cons, List.length_nil, Nat.zero_add] at c1
    cases f with
    | true =>
      have hB : encB bs.length last true fo [a] = manyB bs.length true fo [a] := by unfold encB; simp
      have HBB := Lib.hid hB
      clear hB
      go_enter Tryd.func58, Tryd.ntmps58
      go_wp2_with fail
      refine HM.out.mono ?_
      rintro e w1 ⟨rfl, h1⟩
      have H1 := Lib.hid h1
      clear h1
      go_wp2_with fail
      go_ret2
      have eA := encA_of (start := bs.length) (last := last) (f := true) (fo := fo) (bs := bs) HBB.out (manyB_ne _ _ _ _) rfl
      refine ⟨?_, by rw [HBB.out]; exact H1.out⟩
      rw [eA, List.length_append]
      rfl
    | false =>
      obtain ⟨vb, vo, vc', hv⟩ := node_slice HN.out (by simp)
      simp only [List.map_cons, List.map_nil, List.length_cons, List.length_nil, Nat.zero_add] at hv
      cases hv
      obtain ⟨-, -, -, d0, d1, d2⟩ := node_cells HN.out (k := 0) (a := a) rfl
      simp only [Nat.zero_mul, Nat.add_zero] at d0 d1 d2
      obtain ⟨ai, ao, at_⟩ := a
      simp only at d0 d1 d2
      have hok := HA.out (ai, ao, at_) (by simp)
      have hF := fin_any en u i bs B _ false (fo : Int) (ai, ao, at_) 64 w H.out HN.out (HT.out w (Mod.refl _ _)) hok.1 (Or.inr rfl) (by omega) HD.out
      have hO := one_any en u i bs B _ false (fo : Int) (ai, ao, at_) w H.out HN.out HT.out hok (by omega) HD.out
      have HF := Lib.hid hF
      have HO := Lib.hid hO
      have h2 : (ai, ao, at_).2.1 = ao := rfl
      clear hok hF hO h2
      by_cases hz : ao = 0
      · subst hz
        by_cases ht : at_ = last
        · subst ht
          have hB : encB bs.length at_ false fo [(ai, 0, at_)] = finB 64 ai := by simp [encB]
          have HBB := Lib.hid hB
          have hq : ((at_ : Int) == at_) = true := beq_self_eq_true _
          clear hB
          go_enter Tryd.func58, Tryd.ntmps58
          go_wp2_with fail
          refine HF.out.mono ?_
          rintro e w1 ⟨rfl, h1⟩
          have H1 := Lib.hid h1
          clear h1
          go_wp2_with fail
          go_ret2
          have eA := encA_of (start := bs.length) (last := at_) (f := false) (fo := fo) (bs := bs) HBB.out (finB_ne _ _) rfl
          refine ⟨?_, by rw [HBB.out]; exact H1.out⟩
          rw [eA, List.length_append]
          rfl
        · have hB : encB bs.length last false fo [(ai, 0, at_)] = oneB bs.length (ai, 0, at_) := by simp [encB, ht]
          have HBB := Lib.hid hB
          have hq : ((at_ : Int) == last) = false := beq_eq_false_iff_ne.2 (by omega)
          clear hB ht
          go_enter Tryd.func58, Tryd.ntmps58
          go_wp2_with fail
          refine HO.out.mono ?_
          rintro e w1 ⟨rfl, h1⟩
          have H1 := Lib.hid h1
          clear h1
          go_wp2_with fail
          go_ret2
          have eA := encA_of (start := bs.length) (last := last) (f := false) (fo := fo) (bs := bs) HBB.out (oneB_ne _ _) rfl
          refine ⟨?_, by rw [HBB.out]; exact H1.out⟩
          rw [eA, List.length_append]
          rfl
      · have hB : encB bs.length last false fo [(ai, ao, at_)] = oneB bs.length (ai, ao, at_) := by simp [encB, hz]
        have HBB := Lib.hid hB
        have hq : ((ao : Int) == 0) = false := beq_eq_false_iff_ne.2 (by omega)
        clear hB hz
        go_enter Tryd.func58, Tryd.ntmps58
        go_wp2_with fail
        refine HO.out.mono ?_
        rintro e w1 ⟨rfl, h1⟩
        have H1 := Lib.hid h1
        clear h1
        go_wp2_with fail
        go_ret2
        have eA := encA_of (start := bs.length) (last := last) (f := false) (fo := fo) (bs := bs) HBB.out (oneB_ne _ _) rfl
        refine ⟨?_, by rw [HBB.out]; exact H1.out⟩
        rw [eA, List.length_append]
        rfl
  | a :: b :: r, hn =>
    have hB : encB bs.length last f fo (a :: b :: r) = manyB bs.length f fo (a :: b :: r) := by unfold encB; rfl
    have HBB := Lib.hid hB
    clear hB
    generalize hq : (a :: b :: r).length = n at *
    have hn2 : 2 ≤ n := by rw [← hq]; simp
    have hz1 : ((n : Int) == 0) = false := beq_eq_false_iff_ne.2 (by omega)
    have hz2 : ((n : Int) != 1) = true := by rw [bne_iff_ne]; omega
    clear hq
    go_enter Tryd.func58, Tryd.ntmps58
    go_wp2_with fail
    refine HM.out.mono ?_
    rintro e w1 ⟨rfl, h1⟩
    have H1 := Lib.hid h1
    clear h1
    go_wp2_with fail
    go_ret2
    have eA := encA_of (start := bs.length) (last := last) (f := f) (fo := fo) (bs := bs) HBB.out (manyB_ne _ _ _ _) rfl
    refine ⟨?_, by rw [HBB.out]; exact H1.out⟩
    rw [eA, List.length_append]
    rfl
theorem zst_any (en u : Nat) (i : Ids) (bs : List Nat) (B : Nat) (v : Value) (f : Bool) (fo : Nat) (l : List NA) (last : Nat) (w : World) (h : EOut w en u i bs) (hN : NodeAt w B v f fo (l.map toArc)) (hT : ∀ w', Mod (WF u i) w w' → TabAt w' 2 T0) (ha : ∀ a ∈ l, NAok bs.length a) (hl : bs.length ≤ 4294900000) (hn : l.length ≤ 256) (hfo : fo < 18446744073709551616)
    (hd : ∀ k, fp B v k → ¬ WF u i k) :
    Calls Tryd.prog 42 #[.pointer (some ⟨en, 0, none⟩), .pointer (some ⟨B, 0, none⟩), .int .i64 last] w fun e w' => e = .returned (.tuple #[.int .i64 (encA bs.length last f fo l : Nat), .nilIface]) ∧ EWent w w' en u i (bs ++ encB bs.length last f fo l) := by
  have HS := Lib.hid (st_any en u i bs B v f fo l last w h hN hT ha hl hn hfo hd)
  clear h hN hT ha hd hfo
  go_enter Tryd.func42, Tryd.ntmps42
  go_wp2_with fail
  refine HS.out.mono ?_
  rintro e w1 ⟨rfl, h1⟩
  have H1 := Lib.hid h1
  clear h1
  go_wp2_with fail
  go_ret2
  exact ⟨rfl, H1.out⟩
end Go.Proofs.YtkbonmjbfpdchaaDoor.Buf
