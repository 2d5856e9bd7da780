/- FnStatesData: the law. -/
import Derived.Test.YtanimdajohpggaaDoorEncRun
import Derived.Test.YtanimdajohpggaaDoorFits80
namespace Go.Proofs.YtanimdajohpggaaDoor.Buf
open Go.ChangeShapes Go.WideShapes Go.ChangeAt Go.RowKit Go.Trav Go.Pk Go.Proofs.YtanimdajohpggaaDoor.Node Go.Proofs.YtanimdajohpggaaDoor.Common
set_option linter.unusedVariables false
set_option maxRecDepth 100000
/-- The first m elements of a slice. -/
theorem Reads.cut {w : World} {ao : Option Addr} {n cap size : Nat} {xs : List Value} (h : Reads w (.slice ao n cap) n size xs) {m : Nat} (hm : m ≤ n) : Reads w (.slice ao m cap) m size (xs.take (m * size)) := by
  obtain ⟨ao', cap', e, h1, h2, h3, h4, h5⟩ := h
  cases e
  have hle : m * size ≤ n * size := Nat.mul_le_mul_right _ hm
  refine ⟨_, _, rfl, by omega, h2, h3, by rw [List.length_take]; omega, fun hp => ?_⟩
  obtain ⟨b, off, rfl, hc⟩ := h5 (by rw [List.length_take] at hp; omega)
  refine ⟨b, off, rfl, fun j u hj => hc j u ?_⟩
  rw [List.getElem?_take] at hj
  split at hj
  · exact hj
  · cases hj
theorem flat_take (S : List StV) (m : Nat) : (S.flatMap stateCells).take (m * 3) = (S.take m).flatMap stateCells := by
  induction S generalizing m with
  | nil => simp
  | cons x r ih =>
    cases m with
    | zero => simp
    | succ m =>
      have e : (m + 1) * 3 = 3 + m * 3 := by omega
      rw [List.flatMap_cons, e, List.take_succ_cons, List.flatMap_cons, ← ih m]
      rw [List.take_append, stateCells_len, List.take_of_length_le (by rw [stateCells_len]; omega), Nat.add_sub_cancel_left]
theorem States.take {w : World} {ao : Option Addr} {n cap : Nat} {S : List StV} (h : States w (.slice ao n cap) n S) {m : Nat} (hm : m ≤ n) : States w (.slice ao m cap) m (S.take m) :=
  ⟨by rw [← flat_take]; exact Reads.cut h.cells hm, fun x hx => h.arcs x (List.mem_of_mem_take hx)⟩
theorem RightL.take {S : List StV} (h : RightL S) (m : Nat) : RightL (S.take m) := by
  intro i x hi
  rw [List.getElem?_take] at hi
  split at hi
  · exact h i x hi
  · cases hi
/-- The plain law. -/
structure SD (S : List StV) (m : Nat) (A F : List Nat) (D P : List Nat) : Prop where
  na : A.length = S.length
  nf : F.length = m
  dn : 0 < D.length
  at_ : ∀ (i a : Nat), A[i]? = some a → 2 ≤ a ∧ a < D.length
  up : ∀ (i a b : Nat), A[i]? = some a → A[i + 1]? = some b → a < b
  fst : ∀ i, i < m → F[i]? = A[i]?
  in_ : ∀ (i a : Nat), F[i]? = some a → a < P.length
  pre : ∀ (j z : Nat), m = j + 1 → F[j]? = some z → P.take (z + 1) = D.take (z + 1)
theorem sd_any (S : List StV) (m : Nat) (hm : m ≤ S.length) (hr : RightL S) (ho : ∀ x ∈ S, StOk x) : SD S m (encAll S).2 (encAll (S.take m)).2 (outB S) (outB (S.take m)) := by
  have h1 := EInv.all hr ho S.length (Nat.le_refl _)
  rw [List.take_of_length_le (Nat.le_refl _)] at h1
  have h2 := EInv.all hr ho m hm
  obtain ⟨⟨r1, e1⟩, ⟨r2, e2⟩⟩ := encAll_pre S m (S.length - m)
  rw [show m + (S.length - m) = S.length by omega, List.take_of_length_le (Nat.le_refl _)] at e1 e2
  have hD : (outB S).length = (encAll S).1.length + 16 := by simp [outB, packed_len]
  have hP : (outB (S.take m)).length = (encAll (S.take m)).1.length + 16 := by simp [outB, packed_len]
  refine ⟨h1.n, h2.n, by omega, fun i a h => ?_, h1.up, fun i hi => ?_, fun i a h => ?_, fun j z hj hz => ?_⟩
  · have := h1.ad i a h
    omega
  · rw [e2, List.getElem?_append_left (by rw [h2.n]; exact hi)]
  · have := h2.ad i a h
    omega
  · subst hj
    have hx : S[j]? = some S[j] := List.getElem?_eq_getElem (by omega)
    have h3 := EInv.all hr ho j (by omega)
    obtain ⟨_, a, ea, la, lb⟩ := h3.step (hr j _ hx) (ho _ (List.mem_of_getElem? hx)).1.1
    rw [← encAll_take hx] at ea la
    rw [ea] at hz
    have hn3 := h3.n
    rw [List.getElem?_append_right (by omega), hn3, Nat.sub_self] at hz
    simp at hz
    have h16 := h2.lo
    have hza : z + 1 = (encAll (S.take (j + 1))).1.length := by omega
    rw [hza]
    unfold outB
    rw [List.take_left, e1, List.append_assoc, List.take_left]
theorem statesData_any (v : Value) (n : Nat) (S : List StV) (w : World) (h : States w v n S) (hn : n ≤ 2000) (hok : ∀ x ∈ S, StOk x) (hr : RightL S) (hT : TabAt w 4 T0) :
    Calls Tryd.prog 27 #[v] w fun e w' => ∃ dv av, e = .returned (.tuple #[dv, av, .bool true]) ∧ Reads w' dv (outB S).length 1 ((outB S).map bN) ∧ Reads w' av n 1 ((encAll S).2.map aV) ∧ Below w.heap.size w w' := by
  have HE := Lib.hid (encoded_any v n S w h hn hok hr hT)
  clear h hok hr hT
  go_enter Tryd.func27, Tryd.ntmps27
  go_wp2_with fail
  refine HE.out.mono ?_
  rintro e w1 ⟨dv, av, rfl, h1⟩
  have H1 := Lib.hid h1
  clear h1
  go_wp2_with fail
  go_ret3
  exact ⟨dv, av, rfl, H1.out⟩
set_option maxHeartbeats 20000000 in
theorem law_data (v : Value) (n : Nat) (S : List StV) (z : Int) (w : World) (h : States w v n S) (hok : ∀ x ∈ S, StOk x) (hT : TabAt w 4 T0) (hz1 : -9223372036854775808 ≤ z) (hz2 : z ≤ 9223372036854775807) :
    Calls Tryd.prog 8 #[v, .int .i64 z] w fun e w' => e = .returned (.bool true) ∧ Below w.heap.size w w' := by
  obtain ⟨ao, cap, rfl⟩ := h.cells.form
  have hbd := h.cells.bound
  have hnc : n ≤ cap := by obtain ⟨_, _, e, h1, _⟩ := h.cells; cases e; exact h1
  have hlen := h.len
  have HF := Lib.hid (fits8_any _ n S w h)
  have H := Lib.hid h
  have HOK := Lib.hid hok
  have HTT := Lib.hid hT
  have HLEN := Lib.hid hlen
  clear h hok hT hlen
  go_enter Tryd.func8, Tryd.ntmps8
  go_wp2_with fail
  refine HF.out.mono ?_
  rintro e w1 ⟨⟨b, rfl, hb⟩, hb1⟩
  have HB := Lib.hid hb
  clear hb HF
  cases b with
  | false =>
    go_wp2_with fail
    go_ret
    exact ⟨rfl, hb1⟩
  | true =>
    by_cases hn : 2000 < n
    · go_wp2_with fail
      go_ret
      exact ⟨rfl, hb1⟩
    replace hn : n ≤ 2000 := by omega
    by_cases hz0 : z < 0
    · go_wp2_with fail
      go_ret
      exact ⟨rfl, hb1⟩
    obtain ⟨m, rfl⟩ := Int.eq_ofNat_of_zero_le (show 0 ≤ z by omega)
    by_cases hmn : n < m
    · go_wp2_with fail
      go_ret
      exact ⟨rfl, hb1⟩
    replace hmn : m ≤ n := by omega
    have q20 : decide (2000 < (n : Int)) = false := by rw [decide_eq_false_iff_not]; omega
    have q21 : decide ((m : Int) < 0) = false := by rw [decide_eq_false_iff_not]; omega
    have q22 : decide ((n : Int) < (m : Int)) = false := by rw [decide_eq_false_iff_not]; omega
    have hI1 : (0 : Int) ≤ (m : Int) := by omega
    have hI2 : (m : Int) ≤ (cap : Int) := by omega
    have HRT := Lib.hid (right_any _ n S w1 (H.out.below hb1) hn (HB.out rfl).2)
    go_wp2_with fail
    refine HRT.out.mono ?_
    rintro e w2 ⟨⟨b, rfl, hb⟩, hb2⟩
    have HR0 := Lib.hid hb
    clear hb HRT
    have hbw2 : Below w.heap.size w w2 := hb1.trans (hb2.mono hb1.size)
    cases b with
    | false =>
      go_wp2_with fail
      go_ret
      exact ⟨rfl, hbw2⟩
    | true =>
      have HR : Hid (RightL S) := Lib.hid (HR0.out rfl)
      have hT0 : 0 < T0.length := by rw [T0_len]; omega
      have HD := Lib.hid (statesData_any _ n S w2 (H.out.below hbw2) hn HOK.out HR.out (TabAt.same HTT.out hT0 hbw2))
      have HSD := Lib.hid (sd_any S m (by rw [HLEN.out]; exact hmn) HR.out HOK.out)
      clear HR0 HB
      go_wp2_with fail
      refine HD.out.mono ?_
      rintro e w3 ⟨dv, av, rfl, hd3, ha3, hb3⟩
      have hbw3 : Below w.heap.size w w3 := hbw2.trans (hb3.mono hbw2.size)
      have HD2 := Lib.hid (statesData_any (.slice ao m cap) m (S.take m) w3 (States.take (H.out.below hbw3) hmn) (by omega) (fun x hx => HOK.out x (List.mem_of_mem_take hx)) (RightL.take HR.out m) (TabAt.same HTT.out hT0 hbw3))
      have HD3 := Lib.hid hd3
      have HA3 := Lib.hid ha3
      clear hd3 ha3 HD
      go_wp2_with fail
      refine HD2.out.mono ?_
      rintro e w4 ⟨pv, fv, rfl, hp4, hf4, hb4⟩
      have hbw4 : Below w.heap.size w w4 := hbw3.trans (hb4.mono hbw3.size)
      have hd4 := HD3.out.below hb4
      have ha4 := HA3.out.below hb4
      have b1 := hd4.bound
      have b2 := hp4.bound
      obtain ⟨da, dc, rfl⟩ := hd4.form
      obtain ⟨aa, ac, rfl⟩ := ha4.form
      obtain ⟨pa, pc, rfl⟩ := hp4.form
      obtain ⟨fa, fc, rfl⟩ := hf4.form
      have hpc : (outB (S.take m)).length ≤ pc := by obtain ⟨_, _, e, h1, _⟩ := hp4; cases e; exact h1
      have hdc : (outB S).length ≤ dc := by obtain ⟨_, _, e, h1, _⟩ := hd4; cases e; exact h1
      have HD4 := Lib.hid hd4
      have HA4 := Lib.hid ha4
      have HP4 := Lib.hid hp4
      have HF4 := Lib.hid hf4
      clear hd4 ha4 hp4 hf4 HD2 HD3 HA3 HR hb1 hb2 hb3 hb4 hbw2 hbw3
      generalize (encAll S).2 = A at *
      generalize (encAll (S.take m)).2 = F at *
      generalize outB S = D at *
      generalize outB (S.take m) = P at *
      obtain ⟨dl, hdl⟩ : ∃ dl, D.length = dl := ⟨_, rfl⟩
      obtain ⟨pl, hpl⟩ : ∃ pl, P.length = pl := ⟨_, rfl⟩
      have hd0 : 0 < dl := by rw [← hdl]; exact HSD.out.dn
      simp only [hdl, hpl] at HD4 HP4 b1 b2 hpc hdc
      have HDL := Lib.hid hdl
      have HPL := Lib.hid hpl
      clear hdl hpl
      have q30 : ((dl : Int) == 0) = false := beq_eq_false_iff_ne.2 (by omega)
      rw [HDL.out, HPL.out]
      go_wp2_with fail
      go_loopw [11] (fun ix wr => ∃ i : Nat, ix = .int .i64 i ∧ i ≤ n ∧ ∃ q, wr = w4.drewN q) (fun ix _ => n - (intOf ix).toNat)
      case atStart => exact ⟨0, rfl, Nat.zero_le _, 0, rfl⟩
      case round =>
        obtain ⟨i, rfl, hi, nq, rfl⟩ := hrel
        by_cases hlt : i < n
        · obtain ⟨ab, aoff, _, a, hx, ea, ca⟩ := Reads.one aV HA4.out hlt
          cases hx
          obtain ⟨ha2, had⟩ := HSD.out.at_ i a ea
          rw [HDL.out] at had
          unfold aV at ca
          have EA := Lib.hid ea
          clear ea
          have q1 : decide ((a : Int) < 2) = false := by rw [decide_eq_false_iff_not]; omega
          have q2 : decide ((dl : Int) ≤ (a : Int)) = false := by rw [decide_eq_false_iff_not]; omega
          have q2n : decide (dl ≤ a) = false := by rw [decide_eq_false_iff_not]; omega
          have q1n : decide (a < 2) = false := by rw [decide_eq_false_iff_not]; omega
          clear ha2 had
          rcases Nat.eq_zero_or_pos i with hi0 | hi0
          · subst hi0
            have q3 : decide ((0 : Int) < ((0 : Nat) : Int)) = false := by decide
            rw [Nat.add_zero] at ca
            by_cases him : 0 < m
            · obtain ⟨fb, foff, _, f, hx, ef, cf⟩ := Reads.one aV HF4.out him
              cases hx
              obtain rfl : f = a := Option.some.inj (ef.symm.trans ((HSD.out.fst _ him).trans EA.out))
              have hfp := HSD.out.in_ _ _ ef
              rw [HPL.out] at hfp
              unfold aV at cf
              rw [Nat.add_zero] at cf
              clear ef
              have q5 : decide (((0 : Nat) : Int) < (m : Int)) = true := by rw [decide_eq_true_eq]; omega
              have q5n : decide (0 < m) = true := by rw [decide_eq_true_eq]; omega
              have q7 : decide ((pl : Int) ≤ (f : Int)) = false := by rw [decide_eq_false_iff_not]; omega
              have q7n : decide (pl ≤ f) = false := by rw [decide_eq_false_iff_not]; omega
              go_wp2_with fail
              go_quiet (fail)
              go_wp2_with fail
              go_roundw
              case rel => exact ⟨1, rfl, by omega, _, rfl⟩
              case measure => simp [intOf]; omega
            · have q5 : decide (((0 : Nat) : Int) < (m : Int)) = false := by rw [decide_eq_false_iff_not]; omega
              have q5n : decide (0 < m) = false := by rw [decide_eq_false_iff_not]; omega
              go_wp2_with fail
              go_quiet (fail)
              go_wp2_with fail
              go_roundw
              case rel => exact ⟨1, rfl, by omega, _, rfl⟩
              case measure => simp [intOf]; omega
          · obtain ⟨j, hj⟩ : ∃ j, i = j + 1 := ⟨i - 1, by omega⟩
            have hI3 : (0 : Int) ≤ (i : Int) := by omega
            have hI4 : (i : Int) < (n : Int) := by omega
            have hI5 : (0 : Int) ≤ (j : Int) := by omega
            have hI6 : (j : Int) < (n : Int) := by omega
            have q3n : decide (0 < i) = true := by rw [decide_eq_true_eq]; omega
            have q3 : decide ((0 : Int) < (i : Int)) = true := by rw [decide_eq_true_eq]; omega
            have ek : ((i : Int) - 1) = (j : Int) := by omega
            have hjn : j < n := by omega
            have ew : IntKind.i64.wrap (j : Int) = (j : Int) := IntWalk.i64_in _ (by omega)
            obtain ⟨ab', aoff', _, a', hx, ea', ca'⟩ := Reads.one aV HA4.out (show j < n by omega)
            cases hx
            have hup := HSD.out.up j a' a ea' (by rw [← hj]; exact EA.out)
            unfold aV at ca'
            clear ea'
            clear hj
            have q4 : decide ((a : Int) ≤ (a' : Int)) = false := by rw [decide_eq_false_iff_not]; omega
            have q4n : decide (a ≤ a') = false := by rw [decide_eq_false_iff_not]; omega
            by_cases him : i < m
            · obtain ⟨fb, foff, _, f, hx, ef, cf⟩ := Reads.one aV HF4.out him
              cases hx
              obtain rfl : f = a := Option.some.inj (ef.symm.trans ((HSD.out.fst _ him).trans EA.out))
              have hfp := HSD.out.in_ _ _ ef
              rw [HPL.out] at hfp
              have hI7 : (i : Int) < (m : Int) := by omega
              unfold aV at cf
              clear ef
              have q5 : decide ((i : Int) < (m : Int)) = true := by rw [decide_eq_true_eq]; omega
              have q5n : decide (i < m) = true := by rw [decide_eq_true_eq]; omega
              have q7 : decide ((pl : Int) ≤ (f : Int)) = false := by rw [decide_eq_false_iff_not]; omega
              have q7n : decide (pl ≤ f) = false := by rw [decide_eq_false_iff_not]; omega
              go_wp2_with fail
              go_quiet (fail)
              go_wp2_with fail
              go_roundw
              case rel => exact ⟨i + 1, by go_num, by omega, _, rfl⟩
              case measure => simp [intOf]; omega
            · have q5 : decide ((i : Int) < (m : Int)) = false := by rw [decide_eq_false_iff_not]; omega
              have q5n : decide (i < m) = false := by rw [decide_eq_false_iff_not]; omega
              go_wp2_with fail
              go_quiet (fail)
              go_wp2_with fail
              go_roundw
              case rel => exact ⟨i + 1, by go_num, by omega, _, rfl⟩
              case measure => simp [intOf]; omega
        · obtain rfl : i = n := by omega
          rcases Nat.eq_zero_or_pos m with hm0 | hm0
          · subst hm0
            go_wp2_with fail
            go_quiet (fail)
            go_wp2_with fail
            go_ret
            exact ⟨rfl, below_drewN (below_drewN hbw4 _) _⟩
          · obtain ⟨j, hj⟩ : ∃ j, m = j + 1 := ⟨m - 1, by omega⟩
            have q8 : ((m : Int) == 0) = false := beq_eq_false_iff_ne.2 (by omega)
            have ek : ((m : Int) - 1) = (j : Int) := by omega
            have hjm : j < m := by omega
            have hI3 : (0 : Int) ≤ (j : Int) := by omega
            have hI4 : (j : Int) < (m : Int) := by omega
            have ew : IntKind.i64.wrap (j : Int) = (j : Int) := IntWalk.i64_in _ (by omega)
            obtain ⟨fb, foff, _, f, hx, ef, cf⟩ := Reads.one aV HF4.out (show j < m by omega)
            cases hx
            have hfp := HSD.out.in_ _ _ ef
            rw [HPL.out] at hfp
            have hpre := HSD.out.pre j f hj ef
            have hfd : f < dl := by
              have h5 := HSD.out.fst j (by omega)
              rw [ef] at h5
              have := (HSD.out.at_ j f h5.symm).2
              rwa [HDL.out] at this
            have h6 := Reads.cut (HP4.out.drewN nq) (show f + 1 ≤ pl by omega)
            have h7 := Reads.cut (HD4.out.drewN nq) (show f + 1 ≤ dl by omega)
            rw [Nat.mul_one, ← List.map_take, hpre] at h6
            rw [Nat.mul_one, ← List.map_take] at h7
            have H6 := Lib.hid h6
            have H7 := Lib.hid h7
            unfold aV at cf
            clear ef hpre h6 h7
            clear hj
            have e1 : IntKind.i64.wrap ((f : Int) + 1) = (f : Int) + 1 := IntWalk.i64_in _ (by omega)
            have e2 : ((f : Int) + 1).toNat = f + 1 := by omega
            have k1 : (0 : Int) ≤ (f : Int) + 1 := by omega
            have k2 : (f : Int) + 1 ≤ (pc : Int) := by omega
            have k3 : (f : Int) + 1 ≤ (dc : Int) := by omega
            have cf2 : (w4.drewN nq).cell? ⟨fb, foff + j, none⟩ = some (.int .i64 (f : Int)) := by simpa using cf
            go_wp2_with fail
            have r1 := cell_regrown cf2
            clear cf cf2
            refine wp_region_quiet_below (by kernel_rfl) (by kernel_rfl) ?_
            repeat (first | go_big_quiet_step ((go_at_call 12; exact Calls.regrown_of (PkS.same_any _ _ (f + 1) _ _ (H6.out.below (below_regrown _ _ _)) (H7.out.below (below_regrown _ _ _))))) | quiet_step ((go_at_call 12; exact Calls.regrown_of (PkS.same_any _ _ (f + 1) _ _ (H6.out.below (below_regrown _ _ _)) (H7.out.below (below_regrown _ _ _))))))
            refine wpQuiet_nil ?_
            intro _ hw'
            obtain ⟨⟨dq, osq⟩, hw''⟩ := hw'
            subst hw''
            go_wp2_with fail
            go_ret
            exact ⟨rfl, (below_drewN hbw4 nq).trans ((below_regrown (w4.drewN nq) dq osq).mono (below_drewN hbw4 nq).size)⟩
end Go.Proofs.YtanimdajohpggaaDoor.Buf
