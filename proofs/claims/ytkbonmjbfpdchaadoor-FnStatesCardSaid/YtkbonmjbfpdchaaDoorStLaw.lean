/- FnStates: the law. -/
import Derived.Test.YtkbonmjbfpdchaaDoorStW
import Derived.Test.YtkbonmjbfpdchaaDoorSame0
import Derived.Test.YtkbonmjbfpdchaaDoorFits80
import Derived.LaidMore
import Derived.ChangeBears2
import Derived.Deep.Slices
namespace Go.Proofs.YtkbonmjbfpdchaaDoor.Buf
open Go.ChangeShapes Go.WideShapes Go.ChangeAt Go.RowKit Go.Trav Go.Pk Go.Proofs.YtkbonmjbfpdchaaDoor.Node Go.Proofs.YtkbonmjbfpdchaaDoor.Common
set_option linter.unusedVariables false
set_option linter.unusedSimpArgs false
set_option maxRecDepth 100000
theorem same_alike {x y : StV} {xv yv : Value} (w : World) (h1 : x.f = y.f) (h2 : x.o = y.o) (h3 : x.l = y.l) (hx : Arcs w xv x.l.length x.l) (hy : Arcs w yv y.l.length y.l) :
    Calls Tryd.prog 8 #[.agg #[.bool x.f, .int .u64 x.o, xv], .agg #[.bool y.f, .int .u64 y.o, yv]] w fun e w' => e = .returned (.bool true) ∧ Below w.heap.size w w' := by
  have h := same_any x.f y.f x.o y.o xv yv _ _ x.l y.l w hx hy
  rwa [show sameB x.f y.f x.o y.o x.l y.l = true by simp [sameB, h1, h2, h3]] at h
set_option maxHeartbeats 20000000 in
theorem law_states (v : Value) (n : Nat) (S : List StV) (w : World) (h : States w v n S) (hok : ∀ x ∈ S, StOk x) (hT : TabAt w 2 T0) (hT1 : TabAt w 3 Go.Proofs.YtkbonmjbfpdchaaDoor.Dec.T1) :
    Calls Tryd.prog 3 #[v] w fun e w' => e = .returned (.bool true) ∧ Below w.heap.size w w' := by
  obtain ⟨ao, cap, rfl⟩ := h.cells.form
  have hbd := h.cells.bound
  have hlen := h.len
  have HF := Lib.hid (fits8_any _ n S w h)
  have H := Lib.hid h
  have HOK := Lib.hid hok
  have HTT := Lib.hid hT
  have HT1 := Lib.hid hT1
  have HLEN := Lib.hid hlen
  clear h hok hT hT1 hlen
  go_enter Tryd.func3, Tryd.ntmps3
  go_wp2_with fail
  refine HF.out.mono ?_
  rintro e w1 ⟨⟨b, rfl, hb⟩, hb1⟩
  have HB := Lib.hid hb
  clear hb HF
  cases b with
  | false =>
    go_wp2_with fail
    go_ret
    exact ⟨rfl, hb1⟩
  | true =>
    by_cases hn : 2000 < n
    · go_wp2_with fail
      go_ret
      exact ⟨rfl, hb1⟩
    replace hn : n ≤ 2000 := by omega
    have q20 : decide (2000 < (n : Int)) = false := by rw [decide_eq_false_iff_not]; omega
    have HRT := Lib.hid (right_rise _ n S w1 (H.out.below hb1) hn (HB.out rfl).2)
    go_wp2_with fail
    refine HRT.out.mono ?_
    rintro e w2 ⟨⟨b, rfl, hb⟩, hb2⟩
    have HR0 := Lib.hid hb
    clear hb HRT
    have hbw2 : Below w.heap.size w w2 := hb1.trans (hb2.mono hb1.size)
    cases b with
    | false =>
      go_wp2_with fail
      go_ret
      exact ⟨rfl, hbw2⟩
    | true =>
      have hRR := HR0.out rfl
      have hT0 : 0 < T0.length := by rw [T0_len]; omega
      have hT10 : 0 < Go.Proofs.YtkbonmjbfpdchaaDoor.Dec.T1.length := by rw [Go.Proofs.YtkbonmjbfpdchaaDoor.Dec.T1_len]; omega
      have HD := Lib.hid (states_any _ n S w2 (H.out.below hbw2) hn HOK.out hRR.1 hRR.2 (TabAt.same HTT.out hT0 hbw2) (TabAt.same HT1.out hT10 hbw2))
      have hnn : ((n : Int) != n) = false := by simp
      clear HR0 HB hRR
      go_wp2_with fail
      refine HD.out.mono ?_
      rintro e w3 ⟨bv, B, rfl, hst, hbl, hal, hb3⟩
      have hbw3 : Below w.heap.size w w3 := hbw2.trans (hb3.mono hbw2.size)
      obtain ⟨bo, bc, rfl⟩ := hst.cells.form
      have HST := Lib.hid hst
      have HAL := Lib.hid hal
      have HBL := Lib.hid hbl
      have HB3 := Lib.hid hbw3
      clear hst hal hbl hb3 hbw3 HD
      go_wp2_with fail
      go_loopw [5] (fun ix wr => ∃ i : Nat, ix = .int .i64 i ∧ i ≤ n ∧ Hid (Below w3.heap.size w3 wr)) (fun ix _ => n - (intOf ix).toNat)
      case atStart => exact ⟨0, rfl, Nat.zero_le _, Lib.hid (Below.refl _ _)⟩
      case round =>
        obtain ⟨i, rfl, hi, HW⟩ := hrel
        rename World => wr
        by_cases hlt : i < n
        · obtain ⟨b1, o1, _, x, hx, e1, c0, c1, c2, ha⟩ := (H.out.below (HB3.out.trans (HW.out.mono HB3.out.size))).at hlt
          cases hx
          obtain ⟨b2, o2, _, y, hy, e2, d0, d1, d2, hc⟩ := (HST.out.below HW.out).at hlt
          cases hy
          obtain ⟨r1, r2, r3⟩ := HAL.out i x y e1 e2
          obtain ⟨xa, xcap, hxv⟩ := ha.form
          obtain ⟨ya, ycap, hyv⟩ := hc.form
          rw [hxv] at c2 ha
          rw [hyv] at d2 hc
          have HS := Lib.hid (fun W (hW : Below wr.heap.size wr W) => same_alike W r1 r2 r3 (Reads.below ha hW) (Reads.below hc hW))
          have hI1 : (0 : Int) ≤ (i : Int) := by omega
          have hI2 : (i : Int) < (n : Int) := by omega
          have u0 := cell_regrown c0
          have u1 := cell_regrown c1
          have u2 := cell_regrown c2
          have v0 := cell_regrown d0
          have v1 := cell_regrown d1
          have v2 := cell_regrown d2
          clear ha hc hxv hyv r1 r2 r3 e1 e2
          go_wp2_with fail
          refine wp_region_quiet_below (by kernel_rfl) (by kernel_rfl) ?_
          repeat (first | go_big_quiet_step ((exact Calls.regrown_of (HS.out _ (below_regrown _ _ _)))) | quiet_step ((exact Calls.regrown_of (HS.out _ (below_regrown _ _ _)))))
          refine wpQuiet_nil ?_
          intro _ hw'
          obtain ⟨⟨dq, osq⟩, hw''⟩ := hw'
          subst hw''
          have HW3 := Lib.hid (HW.out.trans ((below_regrown wr dq osq).mono HW.out.size))
          go_wp2_with fail
          go_roundw
          case rel => exact ⟨i + 1, by go_num, by omega, HW3⟩
          case measure => simp [intOf]; omega
        · obtain rfl : i = n := by omega
          go_wp2_with fail
          go_ret
          exact ⟨rfl, HB3.out.trans (HW.out.mono HB3.out.size)⟩
theorem of_laid {W : World} (h : laidMetH Tryd.prog Rows.fnStatesRow.laid W) : TabAt W 2 T0 ∧ TabAt W 3 Go.Proofs.YtkbonmjbfpdchaaDoor.Dec.T1 := by
  rw [MakeChecks.laidMetH_plain _ _ _ (by kernel_rfl)] at h
  obtain ⟨ps, ⟨g0, t0, cs0, f0, p0, q0, hg0, ht0, hv0, hd0, ⟨g1, t1, cs1, f1, p1, q1, hg1, ht1, hv1, hd1, ⟨g2, t2, cs2, f2, p2, q2, hg2, ht2, hv2, hd2, _, _⟩, _⟩, _⟩, _, _⟩ := h
  have G1 : Tryd.prog.globalNamed "pub-traverser/pub/vellum.commonInputs" = some 2 := by kernel_rfl
  have G2 : Tryd.prog.globalNamed "pub-traverser/pub/vellum.commonInputsInv" = some 3 := by kernel_rfl
  have R1 : (Tryd.prog.globals[2]?).map (·.type) = some 35 := by kernel_rfl
  have R2 : (Tryd.prog.globals[3]?).map (·.type) = some 35 := by kernel_rfl
  obtain rfl := Option.some.inj (G1.symm.trans hg1)
  obtain rfl := Option.some.inj (R1.symm.trans ht1)
  obtain rfl := Option.some.inj (G2.symm.trans hg2)
  obtain rfl := Option.some.inj (R2.symm.trans ht2)
  exact ⟨tab_of (T := T0) (by unfold T0; decide +kernel) (by kernel_rfl) G1 hv1 hd1, tab_of (T := Go.Proofs.YtkbonmjbfpdchaaDoor.Dec.T1) (by unfold Go.Proofs.YtkbonmjbfpdchaaDoor.Dec.T1; decide +kernel) (by kernel_rfl) G2 hv2 hd2⟩
end Go.Proofs.YtkbonmjbfpdchaaDoor.Buf
