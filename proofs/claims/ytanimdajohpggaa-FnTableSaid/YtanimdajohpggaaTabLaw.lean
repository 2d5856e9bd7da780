/- FnTable: the law. -/
import Derived.Test.YtanimdajohpggaaAuto2
import Derived.Test.YtanimdajohpggaaTc2
namespace Go.Proofs.Ytanimdajohpggaa.Table
open Go.ChangeShapes Go.WideShapes Go.ChangeAt Go.RowKit Go.Trav
set_option linter.unusedVariables false
set_option maxRecDepth 100000
theorem fit_of {w : World} {cv nv mv : Value} {n : Nat} {cls : List Nat} {nxs : List (List Nat)} {rvs : List Value} {mts : List Bool} (h : TabR w cv nv mv n 256 cls nxs rvs mts) (hc : cls.length = 256) (h5 : ∀ c ∈ cls, c < 5) : Fit n cls nxs := by
  refine ⟨hc, h5, h.nl, fun i r hr => ?_, h.lt⟩
  have hi : i < n := by have := (List.getElem?_eq_some_iff.1 hr).1; have := h.nl; omega
  have hl : rvs.length = n := by have := h.nxt.len; simpa using this
  have := (h.rows i _ r (List.getElem?_eq_getElem (by omega : i < rvs.length)) hr).len
  simpa using this
set_option maxHeartbeats 4000000 in
theorem law_table {st : Int} {cv nv mv av bv : Value} {nc nn nm : Nat} {zs : List Int} {rvs0 : List Value} {bs : List Bool} (w : World) (h : Raw w st cv nv mv av bv nc nn nm zs rvs0 bs) (key : ByteArray) :
    Calls Try.prog 4 #[RVal st cv nv mv av bv, .string key] w fun e w' => e = .returned (.bool true) ∧ Below w.heap.size w w' := by
  obtain ⟨W1, hW1⟩ : ∃ W1, W1 = w.alloc (.cells #[.int .i64 st, cv, nv, mv, av, bv] 36) := ⟨_, rfl⟩
  have hb1 : Below w.heap.size w W1 := by rw [hW1]; exact (Below.refl _ _).alloc (Nat.le_refl _) _
  have hB : W1.heap[w.heap.size]? = some (.cells #[.int .i64 st, cv, nv, mv, av, bv] 36 (0, 0)) := by rw [hW1]; exact heap_alloc_new w _
  have h1 := h.below hb1
  obtain ⟨r, hf11⟩ := fits11_any W1 h1
  obtain ⟨ca, cc, rfl⟩ := h.cls.form
  obtain ⟨na, nac, rfl⟩ := h.nxt.cells.form
  obtain ⟨ma, mc, rfl⟩ := h.mt.form
  obtain ⟨aa, an, acp, rfl, _⟩ := h.can
  obtain ⟨ba, bn, bcp, rfl, _⟩ := h.alw
  have H1 := Lib.hid h1
  have HF := Lib.hid hf11
  have HB := Lib.hid hB
  have HB1 := Lib.hid hb1
  clear h h1 hf11 hB hb1
  unfold RVal at HF ⊢
  go_enter Try.func4, Try.ntmps4
  go_wp2_with fail
  rw [← hW1]
  clear hW1
  refine HF.out.mono ?_
  rintro e w2 ⟨rfl, hb2⟩
  have HB2 := Lib.hid hb2
  have hsz := HB1.out.size
  cases r with
  | false =>
    clear hb2
    go_wp2_with fail
    go_ret
    exact ⟨rfl, HB1.out.trans (HB2.out.mono hsz)⟩
  | true =>
    have hblk := block_below HB.out hb2 (block_lt HB.out)
    have h2 := H1.out.below hb2
    have HS := Lib.hid (small_any w2 h2)
    have c0 := block_cell (i := 0) hblk rfl
    have c1 := block_cell (i := 1) hblk rfl
    have c2 := block_cell (i := 2) hblk rfl
    have c3 := block_cell (i := 3) hblk rfl
    have c4 := block_cell (i := 4) hblk rfl
    have c5 := block_cell (i := 5) hblk rfl
    have H2 := Lib.hid h2
    have HBK := Lib.hid hblk
    clear h2 hblk hb2
    unfold RVal at HS
    by_cases hk : key.size ≤ 2147483647
    · have q1 : decide ((2147483647 : Int) < (key.size : Int)) = false := by rw [decide_eq_false_iff_not]; omega
      go_wp2_with fail
      refine HS.out.mono ?_
      rintro e w3 ⟨rfl, hb3⟩
      have HB3 := Lib.hid hb3
      have hs3 := hb3.size
      by_cases hsm : decide (nn ≤ 65536 ∧ nc ≤ 65536) = true
      · rw [hsm]
        by_cases hk2 : key.size ≤ 1048576
        · have q2 : decide ((1048576 : Int) < (key.size : Int)) = false := by rw [decide_eq_false_iff_not]; omega
          have hblk := block_below HBK.out hb3 (block_lt HBK.out)
          have h3 := H2.out.below hb3
          have hau := auto_any w3 h3
          replace c0 := block_cell (i := 0) hblk rfl
          replace c1 := block_cell (i := 1) hblk rfl
          replace c2 := block_cell (i := 2) hblk rfl
          replace c3 := block_cell (i := 3) hblk rfl
          replace c4 := block_cell (i := 4) hblk rfl
          replace c5 := block_cell (i := 5) hblk rfl
          have HAU := Lib.hid hau
          clear hblk h3 hau hb3 hsm
          unfold RVal at HAU
          go_wp2_with fail
          refine HAU.out.mono ?_
          rintro e w4 ⟨n, s0, cv', nv', mv', CV, AV, cls, nxs, rvs, mts, cans, als, rfl, hs0, hcl, hc5, hT, hC, hA, hok, hb4⟩
          have hfit := fit_of hT hcl hc5
          obtain ⟨co1, cc1, rfl⟩ := hT.cls.form
          obtain ⟨no1, nc1, rfl⟩ := hT.nxt.form
          obtain ⟨mo1, mc1, rfl⟩ := hT.mts.form
          obtain ⟨ao1, ac1, rfl⟩ := hC.form
          obtain ⟨bo1, bc1, rfl⟩ := hA.form
          have htc := fun (w5 : World) (hb : Below w4.heap.size w4 w5) => tc_any w5 (hT.below hb) hfit hs0 (hC.below hb) (hA.below hb) hok key hk
          have hac := fun (w5 : World) (hb : Below w4.heap.size w4 w5) => accepts_any (ao := ao1) (al := n) (ac := ac1) (bo := bo1) (bl := n) (bc := bc1) w5 (hT.below hb) hfit hs0 key hk
          generalize mts[runT cls nxs s0 (bytesN key)]?.getD false = R at htc hac
          unfold RVal at htc hac
          have HTC := Lib.hid htc
          have HAC := Lib.hid hac
          have HB4 := Lib.hid hb4
          clear htc hac hT hC hA hok hb4 hfit hs0 hcl hc5 c0 c1 c2 c3 c4 c5
          have hs4 := HB4.out.size
          go_wp2_with fail
          obtain ⟨W5, hW5⟩ : ∃ W5, W5 = w4.alloc (.cells #[.int .i64 (s0 : Int), .slice co1 256 cc1, .slice no1 n nc1, .slice mo1 n mc1, .slice ao1 n ac1, .slice bo1 n bc1] 36) := ⟨_, rfl⟩
          rw [← hW5]
          have g0 : W5.heap[w4.heap.size]? = some (.cells #[.int .i64 (s0 : Int), .slice co1 256 cc1, .slice no1 n nc1, .slice mo1 n mc1, .slice ao1 n ac1, .slice bo1 n bc1] 36 (0, 0)) := by rw [hW5]; exact heap_alloc_new w4 _
          have g1 : Below w4.heap.size w4 W5 := by rw [hW5]; exact (Below.refl _ _).alloc (Nat.le_refl _) _
          have hs5 := g1.size
          have d0 := cell_regrown (block_cell (i := 0) g0 rfl)
          have d1 := cell_regrown (block_cell (i := 1) g0 rfl)
          have d2 := cell_regrown (block_cell (i := 2) g0 rfl)
          have d3 := cell_regrown (block_cell (i := 3) g0 rfl)
          have d4 := cell_regrown (block_cell (i := 4) g0 rfl)
          have d5 := cell_regrown (block_cell (i := 5) g0 rfl)
          have G1 := Lib.hid g1
          clear g0 g1 hW5
          refine wp_region_quiet_below (by kernel_rfl) (by kernel_rfl) ?_
          repeat (first | go_big_quiet_step ((first | exact Calls.regrown_of (HTC.out _ (G1.out.trans ((below_regrown _ _ _).mono hs5))) | exact Calls.regrown_of (HAC.out _ (G1.out.trans ((below_regrown _ _ _).mono hs5))))) | quiet_step ((first | exact Calls.regrown_of (HTC.out _ (G1.out.trans ((below_regrown _ _ _).mono hs5))) | exact Calls.regrown_of (HAC.out _ (G1.out.trans ((below_regrown _ _ _).mono hs5))))))
          refine wpQuiet_nil ?_
          intro _ hw'
          obtain ⟨⟨dq, osq⟩, hw''⟩ := hw'
          subst hw''
          have HB6 := Lib.hid (G1.out.trans ((below_regrown W5 dq osq).mono hs5))
          go_wp2_with fail
          go_ret
          refine ⟨?_, (((HB1.out.trans (HB2.out.mono hsz)).trans (HB3.out.mono (Nat.le_trans hsz HB2.out.size))).trans (HB4.out.mono (Nat.le_trans (Nat.le_trans hsz HB2.out.size) hs3))).trans (HB6.out.mono (Nat.le_trans (Nat.le_trans (Nat.le_trans hsz HB2.out.size) hs3) hs4))⟩
          simp
        · have q2 : decide ((1048576 : Int) < (key.size : Int)) = true := by rw [decide_eq_true_eq]; omega
          clear hb3 hsm
          go_wp2_with fail
          go_ret
          exact ⟨rfl, (HB1.out.trans (HB2.out.mono hsz)).trans (HB3.out.mono (Nat.le_trans hsz HB2.out.size))⟩
      · rw [Bool.eq_false_iff.2 hsm]
        clear hb3 hsm
        go_wp2_with fail
        go_ret
        exact ⟨rfl, (HB1.out.trans (HB2.out.mono hsz)).trans (HB3.out.mono (Nat.le_trans hsz HB2.out.size))⟩
    · have q1 : decide ((2147483647 : Int) < (key.size : Int)) = true := by rw [decide_eq_true_eq]; omega
      go_wp2_with fail
      go_ret
      exact ⟨rfl, HB1.out.trans (HB2.out.mono hsz)⟩
end Go.Proofs.Ytanimdajohpggaa.Table
