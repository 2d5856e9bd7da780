/- FnLetters: the law. -/
import Derived.Test.YtanimdajohpggaaDoorAlpha8
import Derived.Test.YtanimdajohpggaaDoorUtf3n
import Derived.BigQuiet
namespace Go.Proofs.YtanimdajohpggaaDoor.Utf0
open Go.ChangeShapes Go.WideShapes Go.ChangeAt Go.RowKit Go.Trav Go.Utf
set_option linter.unusedVariables false
set_option maxRecDepth 100000
theorem letters_cnt {qs L : List Int} (h : L.Perm (once qs)) {x : Int} (hx : x ∈ qs) : cnt L x = 1 := by
  refine cnt_one (h.nodup_iff.2 (once_nodup qs)) ?_
  rw [h.mem_iff, once_mem]
  exact hx
theorem letters_rise {qs L : List Int} (h : L.Perm (once qs)) (hs : L.Pairwise (· ≤ ·)) {i : Nat} {a b : Int} (ha : L[i]? = some a) (hb : L[i + 1]? = some b) : a < b := by
  have hn : L.Nodup := h.nodup_iff.2 (once_nodup qs)
  obtain ⟨la, rfl⟩ := List.getElem?_eq_some_iff.1 ha
  obtain ⟨lb, rfl⟩ := List.getElem?_eq_some_iff.1 hb
  have h1 := List.pairwise_iff_getElem.1 hs i (i + 1) la lb (by omega)
  have h2 := List.pairwise_iff_getElem.1 hn i (i + 1) la lb (by omega)
  omega
theorem let_wrap64 {x : Int} (h : Let x) : IntKind.i64.wrap x = x := by
  unfold Let at h
  exact IntWalk.i64_in _ (by omega)
theorem u32_and1 (n : Nat) (h : n < 4294967296) : bits .and .u32 (n : Int) 1 = ((n % 2 : Nat) : Int) := by
  show IntKind.u32.wrap ((BitVec.ofInt 32 (n : Int) &&& BitVec.ofInt 32 1).toNat : Int) = _
  rw [BitVec.toNat_and, ofInt_u32 n h, show (BitVec.ofInt 32 1).toNat = 1 by decide, Nat.and_one_is_mod]
  exact wrap_u32_in (by omega) (by omega)
theorem bit_word (W r : Nat) (h : W < 4294967296) : (bits .and .u32 ((W : Int) / 2 ^ r) 1 == 1) = W.testBit r := by
  have e : ((W : Int) / 2 ^ r) = ((W / 2 ^ r : Nat) : Int) := by
    rw [Int.natCast_ediv, Int.natCast_pow]
    rfl
  rw [e, u32_and1 _ (Nat.lt_of_le_of_lt (Nat.div_le_self _ _) h), Nat.testBit_eq_decide_div_mod_eq]
  by_cases hb : W / 2 ^ r % 2 = 1
  · simp [hb]
  · have : W / 2 ^ r % 2 = 0 := by omega
    simp [this]
theorem mem_take_next (qs : List Int) (x : Int) (k : Nat) : decide (x ∈ qs.take (k + 1)) = (decide (x ∈ qs.take k) || decide (qs[k]? = some x)) := by
  rw [List.take_add_one, Bool.eq_iff_iff]
  simp only [decide_eq_true_eq, List.mem_append, Bool.or_eq_true]
  cases qs[k]? with
  | none => simp
  | some y => simp [eq_comm]
set_option maxHeartbeats 8000000 in
theorem law_any (s : ByteArray) (w : World) (hT : Tabs w) : Calls Tryd.prog 9 #[.string s] w fun e w' => e = .returned (.bool true) ∧ Below w.heap.size w w' := by
  by_cases hs : s.size ≤ 2147483647
  · have hl := letters_any s w hs
    have q1 : decide ((2147483647 : Int) < (s.size : Int)) = false := by rw [decide_eq_false_iff_not]; omega
    have q2 : ¬ (2147483647 : Int) < (s.size : Int) := by omega
    have HT := Lib.hid hT
    clear hs hT
    go_enter Tryd.func9, Tryd.ntmps9
    go_wp2_with fail
    refine hl.mono ?_
    rintro e w1 ⟨h1, hb1⟩
    unfold LettersOut at h1
    rcases h1 with ⟨ov, qs, rfl, h2, h3⟩ | ⟨rfl, _⟩
    · obtain ⟨ao, cap, rfl⟩ := h2.form
      by_cases hq : qs.length ≤ 100
      · have q3 : decide ((100 : Int) < (qs.length : Int)) = false := by rw [decide_eq_false_iff_not]; omega
        have q4 : ¬ (100 : Int) < (qs.length : Int) := by omega
        have hnr := narrow_any s _ qs.length _ w1 h2
        by_cases hN : Narrow qs.length s.size
        · have hN2 : decide (qs.length = s.size ∨ s.size ≤ 24) = true := decide_eq_true hN
          rw [hN2] at hnr
          have H2 := Lib.hid h2
          have H3 := Lib.hid h3
          have HB1 := Lib.hid hb1
          have hsz : s.size ≤ 1000000 := by
            have h1 := text_size qs
            rw [← h3.2, bytesL_size] at h1
            omega
          have hD := letters_impl s qs w1 h3 hsz hN (Tabs.below HT.out hb1)
          clear hl h2 h3 hb1 hsz hN hN2
          go_wp2_with fail
          refine hnr.mono ?_
          rintro e w' ⟨rfl, rfl⟩
          clear hnr
          go_wp2_with fail
          refine hD.mono ?_
          rintro e w2 ⟨L, lv, pv, pvs, rfl, hP, hS, ⟨g1, g2, g3, g4⟩, hb2⟩
          obtain ⟨lo, lc, rfl⟩ := g1.form
          obtain ⟨po, pc, rfl⟩ := g2.form
          have HP := Lib.hid hP
          have HS := Lib.hid hS
          have G1 := Lib.hid g1
          have G2 := Lib.hid g2
          have G3 := Lib.hid g3
          have G4 := Lib.hid g4
          have HQ := Lib.hid (H2.out.below hb2)
          have HBF : Hid (Below w.heap.size w w2) := Lib.hid (HB1.out.trans (hb2.mono HB1.out.size))
          have hpn : pvs.length ≤ 100 := by
            have h1 := hP.length_eq
            have h2 := once_len qs qs.length
            rw [List.take_of_length_le (Nat.le_refl _)] at h2
            omega
          clear hP hS g1 g2 g3 g4 hb2 hD HB1 H2
          go_wp2_with fail
          go_loopw [8] (fun iv wr => ∃ i : Nat, iv = .int .i64 i ∧ i ≤ qs.length ∧ w2 = wr) (fun iv _ => qs.length - (intOf iv).toNat)
          case atStart => exact ⟨0, rfl, Nat.zero_le _, rfl⟩
          case round =>
            obtain ⟨i, rfl, hi, rfl⟩ := hrel
            by_cases hlt : i < qs.length
            · obtain ⟨b, off, _, x, hx, ex, cx⟩ := Reads.one iV HQ.out hlt
              cases hx
              unfold iV at cx
              have hxm := List.mem_of_getElem? ex
              have hw := let_wrap (H3.out.1 x hxm)
              have hct := count_any _ pvs.length L x w2 G1.out (by omega)
              rw [letters_cnt HP.out hxm] at hct
              clear ex hxm
              go_wp2_with fail
              refine hct.mono ?_
              rintro e w' ⟨rfl, rfl⟩
              clear hct
              go_wp2_with fail
              go_roundw
              case rel => exact ⟨i + 1, by go_num, by omega, by first | rfl | trivial⟩
              case measure => simp [intOf]; omega
            · obtain rfl : i = qs.length := by omega
              clear hi hlt
              go_wp2_with fail
              go_loopw [9] (fun iv wr => ∃ i : Nat, iv = .int .i64 i ∧ i ≤ pvs.length ∧ Hid (Below w2.heap.size w2 wr)) (fun iv _ => pvs.length - (intOf iv).toNat)
              case atStart => exact ⟨0, rfl, Nat.zero_le _, Lib.hid (Below.refl _ _)⟩
              case round =>
                obtain ⟨i, rfl, hi, HW⟩ := hrel
                rename World => wr
                by_cases hlt : i < pvs.length
                · obtain ⟨b, off, _, x, hx, ex, cx2⟩ := Reads.one rV G1.out hlt
                  cases hx
                  unfold rV at cx2
                  obtain ⟨b2, off2, _, f, hx, ef, cf2⟩ := Reads.one id (l := pvs) (by simpa using G2.out) hlt
                  cases hx
                  have cx := (Mod.of_below (F := fun _ => False) HW.out).cell cx2 (fun h => h)
                  have cf := (Mod.of_below (F := fun _ => False) HW.out).cell cf2 (fun h => h)
                  obtain ⟨m, ⟨hm, hmb⟩, hRf⟩ := G4.out i f x ef ex
                  obtain ⟨fa, fc, rfl⟩ := hRf.form
                  have EX := Lib.hid ex
                  have HRF := Lib.hid hRf
                  simp only [id] at cf cf2
                  have CX := Lib.hid cx2
                  have CF := Lib.hid cf2
                  clear cx2 cf2
                  have cx' := cell_regrown cx
                  have cf' := cell_regrown cf
                  have hm1 : decide ((32 : Int) * ((m : Int) + 1) < (qs.length : Int)) = false := by rw [decide_eq_false_iff_not]; omega
                  have hm2 : decide (32 * (m + 1) < qs.length) = false := by rw [decide_eq_false_iff_not]; omega
                  have hwm : IntKind.i64.wrap ((32 : Int) * ((m : Int) + 1)) = 32 * ((m : Int) + 1) := IntWalk.i64_in _ (by omega)
                  have hI1 : (0 : Int) ≤ (i : Int) := by omega
                  have hI2 : (i : Int) < (pvs.length : Int) := by omega
                  clear ex hRf ef
                  by_cases h0 : i = 0
                  case' pos =>
                    have hg0 : decide ((0 : Int) < (i : Int)) = false := by rw [decide_eq_false_iff_not]; omega
                    have hg1 : decide (0 < i) = false := by rw [decide_eq_false_iff_not]; omega
                    clear h0
                    go_wp2_with fail
                    refine wp_region_quiet_below (by kernel_rfl) (by kernel_rfl) ?_
                    repeat (first | go_big_quiet_step (fail) | quiet_step (fail))
                    refine wpQuiet_nil ?_
                    intro _ hw'
                    obtain ⟨⟨dq, osq⟩, hw''⟩ := hw'
                    subst hw''
                    go_wp2_with fail
                  case' neg =>
                    have hg0 : decide ((0 : Int) < (i : Int)) = true := by rw [decide_eq_true_eq]; omega
                    have hg1 : decide (0 < i) = true := by rw [decide_eq_true_eq]; omega
                    obtain ⟨j, hj⟩ : ∃ j, i = j + 1 := ⟨i - 1, by omega⟩
                    obtain ⟨b3, off3, _, y, hx, ey, cy⟩ := Reads.one rV (G1.out.below HW.out) (k := j) (by omega)
                    cases hx
                    unfold rV at cy
                    have cy' := cell_regrown cy
                    have hyx := letters_rise HP.out HS.out ey (by rw [← hj]; exact EX.out)
                    have hg2 : decide (x ≤ y) = false := by rw [decide_eq_false_iff_not]; omega
                    have hwj : IntKind.i64.wrap ((i : Int) - 1) = (j : Int) := by rw [hj]; exact (congrArg IntKind.i64.wrap (by omega)).trans (IntWalk.i64_in _ (by omega))
                    have hJ1 : (0 : Int) ≤ (j : Int) := by omega
                    have hJ2 : (j : Int) < (pvs.length : Int) := by omega
                    clear h0 hj ey hyx
                    go_wp2_with fail
                    refine wp_region_quiet_below (by kernel_rfl) (by kernel_rfl) ?_
                    repeat (first | go_big_quiet_step (fail) | quiet_step (fail))
                    refine wpQuiet_nil ?_
                    intro _ hw'
                    obtain ⟨⟨dq, osq⟩, hw''⟩ := hw'
                    subst hw''
                    go_wp2_with fail
                  all_goals
                    have hb5 : Below wr.heap.size wr (Go.Sort.grow (redrawn wr dq) osq) := below_regrown _ _ _
                    have HW5 := Lib.hid (HW.out.trans (hb5.mono HW.out.size))
                    clear hb5 cx cf cx' cf' hg0 hg1 hm1 hm2
                    generalize Go.Sort.grow (redrawn wr dq) osq = w5 at *
                    go_loopw [10, 11] (fun sv kv wq => ∃ (k : Nat) (b0 : Bool), sv = .bool b0 ∧ kv = .int .i64 k ∧ k ≤ 32 * (m + 1) ∧ Hid (b0 = decide (x ∈ qs.take k)) ∧ Hid (Below w2.heap.size w2 wq)) (fun _ kv _ => 32 * (m + 1) - (intOf kv).toNat)
                    case atStart => exact ⟨0, false, rfl, rfl, Nat.zero_le _, Lib.hid (by simp), HW5⟩
                    case round =>
                      obtain ⟨k, b0, rfl, rfl, hk, HB0, HWQ⟩ := hrel
                      rename World => wq
                      have cx := (Mod.of_below (F := fun _ => False) HWQ.out).cell CX.out (fun h => h)
                      have cf := (Mod.of_below (F := fun _ => False) HWQ.out).cell CF.out (fun h => h)
                      by_cases hkl : k < 32 * (m + 1)
                      · obtain ⟨d, r, hdr, hr32⟩ : ∃ d r, k = 32 * d + r ∧ r < 32 := ⟨k / 32, k % 32, by omega, Nat.mod_lt _ (by omega)⟩
                        obtain ⟨b4, off4, _, wd, hx, ewd, cw⟩ := Reads.one uV (HRF.out.below HWQ.out) (k := d) (by omega)
                        cases hx
                        rw [wordsTo_at (by omega)] at ewd
                        obtain ⟨W, hW⟩ : ∃ W, W = bitsOf x ((qs.drop (32 * d)).take 32) := ⟨_, rfl⟩
                        rw [← hW] at ewd
                        obtain rfl := Option.some.inj ewd
                        have hWt : W.testBit r = decide (qs[k]? = some x) := by rw [hW, word_bit _ _ _ _ hr32, ← hdr]
                        have hWl : W < 4294967296 := by rw [hW]; exact word_lt _ _ _
                        unfold uV at cw
                        have hq5 : (k : Int).tdiv 32 = (d : Int) := by rw [Int.tdiv_eq_ediv_of_nonneg (by omega)]; omega
                        have hq6 : (k : Int).tmod 32 = (r : Int) := by rw [Int.tmod_eq_emod_of_nonneg (by omega)]; omega
                        have hD1 : (0 : Int) ≤ (d : Int) := by omega
                        have hD2 : (d : Int) < (m : Int) + 1 := by omega
                        have HWT := Lib.hid hWt
                        have HDR := Lib.hid hdr
                        clear ewd hW hWt hdr
                        obtain ⟨bt, hbt⟩ : ∃ bt, bt = decide (qs[k]? = some x) := ⟨_, rfl⟩
                        have hbw : (bits .and .u32 ((W : Int) / 2 ^ r) 1 == 1) = bt := by rw [bit_word W r hWl, HWT.out, hbt]
                        have hmt := mem_take_next qs x k
                        rw [← HB0.out, ← hbt] at hmt
                        have HMT := Lib.hid hmt
                        have HBT := Lib.hid hbt
                        clear hmt hbt
                        go_wp2_with fail
                        have cx' := cell_regrown cx
                        clear hbw hWl HWT cw hq5 hq6 hD1 hD2 cf
                        by_cases hkq : k < qs.length
                        case' neg =>
                          have hg5 : decide ((k : Int) < (qs.length : Int)) = false := by rw [decide_eq_false_iff_not]; omega
                          have hg6 : decide (k < qs.length) = false := by rw [decide_eq_false_iff_not]; omega
                          have hb9 : bt = false := by rw [HBT.out, List.getElem?_eq_none (by omega)]; rfl
                          subst hb9
                        case' pos =>
                          obtain ⟨b6, off6, _, q, hx, eq6, cq⟩ := Reads.one iV (HQ.out.below HWQ.out) hkq
                          cases hx
                          unfold iV at cq
                          have cq' := cell_regrown cq
                          have hlx := let_wrap64 (H3.out.1 q (List.mem_of_getElem? eq6))
                          have hK1 : (0 : Int) ≤ (k : Int) := by omega
                          have hK2 : (k : Int) < (qs.length : Int) := by omega
                          have hg5 : decide ((k : Int) < (qs.length : Int)) = true := by rw [decide_eq_true_eq]; omega
                          have hg6 : decide (k < qs.length) = true := by rw [decide_eq_true_eq]; omega
                          have hb9 : bt = (q == x) := by rw [HBT.out, eq6, Bool.eq_iff_iff]; simp
                          have hxw := let_wrap64 (H3.out.1 x (by rw [← once_mem, ← HP.out.mem_iff]; exact List.mem_of_getElem? EX.out))
                          clear eq6
                          subst hb9
                          by_cases hqx : (q == x) = true
                          case' pos => rw [hqx] at HMT ⊢
                          case' neg =>
                            have hqx := Bool.eq_false_iff.2 hqx
                            rw [hqx] at HMT ⊢
                        all_goals
                          refine wp_region_quiet_below (by kernel_rfl) (by kernel_rfl) ?_
                          repeat (first | go_big_quiet_step (fail) | quiet_step (fail))
                          refine wpQuiet_nil ?_
                          intro _ hw'
                          obtain ⟨⟨dq, osq⟩, hw''⟩ := hw'
                          subst hw''
                          have hb7 : Below wq.heap.size wq (Go.Sort.grow (redrawn wq dq) osq) := below_regrown _ _ _
                          have HW7 := Lib.hid (HWQ.out.trans (hb7.mono HWQ.out.size))
                          clear hb7 cx' cx
                          generalize Go.Sort.grow (redrawn wq dq) osq = w7 at *
                          cases b0
                          all_goals
                            go_wp2_with fail
                            first
                              | (refine ⟨⟨k + 1, _, rfl, by go_num, by omega, Lib.hid (by rw [HMT.out]; rfl), HW7⟩, ?_⟩
                                 simp [intOf]
                                 omega)
                              | (go_roundw
                                 case rel => exact ⟨k + 1, _, rfl, by go_num, by omega, Lib.hid (by rw [HMT.out]; rfl), HW7⟩
                                 case measure => simp [intOf]; omega)
                      · obtain rfl : k = 32 * (m + 1) := by omega
                        have hxq : x ∈ qs := by rw [← once_mem, ← HP.out.mem_iff]; exact List.mem_of_getElem? EX.out
                        have hb8 : b0 = true := by rw [HB0.out, List.take_of_length_le (by omega)]; exact decide_eq_true hxq
                        subst hb8
                        go_wp2_with fail
                        first
                          | (refine ⟨⟨i + 1, by go_num, by omega, HWQ⟩, ?_⟩
                             simp [intOf]
                             omega)
                          | (go_roundw
                             case rel => exact ⟨i + 1, by go_num, by omega, HWQ⟩
                             case measure => simp [intOf]; omega)
                · go_wp2_with fail
                  go_ret
                  exact ⟨rfl, HBF.out.trans (HW.out.mono HBF.out.size)⟩
        · have hN2 : decide (qs.length = s.size ∨ s.size ≤ 24) = false := decide_eq_false hN
          rw [hN2] at hnr
          have HB1 := Lib.hid hb1
          clear hl h2 h3 hb1 hN hN2
          go_wp2_with fail
          refine hnr.mono ?_
          rintro e w' ⟨rfl, rfl⟩
          clear hnr
          go_wp2_with fail
          go_ret
          exact ⟨rfl, HB1.out⟩
      · have q3 : decide ((100 : Int) < (qs.length : Int)) = true := by rw [decide_eq_true_eq]; omega
        have q4 : (100 : Int) < (qs.length : Int) := by omega
        have HB1 := Lib.hid hb1
        clear hl h2 h3 hb1
        go_wp2_with fail
        go_ret
        exact ⟨rfl, HB1.out⟩
    · have HB1 := Lib.hid hb1
      clear hl hb1
      go_wp2_with fail
      go_ret
      exact ⟨rfl, HB1.out⟩
  · have q1 : decide ((2147483647 : Int) < (s.size : Int)) = true := by rw [decide_eq_true_eq]; omega
    have q2 : (2147483647 : Int) < (s.size : Int) := by omega
    clear hs hT
    go_enter Tryd.func9, Tryd.ntmps9
    go_wp2_with fail
    go_ret
    exact ⟨rfl, Below.refl _ _⟩
end Go.Proofs.YtanimdajohpggaaDoor.Utf0
