/- FnDedupe: the law. -/
import Derived.Test.YtfaedkkjpleobaaDoorRun0
import Derived.Test.YtfaedkkjpleobaaDoorAlpha3
namespace Go.Proofs.YtfaedkkjpleobaaDoor.Utf0
open Go.ChangeShapes Go.WideShapes Go.ChangeAt Go.RowKit Go.Trav Go.Utf
set_option linter.unusedVariables false
set_option maxRecDepth 100000
theorem zz_any (s : ByteArray) (qs : List Int) (w : World) (h : IsText (bytesL s) qs) (hs : s.size ≤ 1000000) (hT : Tabs w) :
    Calls Tryd.prog 9 #[.string s] w fun e w' => ∃ r : ByteArray, e = .returned (.string r) ∧ IsText (bytesL r) (once qs) ∧ Below w.heap.size w w' := by
  have hd := dedupe_any s qs w h hs hT
  clear h hs hT
  go_enter Tryd.func9, Tryd.ntmps9
  go_wp2_with fail
  refine hd.mono ?_
  rintro e w' ⟨r, rfl, h1, h2⟩
  go_wp2_with fail
  go_ret
  exact ⟨r, rfl, h1, h2⟩
theorem impl_any (s : ByteArray) (qs : List Int) (w : World) (h : IsText (bytesL s) qs) (hs : s.size ≤ 1000000) (hT : Tabs w) :
    Calls Tryd.prog 5 #[.string s] w fun e w' => ∃ r : ByteArray, e = .returned (.string r) ∧ IsText (bytesL r) (once qs) ∧ Below w.heap.size w w' := by
  have hd := zz_any s qs w h hs hT
  clear h hs hT
  go_enter Tryd.func5, Tryd.ntmps5
  go_wp2_with fail
  refine hd.mono ?_
  rintro e w' ⟨r, rfl, h1, h2⟩
  go_wp2_with fail
  go_ret
  exact ⟨r, rfl, h1, h2⟩
set_option maxHeartbeats 2000000 in
theorem law_any (s : ByteArray) (w : World) (hT : Tabs w) : Calls Tryd.prog 3 #[.string s] w fun e w' => e = .returned (.bool true) ∧ Below w.heap.size w w' := by
  by_cases hs : s.size ≤ 2147483647
  · have hl := letters_any s w hs
    have q1 : decide ((2147483647 : Int) < (s.size : Int)) = false := by rw [decide_eq_false_iff_not]; omega
    have q2 : ¬ (2147483647 : Int) < (s.size : Int) := by omega
    have HT := Lib.hid hT
    clear hs hT
    go_enter Tryd.func3, Tryd.ntmps3
    go_wp2_with fail
    refine hl.mono ?_
    rintro e w1 ⟨h1, hb1⟩
    unfold LettersOut at h1
    rcases h1 with ⟨ov, qs, rfl, h2, h3⟩ | ⟨rfl, _⟩
    · obtain ⟨ao, cap, rfl⟩ := h2.form
      by_cases hq : qs.length ≤ 300
      · have q3 : decide ((300 : Int) < (qs.length : Int)) = false := by rw [decide_eq_false_iff_not]; omega
        have q4 : ¬ (300 : Int) < (qs.length : Int) := by omega
        have H2 := Lib.hid h2
        have H3 := Lib.hid h3
        have HB1 := Lib.hid hb1
        have hsz : s.size ≤ 1000000 := by
          have h1 := text_size qs
          rw [← h3.2, bytesL_size] at h1
          omega
        have hD := impl_any s qs w1 h3 hsz (Tabs.below HT.out hb1)
        clear hl h2 h3 hb1 hsz
        go_wp2_with fail
        refine hD.mono ?_
        rintro e w2 ⟨r, rfl, hr, hb2⟩
        have hrz : r.size ≤ 2147483647 := by
          have h1 := text_size (once qs)
          rw [← hr.2, bytesL_size] at h1
          have h2 := once_len qs qs.length
          rw [List.take_of_length_le (Nat.le_refl _)] at h2
          omega
        have hl2 := letters_any r w2 hrz
        have HR := Lib.hid hr
        have HB2 := Lib.hid hb2
        clear hr hrz hb2 hD
        go_wp2_with fail
        refine hl2.mono ?_
        rintro e w3 ⟨h4, hb3⟩
        unfold LettersOut at h4
        rcases h4 with ⟨bv, qs', rfl, h5, h6⟩ | ⟨rfl, h5⟩
        · obtain rfl := text_one HR.out h6
          obtain ⟨bo, bcap, rfl⟩ := h5.form
          have HB3 : Hid (Below w.heap.size w w3) := Lib.hid ((HB1.out.trans (HB2.out.mono HB1.out.size)).trans (hb3.mono (Nat.le_trans HB1.out.size HB2.out.size)))
          have hra := runes_any _ qs.length qs w3 ((H2.out.below HB2.out).below hb3) H3.out.1 (by omega)
          have hon := once_len qs qs.length
          rw [List.take_of_length_le (Nat.le_refl _)] at hon
          have H5 := Lib.hid h5
          have hoL : Hid (∀ q ∈ once qs, Let q) := Lib.hid (fun q hq => H3.out.1 q ((once_mem qs q).1 hq))
          have HON := Lib.hid hon
          clear hl2 h5 h6 hb3 hon
          go_wp2_with fail
          refine hra.mono ?_
          rintro e w4 ⟨av, rfl, ha, hb4⟩
          have hrb := runes_any _ (once qs).length (once qs) w4 (H5.out.below hb4) hoL.out (by have := HON.out; omega)
          have HA := Lib.hid ha
          have HB4 := Lib.hid hb4
          clear hra ha hb4
          go_wp2_with fail
          refine hrb.mono ?_
          rintro e w5 ⟨cv, rfl, hc, hb5⟩
          have HA2 := Lib.hid (HA.out.below hb5)
          have HC := Lib.hid hc
          have HBE : Hid (Below w.heap.size w w5) := Lib.hid ((HB3.out.trans (HB4.out.mono HB3.out.size)).trans (hb5.mono (Nat.le_trans HB3.out.size HB4.out.size)))
          obtain ⟨ao1, cap1, rfl⟩ := HA.out.form
          obtain ⟨co1, ccap1, rfl⟩ := hc.form
          clear hrb hc hb5 HA HB4 H5
          go_wp2_with fail
          go_loopw [9] (fun iv wr => ∃ i : Nat, iv = .int .i64 i ∧ i ≤ qs.length ∧ w5 = wr) (fun iv _ => qs.length - (intOf iv).toNat)
          case atStart => exact ⟨0, rfl, Nat.zero_le _, rfl⟩
          case round =>
            obtain ⟨i, rfl, hi, rfl⟩ := hrel
            by_cases hlt : i < qs.length
            · obtain ⟨b, off, _, x, hx, ex, cx⟩ := Reads.one rV HA2.out hlt
              cases hx
              unfold rV at cx
              have hct := count_any _ (once qs).length (once qs) x w5 HC.out (by have := HON.out; omega)
              rw [cnt_one (once_nodup qs) ((once_mem qs x).2 (List.mem_of_getElem? ex))] at hct
              clear ex
              go_wp2_with fail
              refine hct.mono ?_
              rintro e w' ⟨rfl, rfl⟩
              clear hct
              go_wp2_with fail
              go_roundw
              case rel => exact ⟨i + 1, by go_num, by omega, by first | rfl | trivial⟩
              case measure => simp [intOf]; omega
            · obtain rfl : i = qs.length := by omega
              clear hi hlt
              have hon2 := HON.out
              go_wp2_with fail
              go_loopw [10] (fun iv wr => ∃ i : Nat, iv = .int .i64 i ∧ i ≤ (once qs).length ∧ w5 = wr) (fun iv _ => (once qs).length - (intOf iv).toNat)
              case atStart => exact ⟨0, rfl, Nat.zero_le _, rfl⟩
              case round =>
                obtain ⟨i, rfl, hi, rfl⟩ := hrel
                by_cases hlt : i < (once qs).length
                · obtain ⟨b, off, _, x, hx, ex, cx⟩ := Reads.one rV HC.out hlt
                  cases hx
                  unfold rV at cx
                  have hct := count_any _ qs.length qs x w5 HA2.out (by omega)
                  have hp := cnt_pos ((once_mem qs x).1 (List.mem_of_getElem? ex))
                  have q7 : (((cnt qs x : Nat) : Int) == 0) = false := beq_eq_false_iff_ne.2 (by omega)
                  generalize cnt qs x = z at *
                  clear ex hp
                  go_wp2_with fail
                  refine hct.mono ?_
                  rintro e w' ⟨rfl, rfl⟩
                  clear hct
                  go_wp2_with fail
                  go_roundw
                  case rel => exact ⟨i + 1, by go_num, by omega, by first | rfl | trivial⟩
                  case measure => simp [intOf]; omega
                · go_wp2_with fail
                  go_ret
                  exact ⟨rfl, HBE.out⟩
        · exact absurd HR.out (h5 _)
      · have q3 : decide ((300 : Int) < (qs.length : Int)) = true := by rw [decide_eq_true_eq]; omega
        have q4 : (300 : Int) < (qs.length : Int) := by omega
        have HB1 := Lib.hid hb1
        clear hl h2 h3 hb1
        go_wp2_with fail
        go_ret
        exact ⟨rfl, HB1.out⟩
    · have HB1 := Lib.hid hb1
      clear hl hb1
      go_wp2_with fail
      go_ret
      exact ⟨rfl, HB1.out⟩
  · have q1 : decide ((2147483647 : Int) < (s.size : Int)) = true := by rw [decide_eq_true_eq]; omega
    have q2 : (2147483647 : Int) < (s.size : Int) := by omega
    clear hs hT
    go_enter Tryd.func3, Tryd.ntmps3
    go_wp2_with fail
    go_ret
    exact ⟨rfl, Below.refl _ _⟩
end Go.Proofs.YtfaedkkjpleobaaDoor.Utf0
