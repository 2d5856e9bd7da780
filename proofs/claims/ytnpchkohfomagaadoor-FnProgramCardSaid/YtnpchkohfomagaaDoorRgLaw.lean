/- FnProgram: the law. -/
import Derived.Test.YtnpchkohfomagaaDoorRgPath
import Derived.Test.YtnpchkohfomagaaDoorRgSRun
import Derived.Test.YtnpchkohfomagaaDoorRgProg
namespace Go.Proofs.YtnpchkohfomagaaDoor.Rgw
open Go.ChangeShapes Go.WideShapes Go.ChangeAt Go.RowKit Go.Trav Go.Rg
set_option linter.unusedVariables false
set_option linter.unusedSimpArgs false
set_option maxRecDepth 100000
theorem few_any (s : ByteArray) (w : World) (hs : s.size ≤ 4294967296) :
    Calls Tryd.prog 10 #[.string s, .int .i64 100] w fun e w' => (∃ r : ByteArray, e = .returned (.string r) ∧ r.size ≤ 100) ∧ w = w' := by
  by_cases h : s.size ≤ 100
  · go_enter Tryd.func10, Tryd.ntmps10
    go_wp2_with fail
    go_ret
    exact ⟨⟨_, rfl, by simp; omega⟩, rfl⟩
  · go_enter Tryd.func10, Tryd.ntmps10
    go_wp2_with fail
    go_ret
    exact ⟨⟨_, rfl, by simp; omega⟩, rfl⟩
set_option maxHeartbeats 8000000 in
theorem law_any (raw : List Raw) (v : Value) (s : ByteArray) (a0 a1 a2 a3 a4 : Addr) (w : World) (h : Reads w v raw.length 6 (raw.flatMap rawC)) (hE : Errs w a0 a1 a2 a3 a4) :
    Calls Tryd.prog 3 #[v, .string s] w fun e w' => e = .returned (.bool true) ∧ Below w.heap.size w w' := by
  obtain ⟨ao, cap, rfl⟩ := h.form
  have hbd := h.bound
  have H := Lib.hid h
  have HE := Lib.hid hE
  clear h hE
  go_enter Tryd.func3, Tryd.ntmps3
  by_cases h1 : raw.length ≤ 2147483647
  · by_cases h2 : s.size ≤ 2147483647
    · by_cases h3 : raw.length ≤ 65536
      · have hsl : s.size ≤ 4294967296 := by omega
        go_wp2_with fail
        refine (program_any raw _ w H.out h3).mono ?_
        rintro e w1 ⟨pv, rfl, hown, hb1⟩
        obtain ⟨b, o, c, rfl, _⟩ := in_slice (reads_of_owns hown) (prg_pos raw)
        have HO := Lib.hid (reads_of_owns hown)
        have HB := Lib.hid hb1
        clear hown hb1
        go_wp2_with fail
        refine (few_any s _ hsl).mono ?_
        rintro e w2 ⟨⟨r, rfl, hr⟩, rfl⟩
        have hl30 : (prg raw).length ≤ 30 := by rw [prg_len]; exact (size30_le raw).2
        have HPP := Lib.hid (pp_any (prg raw) _ r a0 a1 a2 a3 a4 w1 (prg_sound raw) (prg_pos raw) (by omega) HO.out (by omega) (HE.out.mod HB.out))
        go_wp2_with fail
        refine HPP.out.mono ?_
        rintro e w3 ⟨hb3, ⟨v1, v2, v3, rfl, hr1, hr2, hr3⟩ | ⟨rfl, ht⟩⟩
        · have hb3' : Below w.heap.size w w3 := HB.out.trans (hb3.mono HB.out.size)
          have HO3 := Lib.hid (HO.out.below hb3)
          obtain ⟨m1, c1, rfl⟩ := hr1.form
          obtain ⟨m2, c2, rfl⟩ := hr2.form
          obtain ⟨m3, c3, rfl⟩ := hr3.form
          have HR1 := Lib.hid hr1
          have HR2 := Lib.hid hr2
          have HR3 := Lib.hid hr3
          have HB3 := Lib.hid hb3'
          have HRR := Lib.hid hr
          have HSR := Lib.hid (srun_any (prg raw) _ r w3 (prg_sound raw) (prg_pos raw) (by omega) HO3.out (by omega))
          clear hr1 hr2 hr3 hb3 hb3' HPP
          go_wp2_with fail
          refine HSR.out.mono ?_
          rintro e w4 ⟨v4, v5, rfl, hb4, hr4, hr5⟩
          obtain ⟨m4, c4, rfl⟩ := hr4.form
          obtain ⟨m5, c5, rfl⟩ := hr5.form
          have HR4 := Lib.hid hr4
          have HR5 := Lib.hid hr5
          have HS1 := Lib.hid (HR1.out.below hb4)
          have HS2 := Lib.hid (HR2.out.below hb4)
          have HS3 := Lib.hid (HR3.out.below hb4)
          have HB4 := Lib.hid (HB3.out.trans (hb4.mono HB3.out.size))
          clear hr4 hr5 hb4 HR1 HR2 HR3
          go_wp2_with fail
          go_loopw [13] (fun iv wr => ∃ k : Nat, iv = .int .i64 k ∧ k ≤ r.size + 1 ∧ Hid (Below w4.heap.size w4 wr)) (fun iv _ => r.size + 1 - (intOf iv).toNat)
          case atStart => exact ⟨0, rfl, Nat.zero_le _, Lib.hid (Below.refl _ _)⟩
          case round =>
            obtain ⟨k, rfl, hk, HBW⟩ := hrel
            by_cases hlt : k ≤ r.size
            · obtain ⟨d1, d2, d3, q1, e1, x1, y1⟩ := Reads.one Value.bool (HS1.out.below HBW.out) (k := k) (by omega)
              obtain ⟨f1, f2, f3, q2, e2, x2, y2⟩ := Reads.one Value.bool (HS2.out.below HBW.out) (k := k) (by omega)
              obtain ⟨g1, g2, g3, q3, e3, x3, y3⟩ := Reads.one Value.bool (HS3.out.below HBW.out) (k := k) (by omega)
              obtain ⟨i1, i2, i3, q4, e4, x4, y4⟩ := Reads.one Value.bool (HR4.out.below HBW.out) (k := k) (by omega)
              obtain ⟨j1, j2, j3, q5, e5, x5, y5⟩ := Reads.one Value.bool (HR5.out.below HBW.out) (k := k) (by omega)
              obtain rfl : q1 = q4 := Option.some.inj (x1.symm.trans x4)
              obtain rfl : q2 = q5 := Option.some.inj (x2.symm.trans x5)
              obtain rfl : q3 = false := by
                have := List.mem_of_getElem? x3
                simp at this
                first | exact this | exact this.2 | exact this.symm | exact this.2.symm
              cases e1
              cases e2
              cases e3
              cases e4
              cases e5
              clear x1 x2 x3 x4 x5
              go_wp2_with fail
              go_quiet (fail)
              go_wp2_with fail
              go_roundw
              case rel => exact ⟨k + 1, by go_num, by omega, Lib.hid (below_drewN HBW.out _)⟩
              case measure => simp [intOf]; omega
            · obtain rfl : k = r.size + 1 := by omega
              go_wp2_with fail
              go_ret
              exact ⟨rfl, HB4.out.trans (HBW.out.mono HB4.out.size)⟩
        · have HTK := Lib.hid (taking_any (prg raw) _ w3 (prg_sound raw) (HO.out.below hb3) (prg_pos raw) (by omega))
          have HB3 : Hid (Below w.heap.size w w3) := Lib.hid (HB.out.trans (hb3.mono HB.out.size))
          have ht' : decide ((6 : Int) < ((taking (prg raw)).length : Int)) = true := by rw [decide_eq_true_eq]; omega
          clear hb3 HPP
          go_wp2_with fail
          refine HTK.out.mono ?_
          rintro e w4 ⟨rfl, rfl⟩
          go_wp2_with fail
          go_ret
          exact ⟨rfl, HB3.out⟩
      · go_wp2_with fail
        go_ret
        exact ⟨rfl, Below.refl _ _⟩
    · go_wp2_with fail
      go_ret
      exact ⟨rfl, Below.refl _ _⟩
  · go_wp2_with fail
    go_ret
    exact ⟨rfl, Below.refl _ _⟩
end Go.Proofs.YtnpchkohfomagaaDoor.Rgw
