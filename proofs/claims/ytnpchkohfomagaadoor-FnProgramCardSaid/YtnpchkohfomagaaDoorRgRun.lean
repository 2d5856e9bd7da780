/- The automaton of instructions: dfa.run, one byte. -/
import Derived.Test.YtnpchkohfomagaaDoorRgAdd
import Derived.Test.YtnpchkohfomagaaDoorRgL
namespace Go.Proofs.YtnpchkohfomagaaDoor.Rgw
open Go.ChangeShapes Go.WideShapes Go.ChangeAt Go.RowKit Go.Trav Go.Rg Go.Proofs.YtnpchkohfomagaaDoor.Sparse
set_option linter.unusedVariables false
set_option maxRecDepth 100000
theorem setLen (B bd bs n : Nat) (S : List Nat) (w : World) (h : Holds w B bd bs n S) (hn : n ≤ 1000000) :
    Calls Tryd.prog 84 #[.pointer (some ⟨B, 0, none⟩)] w fun e w' => e = .returned (.int .i64 (S.length : Int)) ∧ w = w' := by
  have hle := h.le
  obtain ⟨ds, ss, h1, h2⟩ := h
  exact len_any B bd bs n ds ss S.length w h1 hle (by omega)
theorem setGet (B bd bs n : Nat) (S : List Nat) (i x : Nat) (w : World) (h : Holds w B bd bs n S) (hx : S[i]? = some x) (hn : n ≤ 1000000) :
    Calls Tryd.prog 85 #[.pointer (some ⟨B, 0, none⟩), .int .u64 (i : Int)] w fun e w' => e = .returned (.int .u64 (x : Int)) ∧ w = w' := by
  obtain ⟨ds, ss, h1, h2⟩ := h
  exact get_any B bd bs n ds ss S.length i x S w h1 h2 hx (by omega)
theorem setClear (B bd bs n : Nat) (S : List Nat) (w : World) (h : Holds w B bd bs n S) :
    Calls Tryd.prog 87 #[.pointer (some ⟨B, 0, none⟩)] w fun e w' => e = .returned (.tuple #[]) ∧ Holds w' B bd bs n [] ∧ Mod (SF B bd bs) w w' := by
  obtain ⟨ds, ss, h1, h2⟩ := h
  refine (clear_any B bd bs n ds ss S.length w h1).mono ?_
  rintro e w' ⟨rfl, h3, h4⟩
  exact ⟨rfl, ⟨ds, ss, h3, h2.clear⟩, h4⟩
theorem addAll_step (l : List In) (S : List Nat) (c k x : Nat) (h : S[k]? = some x) : addAll l [] (rootsOf l (S.take (k + 1)) c) = if into l c x then Go.Rg.add l (l.length + 1) (addAll l [] (rootsOf l (S.take k) c)) (x + 1) else addAll l [] (rootsOf l (S.take k) c) := by
  rw [roots_snoc h]
  by_cases hi : into l c x = true
  · rw [if_pos hi, if_pos hi, addAll_snoc]
  · rw [if_neg hi, if_neg hi, List.append_nil]
/-- dfa.run: behind the byte c, the set that is come to. -/
theorem run_any (l : List In) (hs : Sound l) (D pb po pc K B bd bs B' bd' bs' c : Nat) (S T : List Nat) (w : World) (hD : D < K) (hB : K ≤ B) (hbd : K ≤ bd) (hbs : K ≤ bs) (hB' : K ≤ B') (hbd' : K ≤ bd') (hbs' : K ≤ bs')
    (hap : ∀ k, SF B bd bs k → ¬ SF B' bd' bs' k) (hc : c < 256)
    (h0 : w.cell? ⟨D, 0, none⟩ = some (.slice (some ⟨pb, po, none⟩) l.length pc)) (hP : PAt w pb po l K) (hS : Holds w B bd bs l.length S) (hT : Holds w B' bd' bs' l.length T) :
    Calls Tryd.prog 88 #[.pointer (some ⟨D, 0, none⟩), .pointer (some ⟨B, 0, none⟩), .pointer (some ⟨B', 0, none⟩), .int .u8 (c : Int)] w fun e w' => ∃ b : Bool, e = .returned (.bool b) ∧ Holds w' B' bd' bs' l.length (addAll l [] (rootsOf l S c)) ∧ Mod (SF B' bd' bs') w w' := by
  have hF : ∀ k, k < K → ¬ SF B' bd' bs' k := fun k hk h => by unfold SF at h; omega
  have hll := hP.len
  have hlS := hS.le
  have HF := Lib.hid hF
  have HP := Lib.hid hP
  have HS := Lib.hid hS
  have HC := Lib.hid h0
  have HAP := Lib.hid hap
  have HS0 := Lib.hid hs
  have HT := Lib.hid hT
  clear hF hP hS h0 hap hs hT
  go_enter Tryd.func88, Tryd.ntmps88
  go_wp2_with fail
  refine (setClear B' bd' bs' l.length T w HT.out).mono ?_
  rintro e w1 ⟨rfl, hh1, hm1⟩
  have HH1 := Lib.hid hh1
  have HM1 := Lib.hid hm1
  clear hh1 hm1
  go_wp2_with fail
  go_loopw [9, 10] (fun mv ix wr => ∃ (k : Nat) (b : Bool), mv = .bool b ∧ ix = .int .u64 k ∧ k ≤ S.length ∧ Hid (Holds wr B' bd' bs' l.length (addAll l [] (rootsOf l (S.take k) c))) ∧ Hid (Mod (SF B' bd' bs') w wr)) (fun _ ix _ => S.length - (intOf ix).toNat)
  case atStart => exact ⟨0, false, rfl, rfl, Nat.zero_le _, Lib.hid (by simpa [rootsOf, addAll] using HH1.out), HM1⟩
  case round =>
    obtain ⟨k, b, rfl, rfl, hk, HH, HM⟩ := hrel
    have hlen := setLen B bd bs l.length S wr (HS.out.mod HM.out HAP.out) (by omega)
    by_cases hlt : k < S.length
    · obtain ⟨x, ex⟩ : ∃ x, S[k]? = some x := ⟨_, List.getElem?_eq_getElem hlt⟩
      have hget := setGet B bd bs l.length S k x wr (HS.out.mod HM.out HAP.out) ex (by omega)
      have hxl : x < l.length := by obtain ⟨_, _, _, h2⟩ := HS.out; exact h2.lt x (List.mem_of_getElem? ex)
      obtain ⟨i, hi⟩ : ∃ i, l[x]? = some i := ⟨_, List.getElem?_eq_getElem hxl⟩
      obtain ⟨b1, o1, hb1, hp0, hI⟩ := (HP.out.mod HM.out HF.out).at_ x i hi
      obtain ⟨i0, i1, i2, i3, i4, i5⟩ := hI
      have hd0 : wr.cell? ⟨D, 0, none⟩ = some (.slice (some ⟨pb, po, none⟩) l.length pc) := HM.out.cell HC.out (HF.out D hD)
      obtain ⟨_, _, q3, q4⟩ := HS0.out x i hi
      have hstep := addAll_step l S c k x ex
      have hin : into l c x = (i.op == 3 && decide (i.lo ≤ c) && decide (c ≤ i.hi)) := by unfold into; rw [hi]
      rw [hin] at hstep
      have HST := Lib.hid hstep
      have HI := Lib.hid hi
      clear hstep hin hi ex
      rcases show i.op = 0 ∨ i.op = 1 ∨ i.op = 2 ∨ i.op = 3 by omega with e0 | e0 | e0 | e0
      all_goals have E0 := Lib.hid e0
      · rw [e0] at i0
        go_wp2_with fail
        refine hlen.mono ?_
        rintro e w2 ⟨rfl, rfl⟩
        go_wp2_with fail
        refine hget.mono ?_
        rintro e w2 ⟨rfl, rfl⟩
        go_wp2_with fail
        go_roundw
        case rel => exact ⟨k + 1, true, rfl, by go_num, hlt, Lib.hid (by rw [HST.out, E0.out]; exact HH.out), HM⟩
        case measure => simp [intOf]; omega
      · rw [e0] at i0
        go_wp2_with fail
        refine hlen.mono ?_
        rintro e w2 ⟨rfl, rfl⟩
        go_wp2_with fail
        refine hget.mono ?_
        rintro e w2 ⟨rfl, rfl⟩
        go_wp2_with fail
        go_roundw
        case rel => exact ⟨k + 1, b, rfl, by go_num, hlt, Lib.hid (by rw [HST.out, E0.out]; exact HH.out), HM⟩
        case measure => simp [intOf]; omega
      · rw [e0] at i0
        go_wp2_with fail
        refine hlen.mono ?_
        rintro e w2 ⟨rfl, rfl⟩
        go_wp2_with fail
        refine hget.mono ?_
        rintro e w2 ⟨rfl, rfl⟩
        go_wp2_with fail
        go_roundw
        case rel => exact ⟨k + 1, b, rfl, by go_num, hlt, Lib.hid (by rw [HST.out, E0.out]; exact HH.out), HM⟩
        case measure => simp [intOf]; omega
      · rw [e0] at i0
        have hx1 := q3 E0.out
        by_cases h1 : i.lo ≤ c
        · by_cases h2 : c ≤ i.hi
          · have hgood : Go.Rg.Good l (addAll l [] (rootsOf l (S.take k) c)) := (addAll_closure l HS0.out _ (roots_lt HS0.out)).good
            have hadd := dadd_any l HS0.out D pb po pc K B' bd' bs' hD hB' hbd' hbs' (l.length + 1) _ (x + 1) wr hd0 (HP.out.mod HM.out HF.out) HH.out hgood hx1 (by omega)
            have hxe : ((x + 1 : Nat) : Int) = (x : Int) + 1 := by omega
            rw [hxe] at hadd
            clear hgood
            go_wp2_with fail
            refine hlen.mono ?_
            rintro e w2 ⟨rfl, rfl⟩
            go_wp2_with fail
            refine hget.mono ?_
            rintro e w2 ⟨rfl, rfl⟩
            go_wp2_with fail
            refine hadd.mono ?_
            rintro e w3 ⟨rfl, hh3, hm3⟩
            have HH3 := Lib.hid hh3
            have HM3 := Lib.hid hm3
            clear hh3 hm3
            go_wp2_with fail
            go_roundw
            case rel => exact ⟨k + 1, b, rfl, by go_num, hlt, Lib.hid (by rw [HST.out, E0.out]; simp [h1, h2]; exact HH3.out), Lib.hid (HM.out.trans HM3.out)⟩
            case measure => simp [intOf]; omega
          · go_wp2_with fail
            refine hlen.mono ?_
            rintro e w2 ⟨rfl, rfl⟩
            go_wp2_with fail
            refine hget.mono ?_
            rintro e w2 ⟨rfl, rfl⟩
            go_wp2_with fail
            go_roundw
            case rel => exact ⟨k + 1, b, rfl, by go_num, hlt, Lib.hid (by rw [HST.out, E0.out]; simp [h2]; exact HH.out), HM⟩
            case measure => simp [intOf]; omega
        · go_wp2_with fail
          refine hlen.mono ?_
          rintro e w2 ⟨rfl, rfl⟩
          go_wp2_with fail
          refine hget.mono ?_
          rintro e w2 ⟨rfl, rfl⟩
          go_wp2_with fail
          go_roundw
          case rel => exact ⟨k + 1, b, rfl, by go_num, hlt, Lib.hid (by rw [HST.out, E0.out]; simp [h1]; exact HH.out), HM⟩
          case measure => simp [intOf]; omega
    · obtain rfl : k = S.length := by omega
      go_wp2_with fail
      refine hlen.mono ?_
      rintro e w2 ⟨rfl, rfl⟩
      go_wp2_with fail
      go_ret
      exact ⟨b, rfl, by have := HH.out; rwa [List.take_length] at this, HM.out⟩
end Go.Proofs.YtnpchkohfomagaaDoor.Rgw
