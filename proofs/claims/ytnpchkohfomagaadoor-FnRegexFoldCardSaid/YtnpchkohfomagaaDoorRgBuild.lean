/- The automaton of instructions: build, all states. -/
import Derived.Test.YtnpchkohfomagaaDoorRgLoop
namespace Go.Proofs.YtnpchkohfomagaaDoor.Rgw
open Go.ChangeShapes Go.WideShapes Go.ChangeAt Go.RowKit Go.Trav Go.Pk Go.Rg Go.Maps Go.Proofs.YtnpchkohfomagaaDoor.Sparse
set_option linter.unusedVariables false
set_option linter.unusedSimpArgs false
set_option maxRecDepth 100000
theorem run_makeMap_none {P : Program} {t k e : TypeId} (h : P.underlying t = some (.map k e)) (w : World) : (Instr.makeMap t none).run P w = .ok (.map (some w.heap.size)) (w.alloc (.map #[] 0)) := by
  simp [Instr.makeMap, run_underlying h, newObj, go_sem]
  rfl
theorem newSet (n : Nat) (w : World) (hn : n ≤ 1000000) :
    Calls Tryd.prog 66 #[.int .u64 (n : Int)] w fun e w' => ∃ B bd bs, e = .returned (.pointer (some ⟨B, 0, none⟩)) ∧ Holds w' B bd bs n [] ∧ Mod (fun _ => False) w w' ∧ w.heap.size ≤ B ∧ w.heap.size ≤ bd ∧ w.heap.size ≤ bs := by
  refine (new_any n w (by omega)).mono ?_
  rintro e w' ⟨B, bd, bs, rfl, h1, h2, h3⟩
  exact ⟨B, bd, bs, rfl, ⟨_, _, h1, isSet_new n⟩, Mod.of_below h2, h3⟩
/-- The builder at the start: no state but the one that is none. -/
structure Fresh (w : World) (K0 base U D M pb po pc : Nat) (sv : Value) (sts : List SV) (l : List In) : Prop where
  P : PAt w pb po l K0
  bi : BI w base U D M (.slice (some ⟨pb, po, none⟩) l.length pc) sv (.slice none 0 0) sts l [] []
  kb : K0 ≤ base
  bw : base ≤ w.heap.size
set_option maxHeartbeats 4000000 in
theorem build_any (l : List In) (K0 base U D M pb po pc : Nat) (sv : Value) (sts : List SV) (ev : Value) (w : World) (hs : Sound l) (h0 : 0 < l.length) (hF : Fresh w K0 base U D M pb po pc sv sts l)
    (hg : w.cell? ⟨4, 0, none⟩ = some ev) (hgb : 4 < base) :
    Calls Tryd.prog 50 #[.pointer (some ⟨U, 0, none⟩)] w fun e w' => Below base w w' ∧ ((∃ (Ks nx : List (List Nat)), e = .returned (.tuple #[.pointer (some ⟨D, 0, none⟩), .nilIface]) ∧ Made l Ks nx ∧ (∀ r ∈ nx, ∀ n ∈ r, n ≤ Ks.length) ∧ Ks.length ≤ 20000 ∧ ∃ sv' kv' sts', BI w' base U D M (.slice (some ⟨pb, po, none⟩) l.length pc) sv' kv' sts' l Ks nx) ∨
      (e = .returned (.tuple #[.pointer none, ev]) ∧ Many l)) := by
  have hll := hF.P.len
  have u0 : w.cell? ⟨U, 0, none⟩ = some (.pointer (some ⟨D, 0, none⟩)) := block_cell hF.bi.hU rfl
  have d0 : w.cell? ⟨D, 0, none⟩ = some (.slice (some ⟨pb, po, none⟩) l.length pc) := block_cell hF.bi.hD rfl
  have hn1 := newSet l.length w (by omega)
  have hmm := fun (w : World) => run_makeMap_none Tryd.underlying152 w
  have HF := Lib.hid hF
  have HG := Lib.hid hg
  have HS := Lib.hid hs
  clear hF hg hs
  go_enter Tryd.func50, Tryd.ntmps50
  go_wp2_with fail
  refine hn1.mono ?_
  rintro e w1 ⟨B, bd, bs, rfl, hh1, hm1, b1, b2, b3⟩
  have hB1 := HF.out.bi.mod hm1 (fun _ _ h => h)
  have u1 : w1.cell? ⟨U, 0, none⟩ = some (.pointer (some ⟨D, 0, none⟩)) := block_cell hB1.hU rfl
  have d1 : w1.cell? ⟨D, 0, none⟩ = some (.slice (some ⟨pb, po, none⟩) l.length pc) := block_cell hB1.hD rfl
  have hn2 := newSet l.length w1 (by omega)
  have HB1 := Lib.hid hB1
  have HH1 := Lib.hid hh1
  have HM1 := Lib.hid hm1
  clear hB1 hh1 hm1 hn1
  go_wp2_with fail
  refine hn2.mono ?_
  rintro e w2 ⟨B', bd', bs', rfl, hh2, hm2, b1', b2', b3'⟩
  have hB2 := HB1.out.mod hm2 (fun _ _ h => h)
  have u2 : w2.cell? ⟨U, 0, none⟩ = some (.pointer (some ⟨D, 0, none⟩)) := block_cell hB2.hU rfl
  have hP2 : PAt w2 pb po l w.heap.size := ((HF.out.P.mono (Nat.le_trans HF.out.kb HF.out.bw)).mod HM1.out (fun _ _ h => h)).mod hm2 (fun _ _ h => h)
  have hH12 := HH1.out.mod hm2 (fun _ _ h => h)
  have hDl : D < w.heap.size := HF.out.bi.lt (Or.inr (Or.inl rfl))
  have hadd := dadd_any l HS.out D pb po pc w.heap.size B bd bs hDl b1 b2 b3 (l.length + 1) [] 0 w2 (block_cell hB2.hD rfl) hP2 hH12 ⟨by simp, by simp⟩ h0 (by simp)
  have HB2 := Lib.hid hB2
  have HH2 := Lib.hid hh2
  have HM2 := Lib.hid hm2
  have HADD := Lib.hid hadd
  clear hB2 hh2 hm2 hn2 hP2 hH12 hadd
  go_wp2_with fail
  refine HADD.out.mono ?_
  rintro e w3 ⟨rfl, hh3, hm3⟩
  have hs1 := HM1.out.size
  have hap1 : ∀ k, SF B bd bs k → ¬ BF U D M sv (.slice none 0 0) sts k := fun k h1 h2 => by
    have := HF.out.bi.lt h2
    unfold SF at h1; omega
  have hap2 : ∀ k, SF B' bd' bs' k → ¬ BF U D M sv (.slice none 0 0) sts k := fun k h1 h2 => by
    have := HF.out.bi.lt h2
    unfold SF at h1; omega
  have hap3 : ∀ k, SF B bd bs k → ¬ SF B' bd' bs' k := fun k h1 h2 => by
    have := HH1.out.lt h1
    unfold SF at h2; omega
  have hm03 : Mod (SF B bd bs) w w3 := ((HM1.out.mono fun _ _ h => h.elim).trans (HM2.out.mono fun _ _ h => h.elim)).trans hm3
  have hB3 := HF.out.bi.mod hm03 (fun k h1 h2 => hap1 k h2 h1)
  have hP3 : PAt w3 pb po l K0 := HF.out.P.mod hm03 (fun k hk h => by have := HF.out.kb; have := HF.out.bw; unfold SF at h; omega)
  have hR3 : RV w3 base U D M sv (.slice none 0 0) sts (.slice none 0 0) := ⟨⟨0, [], World.ownsRow_nil _ _ _ _⟩, fun k hk => by cases hk⟩
  have hbw3 : base ≤ w3.heap.size := Nat.le_trans HF.out.bw hm03.size
  have hca := cached_any l K0 base U D M pb po pc B bd bs sv (.slice none 0 0) (.slice none 0 0) sts [] [] _ w3 HS.out HF.out.kb hbw3 hP3 hB3 hR3 hh3 (fun k h1 h2 => by
    rcases h2 with h2 | h2
    · exact hap1 k h1 h2
    · cases h2) (by simp) (by simp)
  have hnx3 := HH2.out.mod hm3 (fun k h1 h2 => hap3 k h2 h1)
  have HC := Lib.hid hca
  have HH3 := Lib.hid hh3
  have HN3 := Lib.hid hnx3
  have HM3 := Lib.hid hm03
  have HA1 := Lib.hid hap1
  have HA2 := Lib.hid hap2
  have HA3 := Lib.hid hap3
  clear hh3 hm3 hap1 hap2 hap3 hm03 hB3 hP3 hR3 hca hnx3
  go_wp2_with fail
  refine HC.out.mono ?_
  rintro e w4 ⟨n, rv, sv4, kv4, S, T, T', rfl, hC⟩
  have hA4 : All w4 K0 base U D M pb po pc B bd bs B' bd' bs' sv4 kv4 rv (sts ++ S) l T T' := by
    have hBGn : ∀ k, BG U D M sv4 kv4 (sts ++ S) rv k → BF U D M sv (.slice none 0 0) sts k ∨ w3.heap.size ≤ k := fun k hk => by
      rcases hC.sub k hk with (h | h) | h
      · exact Or.inl h
      · cases h
      · exact Or.inr h
    refine ⟨(HF.out.P.mod HM3.out (fun k hk h => by have := HF.out.kb; have := HF.out.bw; unfold SF at h; omega)).mod hC.mod (fun k hk h => ?_), by simpa using hC.bi, hC.rw', ⟨_, HH3.out.mod hC.mod fun k h1 h2 => ?_⟩, ⟨_, HN3.out.mod hC.mod fun k h1 h2 => ?_⟩, fun k h1 h2 => ?_, fun k h1 h2 => ?_, HA3.out, ⟨w.heap.size, Nat.le_trans HF.out.kb HF.out.bw, hDl, ⟨b1, b2, b3⟩, ⟨by omega, by omega, by omega⟩⟩, Nat.le_trans hbw3 hC.mod.size, HF.out.kb⟩
    · rcases h with h | h
      · have := HF.out.bi.ge h; have := HF.out.kb; omega
      · cases h
    · rcases h2 with h2 | h2
      · exact HA1.out k h1 h2
      · cases h2
    · rcases h2 with h2 | h2
      · exact HA2.out k h1 h2
      · cases h2
    · rcases hBGn k h2 with h | h
      · exact HA1.out k h1 h
      · have := HH3.out.lt h1; omega
    · rcases hBGn k h2 with h | h
      · exact HA2.out k h1 h
      · have := HN3.out.lt h1; omega
  have hbel4 : Below base w w4 := (HM3.out.toBelow HF.out.bw fun k _ hk => by have := HF.out.bw; unfold SF at hk; omega).trans (hC.mod.toBelow hbw3 fun k _ hk => by
    rcases hk with hk | hk
    · exact HF.out.bi.ge hk
    · cases hk)
  obtain ⟨w5, hw5⟩ : ∃ w5, w5 = (w4.alloc (.cells #[.int .i64 (n : Int)] 3)).alloc (.map #[] 0) := ⟨_, rfl⟩
  have hm45 : Mod (fun _ => False) w4 w5 := by rw [hw5]; exact ((Mod.refl _ _).alloc _).alloc _
  have hb4 : base ≤ w4.heap.size := hA4.bw
  have hL5 : LS w w5 K0 base U D M pb po pc B bd bs B' bd' bs' (w4.heap.size + 1) sv4 kv4 rv (.slice (some ⟨w4.heap.size, 0, none⟩) 1 1) (sts ++ S) l T T' [] ([] ++ [n]) := by
    refine ⟨hA4.mod hm45 (fun _ _ h => h) (fun _ _ h => h), ⟨rfl, Or.inr ⟨w4.heap.size, 1, #[iN n], rfl, hb4, by rw [hw5]; exact block_alloc (heap_alloc_new w4 _), Nat.le_refl _, by unfold maxLen; omega, rfl, rfl⟩⟩, fun k hk hf => ?_, ?_, fun hf => ?_, ?_, by omega, hbel4.trans (hm45.toBelow hb4 fun _ _ h => h.elim)⟩
    · have := hA4.lt hf
      simp [Value.ownBlock] at hk
      omega
    · rw [hw5]
      have := World.ownsMap_made (H := Unit) (w4.alloc (.cells #[.int .i64 (n : Int)] 3)) Tryd.prog 3 unitElem
      simpa [SdN, setOf] using this
    · have := hA4.lt hf; omega
    · simp [Value.ownBlock]
  have hpop := pop_some base _ [] n w5 hL5.stk (by simp)
  have HL5 := Lib.hid hL5
  have HC4 := Lib.hid hC
  have HPOP := Lib.hid hpop
  have HW5 := Lib.hid hw5
  clear hC HC HADD hA4 hbel4 hm45 hL5 hpop hw5
  go_wp2_with fail
  rw [← HW5.out]
  refine HPOP.out.mono ?_
  rintro e w6 ⟨stv, rfl, hm6, hr6, hb6⟩
  have hL6 := HL5.out.pop hm6 hr6 hb6
  have HL6 := Lib.hid hL6
  clear hm6 hr6 hb6 hL6 HPOP HW5 hmm
  have hstart : Hid ((n = 0 ∧ Made l T T' ∧ ∀ r ∈ T', ∀ m ∈ r, m ≤ T.length) ∨ (1 ≤ n ∧ Inv l T T' [] [] n 0)) := Lib.hid (by
    have hnum := HC4.out.num
    rcases HC4.out.tt with ⟨e1, e2⟩ | ⟨e1, e2, e3, _⟩
    · left
      rw [e1] at hnum ⊢
      rw [e2]
      rcases hnum with ⟨hk, hn⟩ | ⟨_, i, hi, _⟩
      · exact ⟨hn, Or.inl ⟨rfl, hk⟩, by simp⟩
      · simp at hi
    · right
      have hn1 : n = 1 := HC4.out.new (by rw [e1]; simp)
      rw [e1, e2, hn1]
      exact ⟨Nat.le_refl 1, Inv.start HS.out h0 e3⟩)
  have hlT : Hid (T.length ≤ 9999) := Lib.hid (by rcases HC4.out.tt with ⟨e1, _⟩ | ⟨e1, _⟩ <;> (rw [e1]; simp))
  have HHS := hstart
  clear hstart
  generalize hSm : w4.heap.size + 1 = Sm at *
  clear hSm HC4 HL5
  go_wp2_with fail
  go_loopw [7, 8, 10] (fun rvv stv sx wr => ∃ (s : Nat) (Ks nx : List (List Nat)) (sts : List SV) (stack seen : List Nat) (svv kvv : Value), sx = .int .i64 s ∧ Hid (LS w wr K0 base U D M pb po pc B bd bs B' bd' bs' Sm svv kvv rvv stv sts l Ks nx seen stack) ∧ Hid ((s = 0 ∧ Made l Ks nx ∧ ∀ r ∈ nx, ∀ n ∈ r, n ≤ Ks.length) ∨ (1 ≤ s ∧ Inv l Ks nx seen stack s 0)) ∧ Hid (Ks.length ≤ 9999) ∧ Hid (stack.length ≤ seen.length)) (fun _ stv sx wr => 2 * (10002 - seenSize Sm wr) + stkLen stv + nz sx)
  case atStart => exact ⟨n, T, T', _, [], [], _, _, rfl, HL6, HHS, hlT, Lib.hid (Nat.le_refl 0)⟩
  case round =>
    clear HL6 HHS hlT
    obtain ⟨s, Ks, nx, sts1, stack, seen, svv, kvv, rfl, HL, HI, HK, HSS⟩ := hrel
    by_cases hs0 : s = 0
    · subst hs0
      have hmade := HI.out.resolve_right (fun h => by omega)
      have u7 : wr.cell? ⟨U, 0, none⟩ = some (.pointer (some ⟨D, 0, none⟩)) := block_cell HL.out.all.bi.hU rfl
      have HMD := Lib.hid hmade
      clear hmade
      go_wp2_with fail
      go_ret2
      refine ⟨HL.out.bel, Or.inl ?_⟩
      exact ⟨rfl, Ks, nx, HMD.out.2.1, HMD.out.2.2, by have := HK.out; omega, _, _, _, HL.out.all.bi⟩
    · have hinv := (HI.out.resolve_left (fun h => hs0 h.1)).2
      have hs1 : 1 ≤ s := by omega
      have hne : ((s : Int) != 0) = true := by simp; omega
      have HINV := Lib.hid hinv
      have hm0 : 2 * (10002 - seenSize Sm wr) + stkLen u8 = 2 * (10002 - seen.length) + stack.length := by
        rw [seenSize_eq HL.out.map hinv.sn]
        obtain ⟨ao, cp, e⟩ := ownsRow_form HL.out.stk
        have e8 : u8 = .slice ao stack.length cp := e
        rw [e8]; rfl
      have hz1 : nz (.int .i64 (s : Int)) = 1 := by
        cases s with
        | zero => omega
        | succ s => rfl
      have HM0 := Lib.hid hm0
      have HZ1 := Lib.hid hz1
      clear hinv hm0 hz1
      go_wp2_with fail
      go_loopw [7, 8, 11] (fun rvv stv bv wr => ∃ (b : Nat) (Ks nx : List (List Nat)) (sts : List SV) (stack2 seen2 : List Nat) (svv kvv : Value), bv = .int .i64 b ∧ b ≤ 256 ∧ Hid (LS w wr K0 base U D M pb po pc B bd bs B' bd' bs' Sm svv kvv rvv stv sts l Ks nx seen2 stack2) ∧ Hid (Inv l Ks nx seen2 stack2 s b) ∧ Hid (Ks.length ≤ 9999) ∧ Hid (stack2.length ≤ seen2.length) ∧ Hid (2 * (10002 - seen2.length) + stack2.length ≤ 2 * (10002 - seen.length) + stack.length)) (fun _ _ bv _ => 256 - (intOf bv).toNat)
      case atStart => exact ⟨0, Ks, nx, sts1, stack, seen, svv, kvv, rfl, by omega, HL, HINV, HK, HSS, Lib.hid (Nat.le_refl _)⟩
      case round =>
        clear HL HI HK HSS HINV
        obtain ⟨b, Ks2, nx2, sts2, stack2, seen2, sv2, kv2, rfl, hb, HL2, HI2, HK2, HSS2, HMS2⟩ := hrel
        by_cases hlt : b < 256
        · obtain ⟨K, hK⟩ : ∃ K, Ks2[s - 1]? = some K := ⟨_, List.getElem?_eq_getElem (by have := HI2.out.cur; omega)⟩
          have hrs := runState_any l K0 base U D M pb po pc B bd bs B' bd' bs' s b sv2 kv2 u7 sts2 Ks2 nx2 K wr HS.out HL2.out.all hK hs1 hlt (by have := HK2.out; omega) (fun L hL => (HI2.out.isK L hL).1)
          have HRS := Lib.hid hrs
          have HKK := Lib.hid hK
          clear hrs hK
          go_wp2_with fail
          refine HRS.out.mono ?_
          rintro e w7 ⟨n2, rv2, sv3, kv3, S2, T2, T2', r2, rfl, hA7, hr7, htt, hnum, hnew, hm7, hsub⟩
          have hL7 := HL2.out.step hA7 hm7 hsub
          have hbyte : ∀ seen' stack', ((n2 = 0 ∨ n2 ∈ seen2) ∧ seen' = seen2 ∧ stack' = stack2 ∨ n2 ≠ 0 ∧ n2 ∉ seen2 ∧ seen' = seen2 ++ [n2] ∧ stack' = stack2 ++ [n2]) → Inv l (Ks2 ++ T2) ((nx2 ++ T2').set (s - 1) (r2.set b n2)) seen' stack' s (b + 1) := fun seen' stack' hh => by
            refine HI2.out.byte hlt hs1 HKK.out ?_ hnum hnew hr7 hh
            rcases htt with h | ⟨h1, h2, h3, h4⟩
            · exact Or.inl h
            · exact Or.inr ⟨_, h1, h2, by simp, h3, h4, isK_step HS.out K b⟩
          have hln7 : (sts2 ++ S2).length = (Ks2 ++ T2).length + 1 := hA7.bi.hl
          obtain ⟨sb7, sc7, e7, _, _⟩ := st_cells hA7.bi.hs rfl (by omega)
          have u7c : w7.cell? ⟨U, 0, none⟩ = some (.pointer (some ⟨D, 0, none⟩)) := block_cell hA7.bi.hU rfl
          have d7c : w7.cell? ⟨D, 1, none⟩ = some sv3 := block_cell hA7.bi.hD rfl
          rw [e7] at d7c
          generalize hln : (sts2 ++ S2).length = ln at *
          have HLN := Lib.hid hln7
          have HL7 := Lib.hid hL7
          have HBY := Lib.hid hbyte
          have HE7 := Lib.hid e7
          have hkl2 : (Ks2 ++ T2).length ≤ 10000 := by
            have := HK2.out
            rw [List.length_append]
            rcases htt with ⟨h, _⟩ | ⟨h, _⟩ <;> (rw [h]; simp; omega)
          have hn2 : n2 ≤ 10001 := by have := hnum.le; omega
          clear hA7 hr7 htt hnum hnew hm7 hsub hL7 hbyte hln7 hln e7 HRS HL2
          by_cases hz : n2 = 0
          · have hzq : ((n2 : Int) != 0) = false := by simp [hz]
            have HLf := HL7
            have HIf : Hid (Inv l (Ks2 ++ T2) ((nx2 ++ T2').set (s - 1) (r2.set b n2)) seen2 stack2 s (b + 1)) := Lib.hid (HBY.out _ _ (Or.inl ⟨Or.inl hz, rfl, rfl⟩))
            have HSf := HSS2
            have HMf := HMS2
            clear hz
            have hgl : w7.cell? ⟨4, 0, none⟩ = some ev := by rw [HLf.out.bel.cell hgb]; exact HG.out
            by_cases hlim : 10000 < (Ks2 ++ T2).length + 1
            · have hq : decide ((10000 : Int) < (ln : Int)) = true := decide_eq_true (by have := HLN.out; omega)
              go_wp2_with fail
              go_quiet (fail)
              (try go_wp2_with fail)
              go_ret2
              exact ⟨HLf.out.bel.trans ((below_draws _ _).mono HLf.out.all.bw), Or.inr ⟨rfl, HIf.out.many hlim⟩⟩
            · have hq : decide ((10000 : Int) < (ln : Int)) = false := decide_eq_false (by have := HLN.out; omega)
              go_wp2_with fail
              go_roundw
              case rel => exact ⟨b + 1, _, _, _, _, _, _, _, by go_num, hlt, HLf, HIf, Lib.hid (by omega), HSf, HMf⟩
              case measure => simp [intOf]; omega
          · have hzq : ((n2 : Int) != 0) = true := by simp; omega
            have hkey : keyOf Tryd.prog 3 (.int .i64 (n2 : Int)) = some (.int .i64 (n2 : Int)) := keyOf_int_mk Tryd.underlying3 (WalkArith.wf_i64 (by omega))
            have hm78 : Mod (fun _ => False) w7 (w7.alloc (.cells #[] 156)) := (Mod.refl _ _).alloc _
            have hL8 := HL7.out.quiet hm78
            have u8c : (w7.alloc (.cells #[] 156)).cell? ⟨U, 0, none⟩ = some (.pointer (some ⟨D, 0, none⟩)) := block_cell hL8.all.bi.hU rfl
            have d8c : (w7.alloc (.cells #[] 156)).cell? ⟨D, 1, none⟩ = some sv3 := block_cell hL8.all.bi.hD rfl
            rw [HE7.out] at d8c
            have HL8 := Lib.hid hL8
            clear hm78 hL8
            by_cases hsn : n2 ∈ seen2
            · have hh : Maps.has (SdN seen2) (.int .i64 (n2 : Int)) = true := by rw [has_SdN]; exact decide_eq_true hsn
              have HLf := HL8
              have HIf : Hid (Inv l (Ks2 ++ T2) ((nx2 ++ T2').set (s - 1) (r2.set b n2)) seen2 stack2 s (b + 1)) := Lib.hid (HBY.out _ _ (Or.inl ⟨Or.inr hsn, rfl, rfl⟩))
              have HSf := HSS2
              have HMf := HMS2
              clear hsn hz
              have hgl : (w7.alloc (.cells #[] 156)).cell? ⟨4, 0, none⟩ = some ev := by rw [HLf.out.bel.cell hgb]; exact HG.out
              by_cases hlim : 10000 < (Ks2 ++ T2).length + 1
              · have hq : decide ((10000 : Int) < (ln : Int)) = true := decide_eq_true (by have := HLN.out; omega)
                go_wp2_with (first | (at_lookup; refine wpList_lookup_own_unit _ rfl _ _ 152 rfl 3 156 lawI Tryd.underlying152 (zeroU _) Sm _ (SdN seen2) rfl HL7.out.map _ _ rfl hkey ?_) | go_in)
                go_quiet (fail)
                (try go_wp2_with fail)
                go_ret2
                exact ⟨HLf.out.bel.trans ((below_draws _ _).mono HLf.out.all.bw), Or.inr ⟨rfl, HIf.out.many hlim⟩⟩
              · have hq : decide ((10000 : Int) < (ln : Int)) = false := decide_eq_false (by have := HLN.out; omega)
                go_wp2_with (first | (at_lookup; refine wpList_lookup_own_unit _ rfl _ _ 152 rfl 3 156 lawI Tryd.underlying152 (zeroU _) Sm _ (SdN seen2) rfl HL7.out.map _ _ rfl hkey ?_) | go_in)
                go_roundw
                case rel => exact ⟨b + 1, _, _, _, _, _, _, _, by go_num, hlt, HLf, HIf, Lib.hid (by omega), HSf, HMf⟩
                case measure => simp [intOf]; omega
            · have hh : Maps.has (SdN seen2) (.int .i64 (n2 : Int)) = false := by rw [has_SdN]; exact decide_eq_false hsn
              have hif := HBY.out _ _ (Or.inr ⟨hz, hsn, rfl, rfl⟩)
              have HIf := Lib.hid hif
              have hsl : seen2.length ≤ 10000 := by have := HI2.out.seen_le; have := HK2.out; omega
              clear hsn hz hif
              have hstl : stack2.length ≤ 10000 := by have := HSS2.out; omega
              have HSf : Hid ((stack2 ++ [n2]).length ≤ (seen2 ++ [n2]).length) := Lib.hid (by have := HSS2.out; simp; omega)
              have HMf : Hid (2 * (10002 - (seen2 ++ [n2]).length) + (stack2 ++ [n2]).length ≤ 2 * (10002 - seen.length) + stack.length) := Lib.hid (by have := HMS2.out; simp; omega)
              by_cases hlim : 10000 < (Ks2 ++ T2).length + 1
              · have hq : decide ((10000 : Int) < (ln : Int)) = true := decide_eq_true (by have := HLN.out; omega)
                go_wp2_with (first
                  | (at_lookup; refine wpList_lookup_own_unit _ rfl _ _ 152 rfl 3 156 lawI Tryd.underlying152 (zeroU _) Sm _ (SdN seen2) rfl HL7.out.map _ _ rfl hkey ?_)
                  | (at_mapUpdate; refine wpList_mapUpdate_own _ rfl _ _ _ 152 rfl 3 156 lawI Tryd.underlying152 unitElem Sm seen2.length (SdN seen2) rfl HL8.out.map (by unfold maxLen; omega) _ _ _ rfl rfl hkey _ [] unitElem_mk ?_; intro w8 hown8 hgr8; have HL9 := Lib.hid (HL8.out.mark HF.out.kb hown8 hgr8); clear hown8 hgr8)
                  | (at_builtin; (refine wpList_append_one rfl (.tmp 5) (.tmp 7) 151 rfl base 3 _ 1 8 Tryd.underlying151 Tryd.infoInt rfl (by decide) (by decide) _ _ _ rfl HL9.out.stk #[.int .i64 (n2 : Int)] _ _ rfl (by simp) rfl (by simp [Value.oneCell']) (by omega) HL9.out.all.bw ?_; intro ao5 cap5 w9 hown5 hgr5 hat5; have hr9 : w9.ownsRow base 3 1 (.slice ao5 (stack2.length + 1) cap5) (stack2 ++ [n2]).length ((stack2 ++ [n2]).map iN) := (by simpa [iN] using hown5); have hm9 : Mod (fun k => u8.ownBlock = some k) w8 w9 := ((Mod.refl _ _).alloc _).grown hgr5 fun k hk _ => hk; have HLf := Lib.hid (HL9.out.push HF.out.kb hr9 hm9 hat5); clear hown5 hgr5 hat5 hr9 hm9; have u9c : w9.cell? ⟨U, 0, none⟩ = some (.pointer (some ⟨D, 0, none⟩)) := block_cell HLf.out.all.bi.hU rfl; have d9c : w9.cell? ⟨D, 1, none⟩ = some (.slice (some ⟨sb7, 0, none⟩) ln sc7) := (by rw [block_cell HLf.out.all.bi.hD rfl, HE7.out]; rfl); have hgl : w9.cell? ⟨4, 0, none⟩ = some ev := (by rw [HLf.out.bel.cell hgb]; exact HG.out)))
                  | go_in)
                go_quiet (fail)
                (try go_wp2_with fail)
                go_ret2
                exact ⟨HLf.out.bel.trans ((below_draws _ _).mono HLf.out.all.bw), Or.inr ⟨rfl, HIf.out.many hlim⟩⟩
              · have hq : decide ((10000 : Int) < (ln : Int)) = false := decide_eq_false (by have := HLN.out; omega)
                go_wp2_with (first
                  | (at_lookup; refine wpList_lookup_own_unit _ rfl _ _ 152 rfl 3 156 lawI Tryd.underlying152 (zeroU _) Sm _ (SdN seen2) rfl HL7.out.map _ _ rfl hkey ?_)
                  | (at_mapUpdate; refine wpList_mapUpdate_own _ rfl _ _ _ 152 rfl 3 156 lawI Tryd.underlying152 unitElem Sm seen2.length (SdN seen2) rfl HL8.out.map (by unfold maxLen; omega) _ _ _ rfl rfl hkey _ [] unitElem_mk ?_; intro w8 hown8 hgr8; have HL9 := Lib.hid (HL8.out.mark HF.out.kb hown8 hgr8); clear hown8 hgr8)
                  | (at_builtin; (refine wpList_append_one rfl (.tmp 5) (.tmp 7) 151 rfl base 3 _ 1 8 Tryd.underlying151 Tryd.infoInt rfl (by decide) (by decide) _ _ _ rfl HL9.out.stk #[.int .i64 (n2 : Int)] _ _ rfl (by simp) rfl (by simp [Value.oneCell']) (by omega) HL9.out.all.bw ?_; intro ao5 cap5 w9 hown5 hgr5 hat5; have hr9 : w9.ownsRow base 3 1 (.slice ao5 (stack2.length + 1) cap5) (stack2 ++ [n2]).length ((stack2 ++ [n2]).map iN) := (by simpa [iN] using hown5); have hm9 : Mod (fun k => u8.ownBlock = some k) w8 w9 := ((Mod.refl _ _).alloc _).grown hgr5 fun k hk _ => hk; have HLf := Lib.hid (HL9.out.push HF.out.kb hr9 hm9 hat5); clear hown5 hgr5 hat5 hr9 hm9; have u9c : w9.cell? ⟨U, 0, none⟩ = some (.pointer (some ⟨D, 0, none⟩)) := block_cell HLf.out.all.bi.hU rfl; have d9c : w9.cell? ⟨D, 1, none⟩ = some (.slice (some ⟨sb7, 0, none⟩) ln sc7) := (by rw [block_cell HLf.out.all.bi.hD rfl, HE7.out]; rfl); have hgl : w9.cell? ⟨4, 0, none⟩ = some ev := (by rw [HLf.out.bel.cell hgb]; exact HG.out)))
                  | go_in)
                go_roundw
                case rel => exact ⟨b + 1, _, _, _, _, _, _, _, by go_num, hlt, HLf, HIf, Lib.hid (by omega), HSf, HMf⟩
                case measure => simp [intOf]; omega
        · obtain rfl : b = 256 := by omega
          rcases List.eq_nil_or_concat stack2 with hst | ⟨st', x, hst⟩
          · subst hst
            have hpop := pop_nil base u8 wr (by simpa using HL2.out.stk)
            have HP := Lib.hid hpop
            clear hpop
            go_wp2_with (first | (go_at_call 69; refine HP.out.mono ?_; rintro e w9 ⟨rfl, rfl⟩) | go_in)
            go_roundw
            case rel => exact ⟨0, Ks2, nx2, sts2, [], seen2, sv2, kv2, rfl, HL2, Lib.hid (Or.inl ⟨rfl, HI2.out.made, Inv.rows (fun i K hi => HI2.out.fin i K hi) HI2.out.nxl HI2.out.row⟩), HK2, HSS2⟩
            case measure =>
              have h1 := HM0.out
              have h2 := HZ1.out
              have h3 := HMS2.out
              have h4 := seenSize_eq HL2.out.map HI2.out.sn
              obtain ⟨ao, cp, e⟩ := ownsRow_form HL2.out.stk
              have h5 : stkLen u8 = 0 := by rw [e]; rfl
              have h6 : nz (.int .i64 0) = 0 := rfl
              rw [HM0.out, HZ1.out, h4, h5, h6]
              simp only [List.length_nil, Nat.add_zero] at h3 ⊢
              omega
          · have hst2 : stack2 = st' ++ [x] := by simpa [List.concat_eq_append] using hst
            subst hst2
            have hstl : st'.length ≤ 1000000 := by have := HSS2.out; have := HI2.out.seen_le; have := HK2.out; simp at *; omega
            have hpop := pop_some base u8 st' x wr HL2.out.stk hstl
            have HP := Lib.hid hpop
            clear hpop hst
            go_wp2_with (first | (go_at_call 69; refine HP.out.mono ?_; rintro e w9 ⟨st9, rfl, hm9, hr9, hb9⟩; have HL9 := Lib.hid (HL2.out.pop hm9 hr9 hb9); clear hm9 hr9 hb9) | go_in)
            go_roundw
            case rel => exact ⟨x, Ks2, nx2, sts2, st', seen2, sv2, kv2, rfl, HL9, Lib.hid (Or.inr ⟨(HI2.out.stk x (by simp)).1, HI2.out.pop⟩), HK2, Lib.hid (by have := HSS2.out; simp at this; omega)⟩
            case measure =>
              have h3 := HMS2.out
              have h4 := seenSize_eq HL9.out.map HI2.out.sn
              obtain ⟨ao, cp, e⟩ := ownsRow_form HL9.out.stk
              have h5 : stkLen st9 = st'.length := by rw [e]; rfl
              have h6 : nz (.int .i64 (x : Int)) ≤ 1 := by unfold nz; split <;> omega
              rw [HM0.out, HZ1.out, h4, h5]
              simp only [List.length_append, List.length_singleton] at h3
              omega
end Go.Proofs.YtnpchkohfomagaaDoor.Rgw
