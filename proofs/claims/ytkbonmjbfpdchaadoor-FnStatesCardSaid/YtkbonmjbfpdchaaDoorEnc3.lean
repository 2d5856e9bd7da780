/- The encoder: encodeStateOne. -/
import Derived.Test.YtkbonmjbfpdchaaDoorEnc2
namespace Go.Proofs.YtkbonmjbfpdchaaDoor.Buf
open Go.ChangeShapes Go.WideShapes Go.ChangeAt Go.RowKit Go.Trav Go.Pk Go.Proofs.YtkbonmjbfpdchaaDoor.Node Go.Proofs.YtkbonmjbfpdchaaDoor.Common
set_option linter.unusedVariables false
set_option maxRecDepth 100000
theorem node_cells {w : World} {B n vb vo vc : Nat} {f : Bool} {fo : Int} {l : List Arc} {a : NA} {k : Nat} (h : NodeAt w B (.slice (some ⟨vb, vo, none⟩) n vc) f fo l) (hk : l[k]? = some (toArc a)) :
    w.cell? ⟨B, 0, none⟩ = some (.int .u64 fo) ∧ w.cell? ⟨B, 1, none⟩ = some (.slice (some ⟨vb, vo, none⟩) n vc) ∧ w.cell? ⟨B, 2, none⟩ = some (.bool f) ∧ w.cell? ⟨vb, vo + k * 3, none⟩ = some (.int .u64 a.2.1) ∧ w.cell? ⟨vb, vo + k * 3 + 1, none⟩ = some (.int .i64 a.2.2) ∧ w.cell? ⟨vb, vo + k * 3 + 2, none⟩ = some (.int .u8 a.1) := by
  obtain ⟨nxp, hB, hR⟩ := h.at
  have hkl : k < l.length := (List.getElem?_eq_some_iff.1 hk).1
  obtain ⟨vb', vo', vc', ii, io, it, e, e0, d0, d1, d2⟩ := trns_at hR hkl
  cases e
  rw [hk] at e0
  simp only [Option.some.injEq, toArc, Prod.mk.injEq] at e0
  obtain ⟨rfl, rfl, rfl⟩ := e0
  exact ⟨block_cell hB rfl, block_cell hB rfl, block_cell hB rfl, d0, d1, d2⟩
theorem node_slice {w : World} {B : Nat} {v : Value} {f : Bool} {fo : Int} {l : List Arc} (h : NodeAt w B v f fo l) (hl : 0 < l.length) : ∃ vb vo vc, v = .slice (some ⟨vb, vo, none⟩) l.length vc := by
  obtain ⟨nxp, hB, hR⟩ := h.at
  obtain ⟨vb, vo, vc, ii, io, it, e, _⟩ := trns_at hR hl
  exact ⟨vb, vo, vc, e⟩
theorem delta_lt {start t : Nat} (h : start < 18446744073709551616) : delta start t < 18446744073709551616 := by unfold delta; split <;> omega
set_option maxHeartbeats 1000000 in
theorem one_any (en u : Nat) (i : Ids) (bs : List Nat) (B : Nat) (v : Value) (f : Bool) (fo : Int) (a : NA) (w : World) (h : EOut w en u i bs) (hN : NodeAt w B v f fo [toArc a]) (hT : ∀ w', Mod (WF u i) w w' → TabAt w' 2 T0) (ha : NAok bs.length a) (hl : bs.length ≤ 4294950000)
    (hd : ∀ k, fp B v k → ¬ WF u i k) :
    Calls Tryd.prog 72 #[.pointer (some ⟨en, 0, none⟩), .pointer (some ⟨B, 0, none⟩)] w fun e w' => e = .returned (.tuple #[.int .i64 ((bs ++ oneB bs.length a).length - 1 : Nat), .nilIface]) ∧ EWent w w' en u i (bs ++ oneB bs.length a) := by
  obtain ⟨vb, vo, vc, rfl⟩ := node_slice hN (by simp)
  obtain ⟨ai, ao, at_⟩ := a
  obtain ⟨ha1, ha2, ha3⟩ := ha
  simp only at ha1 ha2 ha3
  have hcells : ∀ w', Mod (WF u i) w w' → NodeAt w' B (.slice (some ⟨vb, vo, none⟩) 1 vc) f fo [toArc (ai, ao, at_)] := fun w' hm => hN.mod hm hd
  have HCE := Lib.hid hcells
  obtain ⟨c0, c1, c2, d0, d1, d2⟩ := node_cells (HCE.out w (Mod.refl _ _)) (k := 0) rfl
  simp only [Nat.zero_mul, Nat.add_zero] at d0 d1 d2
  have cb0 : w.cell? ⟨en, 0, none⟩ = some (.pointer (some ⟨u, 0, none⟩)) := block_cell h.blk rfl
  have cu1 : w.cell? ⟨u, 1, none⟩ = some (.int .i64 bs.length) := block_cell h.out.blk rfl
  have hsb := size_bd ao
  have hdl : delta bs.length at_ < 18446744073709551616 := delta_lt (by omega)
  have hsd := size_bd (delta bs.length at_)
  have HDL := Lib.hid hdl
  have HA2 := Lib.hid ha2
  have H := Lib.hid h
  have HT := Lib.hid hT
  have HD := Lib.hid hd
  clear h hN hT hd hcells hdl ha2
  have hone : oneB bs.length (ai, ao, at_) = (if ao = 0 then [] else packed ao (size ao)) ++ packed (delta bs.length at_) (size (delta bs.length at_)) ++ [size (delta bs.length at_) * 16 + (if ao = 0 then 0 else size ao)] ++ finB 0 ai := rfl
  have HONE := Lib.hid hone
  clear hone
  by_cases hz : ao = 0
  · have hz0 : ((ao : Int) == 0) = true := beq_iff_eq.2 (by omega)
    have hz1 : ((ao : Int) != 0) = false := by simp [hz]
    have HZ := Lib.hid hz
    clear hz
    go_enter Tryd.func72, Tryd.ntmps72
    go_wp2_with fail
    refine (Common.del_any bs.length at_ w ha3 (by omega)).mono ?_
    rintro e wx ⟨rfl, rfl⟩
    rw [show (if at_ = 0 then 0 else bs.length - at_) = delta bs.length at_ from rfl]
    generalize hde : delta bs.length at_ = de at *
    have HDE := Lib.hid hde
    clear hde
    go_wp2_with fail
    refine (PkS.ps_any de w).mono ?_
    rintro e wx ⟨rfl, rfl⟩
    go_wp2_with fail
    refine (in_any u i bs de (size de) w H.out.out (by omega) HDL.out hsd.2).mono ?_
    rintro e w3 ⟨rfl, h3⟩
    obtain ⟨v3, hO3, hm3, hv3⟩ := H.out.went h3
    have r3 : w3.cell? ⟨en, 0, none⟩ = some (.pointer (some ⟨u, 0, none⟩)) := block_cell hO3.blk rfl
    have HO3 := Lib.hid hO3
    have HV3 := Lib.hid hv3
    clear h3 hO3 hv3
    go_wp2_with fail
    refine (Common.eps_any (size de) 0 w3 hsd.2 (by omega)).mono ?_
    rintro e wx ⟨rfl, rfl⟩
    go_wp2_with fail
    refine (wb_any u _ _ _ w3 HO3.out.out (by simp [packed_len]; omega) (by omega)).mono ?_
    rintro e w4 ⟨rfl, h4⟩
    obtain ⟨v4, hO4, hm4, hv4⟩ := EWent.trans hm3 HV3.out (HO3.out.went h4)
    have r4 : w4.cell? ⟨en, 0, none⟩ = some (.pointer (some ⟨u, 0, none⟩)) := block_cell hO4.blk rfl
    have HO4 := Lib.hid hO4
    have HV4 := Lib.hid hv4
    clear h4 hO4 hv4
    go_wp2_with fail
    refine (fin_any en u _ _ B _ f fo (ai, ao, at_) 0 w4 HO4.out (HCE.out w4 hm4) (HT.out w4 hm4) ha1 (Or.inl rfl) (by simp [packed_len]; omega) (fun k hk hF => HD.out k hk (WF_step (w := w) HV4.out k ((HCE.out w (Mod.refl _ _)).lt k hk) hF))).mono ?_
    rintro e w5 ⟨rfl, h5⟩
    have H5 := Lib.hid h5
    clear h5
    go_wp2_with fail
    go_ret2
    have hfin := EWent.trans hm4 HV4.out H5.out
    have e1 : oneB bs.length (ai, ao, at_) = (packed de (size de) ++ ([(size de * 16 + 0 : Nat)] ++ finB 0 ai)) := by
      rw [HONE.out, if_pos HZ.out, if_pos HZ.out]
      simp
    rw [e1]
    refine ⟨by simp, ?_⟩
    simpa [List.append_assoc, show ((size de : Int) * 16).toNat = size de * 16 by omega] using hfin
  · have hz0 : ((ao : Int) == 0) = false := beq_eq_false_iff_ne.2 (by omega)
    have hz1 : ((ao : Int) != 0) = true := by simp [hz]
    have HZ := Lib.hid hz
    clear hz
    go_enter Tryd.func72, Tryd.ntmps72
    go_wp2_with fail
    refine (PkS.ps_any ao w).mono ?_
    rintro e w1 ⟨rfl, rfl⟩
    go_wp2_with fail
    go_still_tail 12, (by kernel_rfl)
    change wpList _ _ _ _ _ w.drew
    go_wp2_with fail
    refine (in_any u i bs ao (size ao) w.drew (H.out.out.same rfl) (by omega) HA2.out hsb.2).mono ?_
    rintro e w2 ⟨rfl, h2⟩
    obtain ⟨v2, hO2, hm2, hv2⟩ := H.out.went (h2.of_same (mod_drew _ _))
    obtain ⟨p0, p1, p2, q0, q1, q2⟩ := node_cells (HCE.out w2 hm2) (k := 0) rfl
    simp only [Nat.zero_mul, Nat.add_zero] at q0 q1 q2
    have r0 : w2.cell? ⟨en, 0, none⟩ = some (.pointer (some ⟨u, 0, none⟩)) := block_cell hO2.blk rfl
    have HO2 := Lib.hid hO2
    have HV2 := Lib.hid hv2
    clear h2 hO2 hv2
    go_wp2_with fail
    refine (Common.del_any bs.length at_ w2 ha3 (by omega)).mono ?_
    rintro e wx ⟨rfl, rfl⟩
    rw [show (if at_ = 0 then 0 else bs.length - at_) = delta bs.length at_ from rfl]
    generalize hde : delta bs.length at_ = de at *
    have HDE := Lib.hid hde
    clear hde
    go_wp2_with fail
    refine (PkS.ps_any de w2).mono ?_
    rintro e wx ⟨rfl, rfl⟩
    go_wp2_with fail
    refine (in_any u _ (bs ++ packed ao (size ao)) de (size de) w2 HO2.out.out (by simp [packed_len]; omega) HDL.out hsd.2).mono ?_
    rintro e w3 ⟨rfl, h3⟩
    obtain ⟨v3, hO3, hm3, hv3⟩ := EWent.trans hm2 HV2.out (HO2.out.went h3)
    have r3 : w3.cell? ⟨en, 0, none⟩ = some (.pointer (some ⟨u, 0, none⟩)) := block_cell hO3.blk rfl
    have HO3 := Lib.hid hO3
    have HV3 := Lib.hid hv3
    clear h3 hO3 hv3
    go_wp2_with fail
    refine (Common.eps_any (size de) (size ao) w3 hsd.2 hsb.2).mono ?_
    rintro e wx ⟨rfl, rfl⟩
    go_wp2_with fail
    refine (wb_any u _ _ _ w3 HO3.out.out (by simp [packed_len]; omega) (by omega)).mono ?_
    rintro e w4 ⟨rfl, h4⟩
    obtain ⟨v4, hO4, hm4, hv4⟩ := EWent.trans hm3 HV3.out (HO3.out.went h4)
    have r4 : w4.cell? ⟨en, 0, none⟩ = some (.pointer (some ⟨u, 0, none⟩)) := block_cell hO4.blk rfl
    have HO4 := Lib.hid hO4
    have HV4 := Lib.hid hv4
    clear h4 hO4 hv4
    go_wp2_with fail
    refine (fin_any en u _ _ B _ f fo (ai, ao, at_) 0 w4 HO4.out (HCE.out w4 hm4) (HT.out w4 hm4) ha1 (Or.inl rfl) (by simp [packed_len]; omega) (fun k hk hF => HD.out k hk (WF_step (w := w) HV4.out k ((HCE.out w (Mod.refl _ _)).lt k hk) hF))).mono ?_
    rintro e w5 ⟨rfl, h5⟩
    have H5 := Lib.hid h5
    clear h5
    go_wp2_with fail
    go_ret2
    have hfin := EWent.trans hm4 HV4.out H5.out
    have e1 : oneB bs.length (ai, ao, at_) = packed ao (size ao) ++ (packed de (size de) ++ ([(size de * 16 + (size ao) : Nat)] ++ finB 0 ai)) := by
      rw [HONE.out, if_neg HZ.out, if_neg HZ.out]
      simp
    rw [e1]
    refine ⟨by simp, ?_⟩
    simpa [List.append_assoc, show ((size de : Int) * 16 + (size ao : Int)).toNat = size de * 16 + size ao by omega] using hfin
end Go.Proofs.YtkbonmjbfpdchaaDoor.Buf
