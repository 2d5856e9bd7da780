/- The encoder: states of one transition. -/
import Derived.Test.YtkbonmjbfpdchaaDoorEnc1
import Derived.Test.YtkbonmjbfpdchaaDoorCTab
import Derived.Test.YtkbonmjbfpdchaaDoorNode0
import Derived.Test.YtkbonmjbfpdchaaDoorPkSpec
namespace Go.Proofs.YtkbonmjbfpdchaaDoor.Buf
open Go.ChangeShapes Go.WideShapes Go.ChangeAt Go.RowKit Go.Trav Go.Pk Go.Proofs.YtkbonmjbfpdchaaDoor.Node Go.Proofs.YtkbonmjbfpdchaaDoor.Common
set_option linter.unusedVariables false
set_option maxRecDepth 100000
/-- An arc in natural numbers: its byte, its output, the address that it leads to. -/
abbrev NA := Nat × Nat × Nat
def toArc (a : NA) : Arc := ((a.1 : Int), (a.2.1 : Int), (a.2.2 : Int))
/-- An arc that can be encoded behind start. -/
def NAok (start : Nat) (a : NA) : Prop := a.1 < 256 ∧ a.2.1 < 18446744073709551616 ∧ a.2.2 ≤ start
def delta (start t : Nat) : Nat := if t = 0 then 0 else start - t
/-- The end of a state of one transition. -/
def finB (nx b : Nat) : List Nat := (if code b = 0 then [b] else []) ++ [128 + nx + code b]
def oneB (start : Nat) (a : NA) : List Nat :=
  (if a.2.1 = 0 then [] else packed a.2.1 (size a.2.1)) ++ packed (delta start a.2.2) (size (delta start a.2.2)) ++ [size (delta start a.2.2) * 16 + (if a.2.1 = 0 then 0 else size a.2.1)] ++ finB 0 a.1
theorem Out.same {w w' : World} {i : Ids} {bs : List Nat} (h : Out w i bs) (hh : w'.heap = w.heap) : Out w' i bs := by
  obtain ⟨d, p, e, hA⟩ := h; exact ⟨d, p, e, hA.same hh⟩
theorem WOut.same {w w' : World} {u : Nat} {i : Ids} {bs : List Nat} (h : WOut w u i bs) (hh : w'.heap = w.heap) : WOut w' u i bs :=
  ⟨by rw [hh]; exact h.blk, h.out.same hh, h.ne⟩
theorem EOut.same {w w' : World} {e u : Nat} {i : Ids} {bs : List Nat} (h : EOut w e u i bs) (hh : w'.heap = w.heap) : EOut w' e u i bs :=
  ⟨by rw [hh]; exact h.blk, h.out.same hh, h.ne⟩
theorem WWent.of_same {w w1 w2 : World} {u : Nat} {i : Ids} {bs : List Nat} (hh : Mod (fun _ => False) w w1) (h : WWent w1 w2 u i bs) : WWent w w2 u i bs := by
  obtain ⟨v, h1, h2, h3⟩ := h
  refine ⟨v, h1, (hh.mono fun _ _ h => h.elim).trans h2, ?_⟩
  rcases h3 with h | ⟨g, h, h'⟩
  · exact Or.inl h
  · exact Or.inr ⟨g, h, Nat.le_trans hh.size h'⟩
theorem mod_drew (F : Nat → Prop) (w : World) : Mod F w w.drew := mod_of_heap rfl rfl rfl rfl
theorem or128 : ∀ c : Fin 64, (bits BinOp.or IntKind.u8 (bits BinOp.or IntKind.u8 128 0) (c.val : Nat) = ((128 + 0 + c.val : Nat) : Int)) ∧ (bits BinOp.or IntKind.u8 (bits BinOp.or IntKind.u8 128 64) (c.val : Nat) = ((128 + 64 + c.val : Nat) : Int)) := by decide
theorem fin_any (en u : Nat) (i : Ids) (bs : List Nat) (B : Nat) (v : Value) (f : Bool) (fo : Int) (a : NA) (nx : Nat) (w : World) (h : EOut w en u i bs) (hN : NodeAt w B v f fo [toArc a]) (hT : TabAt w 2 T0) (ha : a.1 < 256) (hnx : nx = 0 ∨ nx = 64) (hl : bs.length ≤ 4294960000)
    (hd : ∀ k, fp B v k → ¬ WF u i k) :
    Calls Tryd.prog 71 #[.pointer (some ⟨en, 0, none⟩), .pointer (some ⟨B, 0, none⟩), .int .u8 nx] w fun e w' => e = .returned (.tuple #[.int .i64 ((bs ++ finB nx a.1).length - 1 : Nat), .nilIface]) ∧ EWent w w' en u i (bs ++ finB nx a.1) := by
  obtain ⟨nxp, hB, hR⟩ := hN.at
  obtain ⟨vb, vo, vc, ii, io, it, rfl, e0, d0, d1, d2⟩ := trns_at hR (k := 0) (by simp)
  obtain ⟨ai, ao, at_⟩ := a
  simp only [List.getElem?_cons_zero, Option.some.injEq, toArc, Prod.mk.injEq] at e0
  obtain ⟨rfl, rfl, rfl⟩ := e0
  simp only [Nat.zero_mul, Nat.add_zero] at d0 d1 d2
  have c1 : w.cell? ⟨B, 1, none⟩ = some (.slice (some ⟨vb, vo, none⟩) 1 vc) := block_cell hB rfl
  have cb0 : w.cell? ⟨en, 0, none⟩ = some (.pointer (some ⟨u, 0, none⟩)) := block_cell h.blk rfl
  have hcl := code_le ai
  have ho := or128 ⟨code ai, by omega⟩
  have HO := Lib.hid ho
  have H := Lib.hid h
  have HN := Lib.hid hN
  have HT := Lib.hid hT
  have HD := Lib.hid hd
  clear ho h hN hT hd hR hB
  rcases hnx with rfl | rfl
  · by_cases hc : code ai = 0
    · have hz : ((code ai : Int) == 0) = true := beq_iff_eq.2 (by omega)
      have hfin : finB 0 ai = [ai] ++ [128 + code ai] := by unfold finB; rw [if_pos hc]
      have HFIN := Lib.hid hfin
      have HC := Lib.hid hc
      clear hc hfin
      go_enter Tryd.func71, Tryd.ntmps71
      go_wp2_with fail
      refine (Common.enc_any ai w HT.out ha).mono ?_
      rintro e w1 ⟨rfl, rfl⟩
      go_wp2_with fail
      go_still_tail 11, (by kernel_rfl)
      change wpList _ _ _ _ _ w.drew
      go_wp2_with fail
      refine (wb_any u i bs ai w.drew (H.out.out.same rfl) (by omega) (by omega)).mono ?_
      rintro e w2 ⟨rfl, h2⟩
      obtain ⟨v2, hO2, hm2, hv2⟩ := H.out.went (h2.of_same (mod_drew _ _))
      have b0 : w2.cell? ⟨en, 0, none⟩ = some (.pointer (some ⟨u, 0, none⟩)) := block_cell hO2.blk rfl
      have HO2 := Lib.hid hO2
      have HV2 := Lib.hid hv2
      clear h2 hO2 hv2
      go_wp2_with fail
      refine (wb_any u _ (bs ++ [(ai : Int).toNat]) _ w2 HO2.out.out (by simp; omega) (by omega)).mono ?_
      rintro e w3 ⟨rfl, h3⟩
      obtain ⟨v3, hO3, hm3, hv3⟩ := (EWent.trans hm2 HV2.out (HO2.out.went h3))
      have b1 : w3.cell? ⟨en, 0, none⟩ = some (.pointer (some ⟨u, 0, none⟩)) := block_cell hO3.blk rfl
      have b2 : w3.cell? ⟨u, 1, none⟩ = some (.int .i64 ((bs.length : Int) + 2)) := by have := block_cell (i := 1) hO3.out.blk rfl; simpa using this
      have HO3 := Lib.hid hO3
      have HV3 := Lib.hid hv3
      clear h3 hO3 hv3
      go_wp2_with fail
      go_ret2
      rw [HFIN.out]
      refine ⟨?_, ?_⟩
      · rw [show (((bs ++ ([ai] ++ [128 + code ai])).length - 1 : Nat) : Int) = (bs.length : Int) + 2 - 1 by simp; omega]
        rfl
      · refine ⟨v3, ?_, hm3, HV3.out⟩
        have e1 : (128 + (code ai : Int)).toNat = 128 + code ai := by omega
        simpa [e1, List.append_assoc] using HO3.out
    · have hz : ((code ai : Int) == 0) = false := beq_eq_false_iff_ne.2 (by omega)
      have hfin : finB 0 ai = [128 + code ai] := by unfold finB; rw [if_neg hc]; rfl
      have HFIN := Lib.hid hfin
      have HC := Lib.hid hc
      clear hc hfin
      go_enter Tryd.func71, Tryd.ntmps71
      go_wp2_with fail
      refine (Common.enc_any ai w HT.out ha).mono ?_
      rintro e w1 ⟨rfl, rfl⟩
      go_wp2_with fail
      refine (wb_any u i bs _ w H.out.out (by omega) (by omega)).mono ?_
      rintro e w3 ⟨rfl, h3⟩
      obtain ⟨v3, hO3, hm3, hv3⟩ := H.out.went h3
      have b1 : w3.cell? ⟨en, 0, none⟩ = some (.pointer (some ⟨u, 0, none⟩)) := block_cell hO3.blk rfl
      have b2 : w3.cell? ⟨u, 1, none⟩ = some (.int .i64 ((bs.length : Int) + 1)) := by have := block_cell (i := 1) hO3.out.blk rfl; simpa using this
      have HO3 := Lib.hid hO3
      have HV3 := Lib.hid hv3
      clear h3 hO3 hv3
      go_wp2_with fail
      go_ret2
      rw [HFIN.out]
      refine ⟨?_, ?_⟩
      · rw [show (((bs ++ [128 + code ai]).length - 1 : Nat) : Int) = (bs.length : Int) by simp]
        rfl
      · refine ⟨v3, ?_, hm3, HV3.out⟩
        have e1 : (128 + (code ai : Int)).toNat = 128 + code ai := by omega
        simpa [e1, List.append_assoc] using HO3.out
  · by_cases hc : code ai = 0
    · have hz : ((code ai : Int) == 0) = true := beq_iff_eq.2 (by omega)
      have hfin : finB 64 ai = [ai] ++ [192 + code ai] := by unfold finB; rw [if_pos hc]
      have HFIN := Lib.hid hfin
      have HC := Lib.hid hc
      clear hc hfin
      go_enter Tryd.func71, Tryd.ntmps71
      go_wp2_with fail
      refine (Common.enc_any ai w HT.out ha).mono ?_
      rintro e w1 ⟨rfl, rfl⟩
      go_wp2_with fail
      go_still_tail 11, (by kernel_rfl)
      change wpList _ _ _ _ _ w.drew
      go_wp2_with fail
      refine (wb_any u i bs ai w.drew (H.out.out.same rfl) (by omega) (by omega)).mono ?_
      rintro e w2 ⟨rfl, h2⟩
      obtain ⟨v2, hO2, hm2, hv2⟩ := H.out.went (h2.of_same (mod_drew _ _))
      have b0 : w2.cell? ⟨en, 0, none⟩ = some (.pointer (some ⟨u, 0, none⟩)) := block_cell hO2.blk rfl
      have HO2 := Lib.hid hO2
      have HV2 := Lib.hid hv2
      clear h2 hO2 hv2
      go_wp2_with fail
      refine (wb_any u _ (bs ++ [(ai : Int).toNat]) _ w2 HO2.out.out (by simp; omega) (by rw [HO.out.2]; omega)).mono ?_
      rintro e w3 ⟨rfl, h3⟩
      obtain ⟨v3, hO3, hm3, hv3⟩ := (EWent.trans hm2 HV2.out (HO2.out.went h3))
      have b1 : w3.cell? ⟨en, 0, none⟩ = some (.pointer (some ⟨u, 0, none⟩)) := block_cell hO3.blk rfl
      have b2 : w3.cell? ⟨u, 1, none⟩ = some (.int .i64 ((bs.length : Int) + 2)) := by have := block_cell (i := 1) hO3.out.blk rfl; simpa using this
      have HO3 := Lib.hid hO3
      have HV3 := Lib.hid hv3
      clear h3 hO3 hv3
      go_wp2_with fail
      go_ret2
      rw [HFIN.out]
      refine ⟨?_, ?_⟩
      · rw [show (((bs ++ ([ai] ++ [192 + code ai])).length - 1 : Nat) : Int) = (bs.length : Int) + 2 - 1 by simp; omega]
        rfl
      · refine ⟨v3, ?_, hm3, HV3.out⟩
        have := HO3.out
        rw [HO.out.2, Int.toNat_natCast] at this
        simpa [List.append_assoc, show (192 + (code ai : Int)).toNat = 192 + code ai by omega] using this
    · have hz : ((code ai : Int) == 0) = false := beq_eq_false_iff_ne.2 (by omega)
      have hfin : finB 64 ai = [192 + code ai] := by unfold finB; rw [if_neg hc]; rfl
      have HFIN := Lib.hid hfin
      have HC := Lib.hid hc
      clear hc hfin
      go_enter Tryd.func71, Tryd.ntmps71
      go_wp2_with fail
      refine (Common.enc_any ai w HT.out ha).mono ?_
      rintro e w1 ⟨rfl, rfl⟩
      go_wp2_with fail
      refine (wb_any u i bs _ w H.out.out (by omega) (by rw [HO.out.2]; omega)).mono ?_
      rintro e w3 ⟨rfl, h3⟩
      obtain ⟨v3, hO3, hm3, hv3⟩ := H.out.went h3
      have b1 : w3.cell? ⟨en, 0, none⟩ = some (.pointer (some ⟨u, 0, none⟩)) := block_cell hO3.blk rfl
      have b2 : w3.cell? ⟨u, 1, none⟩ = some (.int .i64 ((bs.length : Int) + 1)) := by have := block_cell (i := 1) hO3.out.blk rfl; simpa using this
      have HO3 := Lib.hid hO3
      have HV3 := Lib.hid hv3
      clear h3 hO3 hv3
      go_wp2_with fail
      go_ret2
      rw [HFIN.out]
      refine ⟨?_, ?_⟩
      · rw [show (((bs ++ [192 + code ai]).length - 1 : Nat) : Int) = (bs.length : Int) by simp]
        rfl
      · refine ⟨v3, ?_, hm3, HV3.out⟩
        have := HO3.out
        rw [HO.out.2, Int.toNat_natCast] at this
        simpa [List.append_assoc, show (192 + (code ai : Int)).toNat = 192 + code ai by omega] using this
end Go.Proofs.YtkbonmjbfpdchaaDoor.Buf
