/- The encoder: encodeStateMany, what it writes; its first loop. -/
import Derived.Test.YtkbonmjbfpdchaaDoorEnc3
import Derived.Deep.DeepCutAuto
namespace Go.Proofs.YtkbonmjbfpdchaaDoor.Buf
open Go.ChangeShapes Go.WideShapes Go.ChangeAt Go.RowKit Go.Trav Go.Pk Go.Proofs.YtkbonmjbfpdchaaDoor.Node Go.Proofs.YtkbonmjbfpdchaaDoor.Common
set_option linter.unusedVariables false
set_option linter.unusedSimpArgs false
set_option maxRecDepth 100000
def maxN (m s : Nat) : Nat := if m < s then s else m
/-- How many bytes an address' distance takes, at most; an output; whether there is any output. -/
def farL (start : Nat) (l : List NA) : Nat := l.foldl (fun m a => maxN m (size (delta start a.2.2))) 0
def outL (fo : Nat) (l : List NA) : Nat := l.foldl (fun m a => maxN m (size a.2.1)) (size fo)
def anyL (fo : Nat) (l : List NA) : Bool := fo != 0 || l.any fun a => a.2.1 != 0
theorem maxN_le {m s k : Nat} (h : m ≤ k) (h2 : s ≤ k) : maxN m s ≤ k := by unfold maxN; split <;> assumption
theorem farL_snoc (start : Nat) (l : List NA) (a : NA) : farL start (l ++ [a]) = maxN (farL start l) (size (delta start a.2.2)) := by simp [farL]
theorem outL_snoc (fo : Nat) (l : List NA) (a : NA) : outL fo (l ++ [a]) = maxN (outL fo l) (size a.2.1) := by simp [outL]
theorem anyL_snoc (fo : Nat) (l : List NA) (a : NA) : anyL fo (l ++ [a]) = (anyL fo l || a.2.1 != 0) := by simp [anyL, Bool.or_assoc]
theorem foldl_maxN_le {g : NA → Nat} (hg : ∀ a, g a ≤ 8) (l : List NA) (m : Nat) (hm : m ≤ 8) : l.foldl (fun m a => maxN m (g a)) m ≤ 8 := by
  induction l generalizing m with
  | nil => exact hm
  | cons a r ih => exact ih _ (maxN_le hm (hg a))
theorem farL_le (start : Nat) (l : List NA) : farL start l ≤ 8 := foldl_maxN_le (fun a => (size_bd _).2) l 0 (by omega)
theorem outL_le (fo : Nat) (l : List NA) : outL fo l ≤ 8 := foldl_maxN_le (fun a => (size_bd _).2) l _ (size_bd _).2
/-- The bytes of a state with any number of transitions, of which start stand ahead. -/
def outP (fo : Nat) (l : List NA) : Nat := if anyL fo l then outL fo l else 0
def outsB (f : Bool) (fo : Nat) (l : List NA) : List Nat := if anyL fo l then (if f then packed fo (outL fo l) else []) ++ l.reverse.flatMap (fun a => packed a.2.1 (outL fo l)) else []
def destsB (start : Nat) (l : List NA) : List Nat := l.reverse.flatMap fun a => packed (delta start a.2.2) (farL start l)
def keysB (l : List NA) : List Nat := l.reverse.map (·.1)
def numB (n : Nat) : Nat := if n ≤ 63 then n else 0
def extraB (n : Nat) : List Nat := if numB n = 0 then (if n = 256 then [1] else [n % 256]) else []
def manyB (start : Nat) (f : Bool) (fo : Nat) (l : List NA) : List Nat :=
  outsB f fo l ++ destsB start l ++ keysB l ++ [farL start l * 16 + outP fo l] ++ extraB l.length ++ [numB l.length + (if f then 64 else 0)]
theorem EOut.refl {w : World} {en u : Nat} {i : Ids} {bs : List Nat} (h : EOut w en u i bs) : EWent w w en u i bs := ⟨i.v, h, Mod.refl _ _, Or.inl rfl⟩
theorem len_flat (g : NA → List Nat) (l : List NA) (h : ∀ a, (g a).length ≤ 8) : (l.flatMap g).length ≤ 8 * l.length := by
  induction l with
  | nil => simp
  | cons a r ih => have := h a; simp only [List.flatMap_cons, List.length_append, List.length_cons]; omega
theorem or64 : ∀ c : Fin 64, bits BinOp.or IntKind.u8 (c.val : Nat) 64 = ((c.val + 64 : Nat) : Int) := by decide
theorem outsB_len (f : Bool) (fo : Nat) (l : List NA) (hl : l.length ≤ 256) : (outsB f fo l).length ≤ 2056 := by
  unfold outsB
  split
  · have h1 := outL_le fo l
    have h2 := len_flat (fun a : NA => packed a.2.1 (outL fo l)) l.reverse (by intro a; rw [packed_len]; exact h1)
    rw [List.length_reverse] at h2
    rw [List.length_append]
    split
    · rw [packed_len]; omega
    · simp only [List.length_nil]; omega
  · simp
theorem manyB_len (start : Nat) (f : Bool) (fo : Nat) (l : List NA) (hl : l.length ≤ 256) : 1 ≤ (manyB start f fo l).length ∧ (manyB start f fo l).length ≤ 5000 := by
  have h1 := outsB_len f fo l hl
  have h2 := len_flat (fun a : NA => packed (delta start a.2.2) (farL start l)) l.reverse (by intro a; rw [packed_len]; exact farL_le start l)
  rw [List.length_reverse] at h2
  have h3 : (extraB l.length).length ≤ 1 := by unfold extraB; split; split <;> simp; simp
  unfold manyB destsB keysB
  simp only [List.length_append, List.length_map, List.length_reverse, List.length_singleton]
  omega
theorem flat_one (l : List NA) : (l.flatMap fun a => [a.1]) = l.map (·.1) := by induction l with | nil => rfl | cons a r ih => simp [List.flatMap_cons, ih]
theorem drop_pred {l : List NA} {j : Nat} {a : NA} (h : l[j]? = some a) : (l.drop j).reverse = (l.drop (j + 1)).reverse ++ [a] := by
  obtain ⟨hj, rfl⟩ := List.getElem?_eq_some_iff.1 h
  rw [List.drop_eq_getElem_cons hj, List.reverse_cons]
/-- From a state on the way one step further. -/
theorem EWent.step {w w1 w2 : World} {en u : Nat} {i : Ids} {v1 : Value} {bs bs' : List Nat} (h1 : EOut w1 en u { i with v := v1 } bs) (hm : Mod (WF u i) w w1) (hv : v1.ownBlock = i.v.ownBlock ∨ ∃ g, v1.ownBlock = some g ∧ w.heap.size ≤ g) (h : WWent w1 w2 u { i with v := v1 } bs') : EWent w w2 en u i bs' :=
  EWent.trans hm hv (h1.went h)
theorem sizes_at {l : List NA} {k : Nat} {a : NA} (hk : l[k]? = some a) : (l.map toArc)[k]? = some (toArc a) := by simp [hk]
set_option maxHeartbeats 40000000 in
theorem many_one (en u : Nat) (i : Ids) (bs : List Nat) (B : Nat) (v : Value) (f : Bool) (fo : Nat) (l : List NA) (w : World) (h : EOut w en u i bs) (hN : NodeAt w B v f fo (l.map toArc)) (ha : ∀ a ∈ l, NAok bs.length a) (hl : bs.length ≤ 4294900000) (hn : l.length ≤ 256) (hfo : fo < 18446744073709551616)
    (hd : ∀ k, fp B v k → ¬ WF u i k) :
    Calls Tryd.prog 70 #[.pointer (some ⟨en, 0, none⟩), .pointer (some ⟨B, 0, none⟩)] w fun e w' => e = .returned (.tuple #[.int .i64 ((bs ++ manyB bs.length f fo l).length - 1 : Nat), .nilIface]) ∧ EWent w w' en u i (bs ++ manyB bs.length f fo l) := by
  obtain ⟨nxp, hB, hR⟩ := hN.at
  rw [List.length_map] at hR
  obtain ⟨va, vc, rfl⟩ := hR.form
  have c0 : w.cell? ⟨B, 0, none⟩ = some (.int .u64 fo) := block_cell hB rfl
  have c1 : w.cell? ⟨B, 1, none⟩ = some (.slice va l.length vc) := block_cell hB rfl
  have c2 : w.cell? ⟨B, 2, none⟩ = some (.bool f) := block_cell hB rfl
  have cb0 : w.cell? ⟨en, 0, none⟩ = some (.pointer (some ⟨u, 0, none⟩)) := block_cell h.blk rfl
  have cu1 : w.cell? ⟨u, 1, none⟩ = some (.int .i64 bs.length) := block_cell h.out.blk rfl
  have HA := Lib.hid ha
  have HFO := Lib.hid hfo
  have H := Lib.hid h
  have HD := Lib.hid hd
  have HN := Lib.hid hN
  have HCE := Lib.hid (show ∀ w', Mod (WF u i) w w' → NodeAt w' B (.slice va l.length vc) f fo (l.map toArc) from fun w' hm => hN.mod hm hd)
  generalize hnl : l.length = n at *
  have HNL := Lib.hid hnl
  clear h hN hd hR hB ha hnl
  have hfz : ((fo : Int) != 0) = (fo != 0) := by rw [Bool.eq_iff_iff]; simp
  have HFZ := Lib.hid hfz
  clear hfz
  have hfb : ∃ b, ((fo : Int) != 0) = b ∧ b = (fo != 0) := ⟨_, rfl, HFZ.out⟩
  obtain ⟨b0, hb0, hb1⟩ := hfb
  have HB1 := Lib.hid hb1
  clear hb1
  go_enter Tryd.func70, Tryd.ntmps70
  go_wp2_with fail
  refine (PkS.ps_any fo w).mono ?_
  rintro e w1 ⟨rfl, rfl⟩
  go_wp2_with fail
  go_loop [7, 8, 9, 48] (fun s7 s8 s9 s48 => ∃ (k m o : Nat) (b : Bool), s48 = .int .i64 k ∧ s7 = .int .i64 m ∧ s8 = .int .i64 o ∧ s9 = .bool b ∧ k ≤ n ∧ Hid (m = farL bs.length (l.take k)) ∧ Hid (o = outL fo (l.take k)) ∧ Hid (b = anyL fo (l.take k)) ∧ m ≤ 8 ∧ o ≤ 8) (fun _ _ _ s48 => n - (intOf s48).toNat)
  case atStart => exact ⟨0, 0, size fo, b0, rfl, rfl, rfl, rfl, Nat.zero_le _, Lib.hid rfl, Lib.hid rfl, Lib.hid (by simp [anyL, HB1.out]), by omega, (size_bd fo).2⟩
  case round =>
    obtain ⟨k, m, o, b, rfl, rfl, rfl, rfl, hk, HM, HO, HB, hm8, ho8⟩ := hrel
    by_cases hlt : k < n
    · have hk' : k < l.length := by rw [HNL.out]; exact hlt
      obtain ⟨⟨ai, ao, at_⟩, hq⟩ : ∃ a, l[k]? = some a := ⟨l[k], List.getElem?_eq_getElem hk'⟩
      obtain ⟨ha1, ha2, ha3⟩ := HA.out _ (List.mem_of_getElem? hq)
      have HQ := Lib.hid hq
      have hnn : (l.map toArc).length = n := by rw [List.length_map]; exact HNL.out
      obtain ⟨vb, vo, vc', hv⟩ := node_slice HN.out (by omega)
      rw [hnn] at hv
      cases hv
      obtain ⟨-, -, -, d0, d1, d2⟩ := node_cells HN.out (sizes_at hq)
      have HA2 := Lib.hid (show ao < 18446744073709551616 from ha2)
      have HA3 := Lib.hid (show at_ ≤ bs.length from ha3)
      have HA1 := Lib.hid (show ai < 256 from ha1)
      have hA3 : at_ ≤ bs.length := ha3
      clear hq ha1 ha2 ha3 hnn
      have hs1 := size_bd (delta bs.length at_)
      have hs2 := size_bd ao
      have hfar : farL bs.length (l.take (k + 1)) = maxN m (size (delta bs.length at_)) := by rw [take_snoc' _ _ _ HQ.out, farL_snoc, HM.out]
      have hout : outL fo (l.take (k + 1)) = maxN o (size ao) := by rw [take_snoc' _ _ _ HQ.out, outL_snoc, HO.out]
      have hany : anyL fo (l.take (k + 1)) = (b || ao != 0) := by rw [take_snoc' _ _ _ HQ.out, anyL_snoc, HB.out]
      have HFAR := Lib.hid hfar
      have HOUT := Lib.hid hout
      have HANY := Lib.hid hany
      clear hfar hout hany
      by_cases t1 : m < size (delta bs.length at_)
      all_goals by_cases t2 : o < size ao
      all_goals cases b
      all_goals
        as_aux_lemma =>
          go_wp2_with fail
          refine (Common.del_any bs.length at_ w HA3.out (by omega)).mono ?_
          rintro e wx ⟨rfl, rfl⟩
          rw [show (if at_ = 0 then 0 else bs.length - at_) = delta bs.length at_ from rfl]
          go_wp2_with fail
          refine (PkS.ps_any (delta bs.length at_) w).mono ?_
          rintro e wx ⟨rfl, rfl⟩
          go_wp2_with fail
          refine (PkS.ps_any ao w).mono ?_
          rintro e wx ⟨rfl, rfl⟩
          go_wp2_with fail
          go_round
          case rel =>
            refine ⟨k + 1, maxN m (size (delta bs.length at_)), maxN o (size ao), _, by go_num, ?_, ?_, rfl, by omega, Lib.hid HFAR.out.symm, Lib.hid HOUT.out.symm, Lib.hid ?_, maxN_le hm8 hs1.2, maxN_le ho8 hs2.2⟩
            · first | rw [show maxN m (size (delta bs.length at_)) = _ from if_pos t1] | rw [show maxN m (size (delta bs.length at_)) = _ from if_neg t1]
            · first | rw [show maxN o (size ao) = _ from if_pos t2] | rw [show maxN o (size ao) = _ from if_neg t2]
            · rw [HANY.out]
              simp [show ((ao : Int) != 0) = (ao != 0) from by rw [Bool.eq_iff_iff]; simp]
          case measure => simp [intOf] <;> omega
    · obtain rfl : n = k := by omega
      have htk : l.take n = l := List.take_of_length_le (by rw [HNL.out]; exact Nat.le_refl _)
      have hM : m = farL bs.length l := by rw [HM.out, htk]
      have hO : o = outL fo l := by rw [HO.out, htk]
      have hB : b = anyL fo l := by rw [HB.out, htk]
      have HM := Lib.hid hM
      have HO := Lib.hid hO
      have HBB := Lib.hid hB
      have hp : outP fo l = if b then o else 0 := by rw [hB, hO]; rfl
      have HP := Lib.hid hp
      clear htk hM hO hB hp
      go_upto_if 95 with (fail)
      go_cut [8] (fun s8 wx => s8 = .int .i64 (outP fo l) ∧ w = wx)
      case first =>
        cases b
        all_goals
          go_wp2_with fail
          go_meet
          exact ⟨by rw [HP.out]; rfl, rfl⟩
      case rest =>
        obtain ⟨rfl, rfl⟩ := hcut
        go_upto_if 96 with (fail)
        go_cut [] (fun wx => Hid (EWent w wx en u i (bs ++ outsB f fo l)))
        case first =>
          as_aux_lemma =>
            cases b with
            | false =>
              go_wp2_with fail
              go_meet
              have ha : anyL fo l = false := HBB.out.symm
              exact Lib.hid (by unfold outsB; rw [if_neg (by rw [ha]; simp), List.append_nil]; exact H.out.refl)
            | true =>
              have HAN := Lib.hid (show anyL fo l = true from HBB.out.symm)
              have HOP := Lib.hid (show outP fo l = outL fo l by unfold outP; rw [if_pos HAN.out])
              have hop8 : outP fo l ≤ 8 := by rw [HOP.out]; exact outL_le fo l
              cases f with
              | false =>
                as_aux_lemma =>
                  go_wp2_with fail
                  go_loopw [15] (fun sj wr => ∃ k : Nat, sj = .int .i64 ((k : Int) - 1) ∧ k ≤ n ∧ Hid (EWent w wr en u i (bs ++ (l.drop k).reverse.flatMap fun a => packed a.2.1 (outP fo l)))) (fun sj _ => (intOf sj + 1).toNat)
                  case atStart => exact ⟨n, rfl, Nat.le_refl _, Lib.hid (by rw [List.drop_of_length_le (by rw [HNL.out]; exact Nat.le_refl _)]; simpa using H.out.refl)⟩
                  case round =>
                    obtain ⟨k, rfl, hk, HW⟩ := hrel
                    cases k with
                    | zero =>
                      simp only [Int.natCast_zero, Int.zero_sub]
                      rw [List.drop_zero] at HW
                      go_wp2_with fail
                      go_meet
                      exact Lib.hid (by have := HW.out; unfold outsB; rw [if_pos HAN.out, ← HOP.out]; simpa [List.append_assoc] using this)
                    | succ j =>
                      obtain ⟨v1, hO, hm, hv⟩ := HW
                      have HO1 := Lib.hid hO
                      have HV1 := Lib.hid hv
                      have HM1 := Lib.hid hm
                      have r0 : wr.cell? ⟨en, 0, none⟩ = some (.pointer (some ⟨u, 0, none⟩)) := block_cell hO.blk rfl
                      clear hO hv hm
                      rw [show ((j + 1 : Nat) : Int) - 1 = (j : Int) by omega]
                      have hj : j < l.length := by rw [HNL.out]; omega
                      obtain ⟨⟨ai, ao, at_⟩, hq⟩ : ∃ a, l[j]? = some a := ⟨l[j], List.getElem?_eq_getElem hj⟩
                      obtain ⟨ha1, ha2, ha3⟩ := HA.out _ (List.mem_of_getElem? hq)
                      have HQ := Lib.hid hq
                      have hnn : (l.map toArc).length = n := by rw [List.length_map]; exact HNL.out
                      obtain ⟨vb, vo, vc', hv⟩ := node_slice HN.out (by omega)
                      rw [hnn] at hv
                      cases hv
                      obtain ⟨-, p1, -, d0, d1, d2⟩ := node_cells (HCE.out wr HM1.out) (sizes_at hq)
                      have HA2 := Lib.hid (show ao < 18446744073709551616 from ha2)
                      have hA1 : ai < 256 := ha1
                      have hA3 : at_ ≤ bs.length := ha3
                      have hI1 : (0 : Int) ≤ (j : Int) := by omega
                      have hI2 : (j : Int) < n := by omega
                      have hlen := len_flat (fun a : NA => packed a.2.1 (outP fo l)) (l.drop (j + 1)).reverse (by intro a; rw [packed_len]; exact hop8)
                      have HLEN := Lib.hid (show ((l.drop (j + 1)).reverse.flatMap fun a => packed a.2.1 (outP fo l)).length ≤ 2048 by rw [List.length_reverse, List.length_drop, HNL.out] at hlen; omega)
                      clear hq ha1 ha2 ha3 hnn hj hlen
                      go_wp2_with fail
                      go_still_tail 13, (by kernel_rfl)
                      change wpList _ _ _ _ _ wr.drew
                      go_wp2_with fail
                      refine (in_any u _ _ ao (outP fo l) wr.drew (HO1.out.out.same rfl) (by have := HLEN.out; simp only [List.length_append, packed_len, List.length_nil]; omega) HA2.out hop8).mono ?_
                      rintro e w2 ⟨rfl, h2⟩
                      have H2 := Lib.hid (EWent.step HO1.out HM1.out HV1.out (h2.of_same (mod_drew _ _)))
                      clear h2
                      go_wp2_with fail
                      go_roundw
                      case rel => exact ⟨j, rfl, by omega, Lib.hid (by have := H2.out; rw [drop_pred HQ.out]; simpa [List.append_assoc] using this)⟩
                      case measure => simp [intOf] <;> omega
              | true =>
                as_aux_lemma =>
                  go_wp2_with fail
                  go_still_tail 9, (by kernel_rfl)
                  change wpList _ _ _ _ _ w.drew
                  go_wp2_with fail
                  refine (in_any u i bs fo (outP fo l) w.drew (H.out.out.same rfl) (by omega) HFO.out hop8).mono ?_
                  rintro e w1 ⟨rfl, h1⟩
                  have H1 := Lib.hid (H.out.went (h1.of_same (mod_drew _ _)))
                  clear h1
                  have p0 : w1.cell? ⟨B, 1, none⟩ = some (.slice va n vc) := by
                    obtain ⟨v1, hO, hm, hv⟩ := H1.out
                    obtain ⟨_, hB, _⟩ := (HCE.out w1 hm).at
                    exact block_cell hB rfl
                  go_wp2_with fail
                  go_loopw [15] (fun sj wr => ∃ k : Nat, sj = .int .i64 ((k : Int) - 1) ∧ k ≤ n ∧ Hid (EWent w wr en u i (bs ++ packed fo (outP fo l) ++ (l.drop k).reverse.flatMap fun a => packed a.2.1 (outP fo l)))) (fun sj _ => (intOf sj + 1).toNat)
                  case atStart => exact ⟨n, rfl, Nat.le_refl _, Lib.hid (by rw [List.drop_of_length_le (by rw [HNL.out]; exact Nat.le_refl _)]; simpa using H1.out)⟩
                  case round =>
                    obtain ⟨k, rfl, hk, HW⟩ := hrel
                    cases k with
                    | zero =>
                      simp only [Int.natCast_zero, Int.zero_sub]
                      rw [List.drop_zero] at HW
                      go_wp2_with fail
                      go_meet
                      exact Lib.hid (by have := HW.out; unfold outsB; rw [if_pos HAN.out, ← HOP.out]; simpa [List.append_assoc] using this)
                    | succ j =>
                      obtain ⟨v1, hO, hm, hv⟩ := HW
                      have HO1 := Lib.hid hO
                      have HV1 := Lib.hid hv
                      have HM1 := Lib.hid hm
                      have r0 : wr.cell? ⟨en, 0, none⟩ = some (.pointer (some ⟨u, 0, none⟩)) := block_cell hO.blk rfl
                      clear hO hv hm
                      rw [show ((j + 1 : Nat) : Int) - 1 = (j : Int) by omega]
                      have hj : j < l.length := by rw [HNL.out]; omega
                      obtain ⟨⟨ai, ao, at_⟩, hq⟩ : ∃ a, l[j]? = some a := ⟨l[j], List.getElem?_eq_getElem hj⟩
                      obtain ⟨ha1, ha2, ha3⟩ := HA.out _ (List.mem_of_getElem? hq)
                      have HQ := Lib.hid hq
                      have hnn : (l.map toArc).length = n := by rw [List.length_map]; exact HNL.out
                      obtain ⟨vb, vo, vc', hv⟩ := node_slice HN.out (by omega)
                      rw [hnn] at hv
                      cases hv
                      obtain ⟨-, p1, -, d0, d1, d2⟩ := node_cells (HCE.out wr HM1.out) (sizes_at hq)
                      have HA2 := Lib.hid (show ao < 18446744073709551616 from ha2)
                      have hA1 : ai < 256 := ha1
                      have hA3 : at_ ≤ bs.length := ha3
                      have hI1 : (0 : Int) ≤ (j : Int) := by omega
                      have hI2 : (j : Int) < n := by omega
                      have hlen := len_flat (fun a : NA => packed a.2.1 (outP fo l)) (l.drop (j + 1)).reverse (by intro a; rw [packed_len]; exact hop8)
                      have HLEN := Lib.hid (show ((l.drop (j + 1)).reverse.flatMap fun a => packed a.2.1 (outP fo l)).length ≤ 2048 by rw [List.length_reverse, List.length_drop, HNL.out] at hlen; omega)
                      clear hq ha1 ha2 ha3 hnn hj hlen
                      go_wp2_with fail
                      go_still_tail 13, (by kernel_rfl)
                      change wpList _ _ _ _ _ wr.drew
                      go_wp2_with fail
                      refine (in_any u _ _ ao (outP fo l) wr.drew (HO1.out.out.same rfl) (by have := HLEN.out; simp only [List.length_append, packed_len, List.length_nil]; omega) HA2.out hop8).mono ?_
                      rintro e w2 ⟨rfl, h2⟩
                      have H2 := Lib.hid (EWent.step HO1.out HM1.out HV1.out (h2.of_same (mod_drew _ _)))
                      clear h2
                      go_wp2_with fail
                      go_roundw
                      case rel => exact ⟨j, rfl, by omega, Lib.hid (by have := H2.out; rw [drop_pred HQ.out]; simpa [List.append_assoc] using this)⟩
                      case measure => simp [intOf] <;> omega
        case rest =>
          have HOP8 := Lib.hid (show outP fo l ≤ 8 by unfold outP; split; exact outL_le fo l; omega)
          have HOL := Lib.hid (show (outsB f fo l).length ≤ 2056 by
            unfold outsB
            split
            · have h1 := outL_le fo l
              have h2 := len_flat (fun a : NA => packed a.2.1 (outL fo l)) l.reverse (by intro a; rw [packed_len]; exact h1)
              rw [List.length_reverse, HNL.out] at h2
              rw [List.length_append]
              split
              · rw [packed_len]; omega
              · simp only [List.length_nil]; omega
            · simp)
          have p9 : wc.cell? ⟨B, 1, none⟩ = some (.slice va n vc) := by
            obtain ⟨v1, hO, hm, hv⟩ := hcut.out
            obtain ⟨_, hB, _⟩ := (HCE.out wc hm).at
            exact block_cell hB rfl
          go_wp2_with fail
          go_loopw [17] (fun sj wr => ∃ k : Nat, sj = .int .i64 ((k : Int) - 1) ∧ k ≤ n ∧ Hid (EWent w wr en u i (bs ++ outsB f fo l ++ (l.drop k).reverse.flatMap fun a => packed (delta bs.length a.2.2) m))) (fun sj _ => (intOf sj + 1).toNat)
          case atStart => exact ⟨n, rfl, Nat.le_refl _, Lib.hid (by rw [List.drop_of_length_le (by rw [HNL.out]; exact Nat.le_refl _)]; simpa using hcut.out)⟩
          case round =>
            obtain ⟨k, rfl, hk, HW⟩ := hrel
            cases k with
            | zero =>
              simp only [Int.natCast_zero, Int.zero_sub]
              rw [List.drop_zero] at HW
              have H3 := Lib.hid HW.out
              have p1 : wr.cell? ⟨B, 1, none⟩ = some (.slice va n vc) := by
                obtain ⟨v1, hO, hm, hv⟩ := H3.out
                obtain ⟨_, hB, _⟩ := (HCE.out wr hm).at
                exact block_cell hB rfl
              have HDL := Lib.hid (show (l.reverse.flatMap fun a => packed (delta bs.length a.2.2) m).length ≤ 2048 by have := len_flat (fun a : NA => packed (delta bs.length a.2.2) m) l.reverse (by intro a; rw [packed_len]; exact hm8); rw [List.length_reverse, HNL.out] at this; omega)
              clear HW
              obtain ⟨wo, rfl⟩ : ∃ wo : World, wo = wr := ⟨_, rfl⟩
              go_wp2_with fail
              go_loopw [20] (fun sj wr => ∃ k : Nat, sj = .int .i64 ((k : Int) - 1) ∧ k ≤ n ∧ Hid (EWent w wr en u i (bs ++ outsB f fo l ++ (l.reverse.flatMap fun a => packed (delta bs.length a.2.2) m) ++ (l.drop k).reverse.flatMap fun a => [a.1]))) (fun sj _ => (intOf sj + 1).toNat)
              case atStart => exact ⟨n, rfl, Nat.le_refl _, Lib.hid (by rw [List.drop_of_length_le (by rw [HNL.out]; exact Nat.le_refl _)]; simpa using H3.out)⟩
              case round =>
                obtain ⟨k, rfl, hk, HW⟩ := hrel
                cases k with
                | zero =>
                  simp only [Int.natCast_zero, Int.zero_sub]
                  rw [List.drop_zero] at HW
                  obtain ⟨v4, hO4, hm4, hv4⟩ := HW
                  have r4 : wr.cell? ⟨en, 0, none⟩ = some (.pointer (some ⟨u, 0, none⟩)) := block_cell hO4.blk rfl
                  have HO4 := Lib.hid hO4
                  have HV4 := Lib.hid hv4
                  have HM4 := Lib.hid hm4
                  clear hO4 hv4 hm4
                  have HKL := Lib.hid (show (l.reverse.flatMap fun a : NA => [a.1]).length ≤ 256 by rw [flat_one, List.length_map, List.length_reverse, HNL.out]; omega)
                  cases f with
                  | false =>
                    by_cases hA : 1 ≤ n ∧ n ≤ 63
                    · as_aux_lemma =>
                        have hnum : numB n = n := by unfold numB; rw [if_pos (by omega)]
                        have hext : extraB n = [] := by unfold extraB; rw [hnum]; rw [if_neg (by omega)]
                        have HNUM := Lib.hid hnum
                        have HEXT := Lib.hid hext
                        have hent : (if n ≤ 63 then n else 0) = n := hnum
                        have HENT := Lib.hid hent
                        have hz : ((n : Int) == 0) = false := beq_eq_false_iff_ne.2 (by omega)
                        clear hnum hext hent
                        go_wp2_with fail
                        refine (Common.eps_any m (outP fo l) wr hm8 HOP8.out).mono ?_
                        rintro e wx ⟨rfl, rfl⟩
                        go_wp2_with fail
                        refine (wb_any u _ _ _ wr HO4.out.out (by have := HOL.out; have := HDL.out; have := HKL.out; simp only [List.length_append]; omega) (by omega)).mono ?_
                        rintro e w5 ⟨rfl, h5⟩
                        obtain ⟨v5, hO5, hm5, hv5⟩ := EWent.step HO4.out HM4.out HV4.out h5
                        have r5 : w5.cell? ⟨en, 0, none⟩ = some (.pointer (some ⟨u, 0, none⟩)) := block_cell hO5.blk rfl
                        have p5 : w5.cell? ⟨B, 1, none⟩ = some (.slice va n vc) := by obtain ⟨_, hB, _⟩ := (HCE.out w5 hm5).at; exact block_cell hB rfl
                        have q5 : w5.cell? ⟨B, 2, none⟩ = some (.bool false) := by obtain ⟨_, hB, _⟩ := (HCE.out w5 hm5).at; exact block_cell hB rfl
                        have HO5 := Lib.hid hO5
                        have HV5 := Lib.hid hv5
                        have HM5 := Lib.hid hm5
                        clear h5 hO5 hv5 hm5
                        go_wp2_with fail
                        refine (Common.ent_any n w5 (by omega)).mono ?_
                        rintro e wx ⟨rfl, rfl⟩
                        rw [HENT.out]
                        go_wp2_with fail
                        refine (wb_any u _ _ _ w5 HO5.out.out (by have := HOL.out; have := HDL.out; have := HKL.out; simp only [List.length_append, List.length_singleton]; omega) (by omega)).mono ?_
                        rintro e w7 ⟨rfl, h7⟩
                        have H7 := Lib.hid (EWent.step HO5.out HM5.out HV5.out h7)
                        have h8 : EWent w w7 en u i (bs ++ manyB bs.length false fo l) := by
                          have e1 : ((m : Int) * 16 + (outP fo l : Nat)).toNat = m * 16 + outP fo l := by omega
                          have := H7.out
                          unfold manyB destsB keysB
                          rw [HNL.out, HEXT.out, HNUM.out, ← HM.out]
                          simp only [flat_one] at this
                          rw [e1] at this
                          simpa [List.append_assoc] using this
                        have H8 := Lib.hid h8
                        obtain ⟨v7, hO7, hm7, hv7⟩ := h8
                        have r7 : w7.cell? ⟨en, 0, none⟩ = some (.pointer (some ⟨u, 0, none⟩)) := block_cell hO7.blk rfl
                        have s7 : w7.cell? ⟨u, 1, none⟩ = some (.int .i64 ((bs ++ manyB bs.length false fo l).length : Nat)) := block_cell (i := 1) hO7.out.blk rfl
                        have hT := manyB_len bs.length false fo l (by rw [HNL.out]; exact hn)
                        have hT2 : 1 ≤ (bs ++ manyB bs.length false fo l).length ∧ (bs ++ manyB bs.length false fo l).length ≤ 4294967296 := by rw [List.length_append]; omega
                        clear h7 hO7 hv7 hm7 hT
                        generalize hTT : (bs ++ manyB bs.length false fo l).length = T at s7 hT2 ⊢
                        have HTT := Lib.hid hTT
                        clear hTT
                        have eT : ((T - 1 : Nat) : Int) = (T : Int) - 1 := by omega
                        have ET := Lib.hid eT
                        clear eT
                        go_wp2_with fail
                        go_ret2
                        refine ⟨?_, H8.out⟩
                        rw [HTT.out, ET.out]
                        rfl
                    · by_cases hB : n = 256
                      · as_aux_lemma =>
                          have hnum : numB n = 0 := by unfold numB; rw [if_neg (by omega)]
                          have hext : extraB n = [1] := by unfold extraB; rw [hnum]; rw [if_pos rfl, if_pos (by omega)]
                          have HNUM := Lib.hid hnum
                          have HEXT := Lib.hid hext
                          have hent : (if n ≤ 63 then n else 0) = 0 := hnum
                          have HENT := Lib.hid hent
                          have hz : ((0 : Int) == 0) = true := rfl
                          have hz2 : ((n : Int) == 256) = true := beq_iff_eq.2 (by omega)
                          have HB256 := Lib.hid hB
                          clear hnum hext hent hB
                          go_wp2_with fail
                          refine (Common.eps_any m (outP fo l) wr hm8 HOP8.out).mono ?_
                          rintro e wx ⟨rfl, rfl⟩
                          go_wp2_with fail
                          refine (wb_any u _ _ _ wr HO4.out.out (by have := HOL.out; have := HDL.out; have := HKL.out; simp only [List.length_append]; omega) (by omega)).mono ?_
                          rintro e w5 ⟨rfl, h5⟩
                          obtain ⟨v5, hO5, hm5, hv5⟩ := EWent.step HO4.out HM4.out HV4.out h5
                          have r5 : w5.cell? ⟨en, 0, none⟩ = some (.pointer (some ⟨u, 0, none⟩)) := block_cell hO5.blk rfl
                          have p5 : w5.cell? ⟨B, 1, none⟩ = some (.slice va n vc) := by obtain ⟨_, hB, _⟩ := (HCE.out w5 hm5).at; exact block_cell hB rfl
                          have q5 : w5.cell? ⟨B, 2, none⟩ = some (.bool false) := by obtain ⟨_, hB, _⟩ := (HCE.out w5 hm5).at; exact block_cell hB rfl
                          have HO5 := Lib.hid hO5
                          have HV5 := Lib.hid hv5
                          have HM5 := Lib.hid hm5
                          clear h5 hO5 hv5 hm5
                          go_wp2_with fail
                          refine (Common.ent_any n w5 (by omega)).mono ?_
                          rintro e wx ⟨rfl, rfl⟩
                          rw [HENT.out]
                          go_wp2_with fail
                          refine (wb_any u _ _ _ w5 HO5.out.out (by have := HOL.out; have := HDL.out; have := HKL.out; simp only [List.length_append, List.length_singleton]; omega) (by omega)).mono ?_
                          rintro e w6 ⟨rfl, h6⟩
                          obtain ⟨v6, hO6, hm6, hv6⟩ := EWent.step HO5.out HM5.out HV5.out h6
                          have r6 : w6.cell? ⟨en, 0, none⟩ = some (.pointer (some ⟨u, 0, none⟩)) := block_cell hO6.blk rfl
                          have q6 : w6.cell? ⟨B, 2, none⟩ = some (.bool false) := by obtain ⟨_, hB, _⟩ := (HCE.out w6 hm6).at; exact block_cell hB rfl
                          have HO6 := Lib.hid hO6
                          have HV6 := Lib.hid hv6
                          have HM6 := Lib.hid hm6
                          clear h6 hO6 hv6 hm6
                          go_wp2_with fail
                          refine (wb_any u _ _ _ w6 HO6.out.out (by have := HOL.out; have := HDL.out; have := HKL.out; simp only [List.length_append, List.length_singleton]; omega) (by omega)).mono ?_
                          rintro e w7 ⟨rfl, h7⟩
                          have H7 := Lib.hid (EWent.step HO6.out HM6.out HV6.out h7)
                          have h8 : EWent w w7 en u i (bs ++ manyB bs.length false fo l) := by
                            have e1 : ((m : Int) * 16 + (outP fo l : Nat)).toNat = m * 16 + outP fo l := by omega
                            have := H7.out
                            unfold manyB destsB keysB
                            rw [HNL.out, HEXT.out, HNUM.out, ← HM.out]
                            simp only [flat_one] at this
                            rw [e1] at this
                            simpa [List.append_assoc] using this
                          have H8 := Lib.hid h8
                          obtain ⟨v7, hO7, hm7, hv7⟩ := h8
                          have r7 : w7.cell? ⟨en, 0, none⟩ = some (.pointer (some ⟨u, 0, none⟩)) := block_cell hO7.blk rfl
                          have s7 : w7.cell? ⟨u, 1, none⟩ = some (.int .i64 ((bs ++ manyB bs.length false fo l).length : Nat)) := block_cell (i := 1) hO7.out.blk rfl
                          have hT := manyB_len bs.length false fo l (by rw [HNL.out]; exact hn)
                          have hT2 : 1 ≤ (bs ++ manyB bs.length false fo l).length ∧ (bs ++ manyB bs.length false fo l).length ≤ 4294967296 := by rw [List.length_append]; omega
                          clear h7 hO7 hv7 hm7 hT
                          generalize hTT : (bs ++ manyB bs.length false fo l).length = T at s7 hT2 ⊢
                          have HTT := Lib.hid hTT
                          clear hTT
                          have eT : ((T - 1 : Nat) : Int) = (T : Int) - 1 := by omega
                          have ET := Lib.hid eT
                          clear eT
                          go_wp2_with fail
                          go_ret2
                          refine ⟨?_, H8.out⟩
                          rw [HTT.out, ET.out]
                          rfl
                      · as_aux_lemma =>
                          have hnum : numB n = 0 := by unfold numB; split <;> omega
                          have hext : extraB n = [n] := by unfold extraB; rw [hnum]; rw [if_pos rfl, if_neg (by omega), Nat.mod_eq_of_lt (by omega)]
                          have HNUM := Lib.hid hnum
                          have HEXT := Lib.hid hext
                          have hent : (if n ≤ 63 then n else 0) = 0 := hnum
                          have HENT := Lib.hid hent
                          have hz : ((0 : Int) == 0) = true := rfl
                          have hz2 : ((n : Int) == 256) = false := beq_eq_false_iff_ne.2 (by omega)
                          clear hnum hext hent
                          go_wp2_with fail
                          refine (Common.eps_any m (outP fo l) wr hm8 HOP8.out).mono ?_
                          rintro e wx ⟨rfl, rfl⟩
                          go_wp2_with fail
                          refine (wb_any u _ _ _ wr HO4.out.out (by have := HOL.out; have := HDL.out; have := HKL.out; simp only [List.length_append]; omega) (by omega)).mono ?_
                          rintro e w5 ⟨rfl, h5⟩
                          obtain ⟨v5, hO5, hm5, hv5⟩ := EWent.step HO4.out HM4.out HV4.out h5
                          have r5 : w5.cell? ⟨en, 0, none⟩ = some (.pointer (some ⟨u, 0, none⟩)) := block_cell hO5.blk rfl
                          have p5 : w5.cell? ⟨B, 1, none⟩ = some (.slice va n vc) := by obtain ⟨_, hB, _⟩ := (HCE.out w5 hm5).at; exact block_cell hB rfl
                          have q5 : w5.cell? ⟨B, 2, none⟩ = some (.bool false) := by obtain ⟨_, hB, _⟩ := (HCE.out w5 hm5).at; exact block_cell hB rfl
                          have HO5 := Lib.hid hO5
                          have HV5 := Lib.hid hv5
                          have HM5 := Lib.hid hm5
                          clear h5 hO5 hv5 hm5
                          go_wp2_with fail
                          refine (Common.ent_any n w5 (by omega)).mono ?_
                          rintro e wx ⟨rfl, rfl⟩
                          rw [HENT.out]
                          go_wp2_with fail
                          go_still_tail 10, (by kernel_rfl)
                          change wpList _ _ _ _ _ w5.drew
                          go_wp2_with fail
                          refine (wb_any u _ _ _ w5.drew (HO5.out.out.same rfl) (by have := HOL.out; have := HDL.out; have := HKL.out; simp only [List.length_append, List.length_singleton]; omega) (by omega)).mono ?_
                          rintro e w6 ⟨rfl, h6⟩
                          obtain ⟨v6, hO6, hm6, hv6⟩ := EWent.step HO5.out HM5.out HV5.out (h6.of_same (mod_drew _ _))
                          have r6 : w6.cell? ⟨en, 0, none⟩ = some (.pointer (some ⟨u, 0, none⟩)) := block_cell hO6.blk rfl
                          have q6 : w6.cell? ⟨B, 2, none⟩ = some (.bool false) := by obtain ⟨_, hB, _⟩ := (HCE.out w6 hm6).at; exact block_cell hB rfl
                          have HO6 := Lib.hid hO6
                          have HV6 := Lib.hid hv6
                          have HM6 := Lib.hid hm6
                          clear h6 hO6 hv6 hm6
                          go_wp2_with fail
                          refine (wb_any u _ _ _ w6 HO6.out.out (by have := HOL.out; have := HDL.out; have := HKL.out; simp only [List.length_append, List.length_singleton]; omega) (by omega)).mono ?_
                          rintro e w7 ⟨rfl, h7⟩
                          have H7 := Lib.hid (EWent.step HO6.out HM6.out HV6.out h7)
                          have h8 : EWent w w7 en u i (bs ++ manyB bs.length false fo l) := by
                            have e1 : ((m : Int) * 16 + (outP fo l : Nat)).toNat = m * 16 + outP fo l := by omega
                            have := H7.out
                            unfold manyB destsB keysB
                            rw [HNL.out, HEXT.out, HNUM.out, ← HM.out]
                            simp only [flat_one] at this
                            rw [e1] at this
                            simpa [List.append_assoc] using this
                          have H8 := Lib.hid h8
                          obtain ⟨v7, hO7, hm7, hv7⟩ := h8
                          have r7 : w7.cell? ⟨en, 0, none⟩ = some (.pointer (some ⟨u, 0, none⟩)) := block_cell hO7.blk rfl
                          have s7 : w7.cell? ⟨u, 1, none⟩ = some (.int .i64 ((bs ++ manyB bs.length false fo l).length : Nat)) := block_cell (i := 1) hO7.out.blk rfl
                          have hT := manyB_len bs.length false fo l (by rw [HNL.out]; exact hn)
                          have hT2 : 1 ≤ (bs ++ manyB bs.length false fo l).length ∧ (bs ++ manyB bs.length false fo l).length ≤ 4294967296 := by rw [List.length_append]; omega
                          clear h7 hO7 hv7 hm7 hT
                          generalize hTT : (bs ++ manyB bs.length false fo l).length = T at s7 hT2 ⊢
                          have HTT := Lib.hid hTT
                          clear hTT
                          have eT : ((T - 1 : Nat) : Int) = (T : Int) - 1 := by omega
                          have ET := Lib.hid eT
                          clear eT
                          go_wp2_with fail
                          go_ret2
                          refine ⟨?_, H8.out⟩
                          rw [HTT.out, ET.out]
                          rfl
                  | true =>
                    by_cases hA : 1 ≤ n ∧ n ≤ 63
                    · as_aux_lemma =>
                        have hnum : numB n = n := by unfold numB; rw [if_pos (by omega)]
                        have hext : extraB n = [] := by unfold extraB; rw [hnum]; rw [if_neg (by omega)]
                        have HNUM := Lib.hid hnum
                        have HEXT := Lib.hid hext
                        have hent : (if n ≤ 63 then n else 0) = n := hnum
                        have HENT := Lib.hid hent
                        have hz : ((n : Int) == 0) = false := beq_eq_false_iff_ne.2 (by omega)
                        have HO64 := Lib.hid (show bits BinOp.or IntKind.u8 (n : Nat) 64 = ((n + 64 : Nat) : Int) from or64 ⟨n, by omega⟩)
                        clear hnum hext hent
                        go_wp2_with fail
                        refine (Common.eps_any m (outP fo l) wr hm8 HOP8.out).mono ?_
                        rintro e wx ⟨rfl, rfl⟩
                        go_wp2_with fail
                        refine (wb_any u _ _ _ wr HO4.out.out (by have := HOL.out; have := HDL.out; have := HKL.out; simp only [List.length_append]; omega) (by omega)).mono ?_
                        rintro e w5 ⟨rfl, h5⟩
                        obtain ⟨v5, hO5, hm5, hv5⟩ := EWent.step HO4.out HM4.out HV4.out h5
                        have r5 : w5.cell? ⟨en, 0, none⟩ = some (.pointer (some ⟨u, 0, none⟩)) := block_cell hO5.blk rfl
                        have p5 : w5.cell? ⟨B, 1, none⟩ = some (.slice va n vc) := by obtain ⟨_, hB, _⟩ := (HCE.out w5 hm5).at; exact block_cell hB rfl
                        have q5 : w5.cell? ⟨B, 2, none⟩ = some (.bool true) := by obtain ⟨_, hB, _⟩ := (HCE.out w5 hm5).at; exact block_cell hB rfl
                        have HO5 := Lib.hid hO5
                        have HV5 := Lib.hid hv5
                        have HM5 := Lib.hid hm5
                        clear h5 hO5 hv5 hm5
                        go_wp2_with fail
                        refine (Common.ent_any n w5 (by omega)).mono ?_
                        rintro e wx ⟨rfl, rfl⟩
                        rw [HENT.out]
                        go_wp2_with fail
                        refine (wb_any u _ _ _ w5 HO5.out.out (by have := HOL.out; have := HDL.out; have := HKL.out; simp only [List.length_append, List.length_singleton]; omega) (by rw [HO64.out]; omega)).mono ?_
                        rintro e w7 ⟨rfl, h7⟩
                        have H7 := Lib.hid (EWent.step HO5.out HM5.out HV5.out h7)
                        have h8 : EWent w w7 en u i (bs ++ manyB bs.length true fo l) := by
                          have e1 : ((m : Int) * 16 + (outP fo l : Nat)).toNat = m * 16 + outP fo l := by omega
                          have := H7.out
                          unfold manyB destsB keysB
                          rw [HNL.out, HEXT.out, HNUM.out, ← HM.out]
                          simp only [flat_one] at this
                          rw [e1] at this
                          rw [HO64.out, Int.toNat_natCast] at this
                          simpa [List.append_assoc] using this
                        have H8 := Lib.hid h8
                        obtain ⟨v7, hO7, hm7, hv7⟩ := h8
                        have r7 : w7.cell? ⟨en, 0, none⟩ = some (.pointer (some ⟨u, 0, none⟩)) := block_cell hO7.blk rfl
                        have s7 : w7.cell? ⟨u, 1, none⟩ = some (.int .i64 ((bs ++ manyB bs.length true fo l).length : Nat)) := block_cell (i := 1) hO7.out.blk rfl
                        have hT := manyB_len bs.length true fo l (by rw [HNL.out]; exact hn)
                        have hT2 : 1 ≤ (bs ++ manyB bs.length true fo l).length ∧ (bs ++ manyB bs.length true fo l).length ≤ 4294967296 := by rw [List.length_append]; omega
                        clear h7 hO7 hv7 hm7 hT
                        generalize hTT : (bs ++ manyB bs.length true fo l).length = T at s7 hT2 ⊢
                        have HTT := Lib.hid hTT
                        clear hTT
                        have eT : ((T - 1 : Nat) : Int) = (T : Int) - 1 := by omega
                        have ET := Lib.hid eT
                        clear eT
                        go_wp2_with fail
                        go_ret2
                        refine ⟨?_, H8.out⟩
                        rw [HTT.out, ET.out]
                        rfl
                    · by_cases hB : n = 256
                      · as_aux_lemma =>
                          have hnum : numB n = 0 := by unfold numB; rw [if_neg (by omega)]
                          have hext : extraB n = [1] := by unfold extraB; rw [hnum]; rw [if_pos rfl, if_pos (by omega)]
                          have HNUM := Lib.hid hnum
                          have HEXT := Lib.hid hext
                          have hent : (if n ≤ 63 then n else 0) = 0 := hnum
                          have HENT := Lib.hid hent
                          have hz : ((0 : Int) == 0) = true := rfl
                          have hz2 : ((n : Int) == 256) = true := beq_iff_eq.2 (by omega)
                          have HB256 := Lib.hid hB
                          clear hnum hext hent hB
                          go_wp2_with fail
                          refine (Common.eps_any m (outP fo l) wr hm8 HOP8.out).mono ?_
                          rintro e wx ⟨rfl, rfl⟩
                          go_wp2_with fail
                          refine (wb_any u _ _ _ wr HO4.out.out (by have := HOL.out; have := HDL.out; have := HKL.out; simp only [List.length_append]; omega) (by omega)).mono ?_
                          rintro e w5 ⟨rfl, h5⟩
                          obtain ⟨v5, hO5, hm5, hv5⟩ := EWent.step HO4.out HM4.out HV4.out h5
                          have r5 : w5.cell? ⟨en, 0, none⟩ = some (.pointer (some ⟨u, 0, none⟩)) := block_cell hO5.blk rfl
                          have p5 : w5.cell? ⟨B, 1, none⟩ = some (.slice va n vc) := by obtain ⟨_, hB, _⟩ := (HCE.out w5 hm5).at; exact block_cell hB rfl
                          have q5 : w5.cell? ⟨B, 2, none⟩ = some (.bool true) := by obtain ⟨_, hB, _⟩ := (HCE.out w5 hm5).at; exact block_cell hB rfl
                          have HO5 := Lib.hid hO5
                          have HV5 := Lib.hid hv5
                          have HM5 := Lib.hid hm5
                          clear h5 hO5 hv5 hm5
                          go_wp2_with fail
                          refine (Common.ent_any n w5 (by omega)).mono ?_
                          rintro e wx ⟨rfl, rfl⟩
                          rw [HENT.out]
                          go_wp2_with fail
                          refine (wb_any u _ _ _ w5 HO5.out.out (by have := HOL.out; have := HDL.out; have := HKL.out; simp only [List.length_append, List.length_singleton]; omega) (by omega)).mono ?_
                          rintro e w6 ⟨rfl, h6⟩
                          obtain ⟨v6, hO6, hm6, hv6⟩ := EWent.step HO5.out HM5.out HV5.out h6
                          have r6 : w6.cell? ⟨en, 0, none⟩ = some (.pointer (some ⟨u, 0, none⟩)) := block_cell hO6.blk rfl
                          have q6 : w6.cell? ⟨B, 2, none⟩ = some (.bool true) := by obtain ⟨_, hB, _⟩ := (HCE.out w6 hm6).at; exact block_cell hB rfl
                          have HO6 := Lib.hid hO6
                          have HV6 := Lib.hid hv6
                          have HM6 := Lib.hid hm6
                          clear h6 hO6 hv6 hm6
                          go_wp2_with fail
                          refine (wb_any u _ _ _ w6 HO6.out.out (by have := HOL.out; have := HDL.out; have := HKL.out; simp only [List.length_append, List.length_singleton]; omega) (by decide)).mono ?_
                          rintro e w7 ⟨rfl, h7⟩
                          have H7 := Lib.hid (EWent.step HO6.out HM6.out HV6.out h7)
                          have h8 : EWent w w7 en u i (bs ++ manyB bs.length true fo l) := by
                            have e1 : ((m : Int) * 16 + (outP fo l : Nat)).toNat = m * 16 + outP fo l := by omega
                            have := H7.out
                            unfold manyB destsB keysB
                            rw [HNL.out, HEXT.out, HNUM.out, ← HM.out]
                            simp only [flat_one] at this
                            rw [e1] at this
                            rw [show bits BinOp.or IntKind.u8 0 64 = 64 by decide] at this
                            simpa [List.append_assoc] using this
                          have H8 := Lib.hid h8
                          obtain ⟨v7, hO7, hm7, hv7⟩ := h8
                          have r7 : w7.cell? ⟨en, 0, none⟩ = some (.pointer (some ⟨u, 0, none⟩)) := block_cell hO7.blk rfl
                          have s7 : w7.cell? ⟨u, 1, none⟩ = some (.int .i64 ((bs ++ manyB bs.length true fo l).length : Nat)) := block_cell (i := 1) hO7.out.blk rfl
                          have hT := manyB_len bs.length true fo l (by rw [HNL.out]; exact hn)
                          have hT2 : 1 ≤ (bs ++ manyB bs.length true fo l).length ∧ (bs ++ manyB bs.length true fo l).length ≤ 4294967296 := by rw [List.length_append]; omega
                          clear h7 hO7 hv7 hm7 hT
                          generalize hTT : (bs ++ manyB bs.length true fo l).length = T at s7 hT2 ⊢
                          have HTT := Lib.hid hTT
                          clear hTT
                          have eT : ((T - 1 : Nat) : Int) = (T : Int) - 1 := by omega
                          have ET := Lib.hid eT
                          clear eT
                          go_wp2_with fail
                          go_ret2
                          refine ⟨?_, H8.out⟩
                          rw [HTT.out, ET.out]
                          rfl
                      · as_aux_lemma =>
                          have hnum : numB n = 0 := by unfold numB; split <;> omega
                          have hext : extraB n = [n] := by unfold extraB; rw [hnum]; rw [if_pos rfl, if_neg (by omega), Nat.mod_eq_of_lt (by omega)]
                          have HNUM := Lib.hid hnum
                          have HEXT := Lib.hid hext
                          have hent : (if n ≤ 63 then n else 0) = 0 := hnum
                          have HENT := Lib.hid hent
                          have hz : ((0 : Int) == 0) = true := rfl
                          have hz2 : ((n : Int) == 256) = false := beq_eq_false_iff_ne.2 (by omega)
                          clear hnum hext hent
                          go_wp2_with fail
                          refine (Common.eps_any m (outP fo l) wr hm8 HOP8.out).mono ?_
                          rintro e wx ⟨rfl, rfl⟩
                          go_wp2_with fail
                          refine (wb_any u _ _ _ wr HO4.out.out (by have := HOL.out; have := HDL.out; have := HKL.out; simp only [List.length_append]; omega) (by omega)).mono ?_
                          rintro e w5 ⟨rfl, h5⟩
                          obtain ⟨v5, hO5, hm5, hv5⟩ := EWent.step HO4.out HM4.out HV4.out h5
                          have r5 : w5.cell? ⟨en, 0, none⟩ = some (.pointer (some ⟨u, 0, none⟩)) := block_cell hO5.blk rfl
                          have p5 : w5.cell? ⟨B, 1, none⟩ = some (.slice va n vc) := by obtain ⟨_, hB, _⟩ := (HCE.out w5 hm5).at; exact block_cell hB rfl
                          have q5 : w5.cell? ⟨B, 2, none⟩ = some (.bool true) := by obtain ⟨_, hB, _⟩ := (HCE.out w5 hm5).at; exact block_cell hB rfl
                          have HO5 := Lib.hid hO5
                          have HV5 := Lib.hid hv5
                          have HM5 := Lib.hid hm5
                          clear h5 hO5 hv5 hm5
                          go_wp2_with fail
                          refine (Common.ent_any n w5 (by omega)).mono ?_
                          rintro e wx ⟨rfl, rfl⟩
                          rw [HENT.out]
                          go_wp2_with fail
                          go_still_tail 10, (by kernel_rfl)
                          change wpList _ _ _ _ _ w5.drew
                          go_wp2_with fail
                          refine (wb_any u _ _ _ w5.drew (HO5.out.out.same rfl) (by have := HOL.out; have := HDL.out; have := HKL.out; simp only [List.length_append, List.length_singleton]; omega) (by omega)).mono ?_
                          rintro e w6 ⟨rfl, h6⟩
                          obtain ⟨v6, hO6, hm6, hv6⟩ := EWent.step HO5.out HM5.out HV5.out (h6.of_same (mod_drew _ _))
                          have r6 : w6.cell? ⟨en, 0, none⟩ = some (.pointer (some ⟨u, 0, none⟩)) := block_cell hO6.blk rfl
                          have q6 : w6.cell? ⟨B, 2, none⟩ = some (.bool true) := by obtain ⟨_, hB, _⟩ := (HCE.out w6 hm6).at; exact block_cell hB rfl
                          have HO6 := Lib.hid hO6
                          have HV6 := Lib.hid hv6
                          have HM6 := Lib.hid hm6
                          clear h6 hO6 hv6 hm6
                          go_wp2_with fail
                          refine (wb_any u _ _ _ w6 HO6.out.out (by have := HOL.out; have := HDL.out; have := HKL.out; simp only [List.length_append, List.length_singleton]; omega) (by decide)).mono ?_
                          rintro e w7 ⟨rfl, h7⟩
                          have H7 := Lib.hid (EWent.step HO6.out HM6.out HV6.out h7)
                          have h8 : EWent w w7 en u i (bs ++ manyB bs.length true fo l) := by
                            have e1 : ((m : Int) * 16 + (outP fo l : Nat)).toNat = m * 16 + outP fo l := by omega
                            have := H7.out
                            unfold manyB destsB keysB
                            rw [HNL.out, HEXT.out, HNUM.out, ← HM.out]
                            simp only [flat_one] at this
                            rw [e1] at this
                            rw [show bits BinOp.or IntKind.u8 0 64 = 64 by decide] at this
                            simpa [List.append_assoc] using this
                          have H8 := Lib.hid h8
                          obtain ⟨v7, hO7, hm7, hv7⟩ := h8
                          have r7 : w7.cell? ⟨en, 0, none⟩ = some (.pointer (some ⟨u, 0, none⟩)) := block_cell hO7.blk rfl
                          have s7 : w7.cell? ⟨u, 1, none⟩ = some (.int .i64 ((bs ++ manyB bs.length true fo l).length : Nat)) := block_cell (i := 1) hO7.out.blk rfl
                          have hT := manyB_len bs.length true fo l (by rw [HNL.out]; exact hn)
                          have hT2 : 1 ≤ (bs ++ manyB bs.length true fo l).length ∧ (bs ++ manyB bs.length true fo l).length ≤ 4294967296 := by rw [List.length_append]; omega
                          clear h7 hO7 hv7 hm7 hT
                          generalize hTT : (bs ++ manyB bs.length true fo l).length = T at s7 hT2 ⊢
                          have HTT := Lib.hid hTT
                          clear hTT
                          have eT : ((T - 1 : Nat) : Int) = (T : Int) - 1 := by omega
                          have ET := Lib.hid eT
                          clear eT
                          go_wp2_with fail
                          go_ret2
                          refine ⟨?_, H8.out⟩
                          rw [HTT.out, ET.out]
                          rfl
                | succ j =>
                  as_aux_lemma =>
                    obtain ⟨v1, hO, hm, hv⟩ := HW
                    have HO1 := Lib.hid hO
                    have HV1 := Lib.hid hv
                    have HM1 := Lib.hid hm
                    have r0 : wr.cell? ⟨en, 0, none⟩ = some (.pointer (some ⟨u, 0, none⟩)) := block_cell hO.blk rfl
                    clear hO hv hm
                    rw [show ((j + 1 : Nat) : Int) - 1 = (j : Int) by omega]
                    have hj : j < l.length := by rw [HNL.out]; omega
                    obtain ⟨⟨ai, ao, at_⟩, hq⟩ : ∃ a, l[j]? = some a := ⟨l[j], List.getElem?_eq_getElem hj⟩
                    obtain ⟨ha1, ha2, ha3⟩ := HA.out _ (List.mem_of_getElem? hq)
                    have HQ := Lib.hid hq
                    have hnn : (l.map toArc).length = n := by rw [List.length_map]; exact HNL.out
                    obtain ⟨vb, vo, vc', hv⟩ := node_slice HN.out (by omega)
                    rw [hnn] at hv
                    cases hv
                    obtain ⟨-, p1, -, d0, d1, d2⟩ := node_cells (HCE.out wr HM1.out) (sizes_at hq)
                    have HA2 := Lib.hid (show ao < 18446744073709551616 from ha2)
                    have hA1 : ai < 256 := ha1
                    have hA3 : at_ ≤ bs.length := ha3
                    have hI1 : (0 : Int) ≤ (j : Int) := by omega
                    have hI2 : (j : Int) < n := by omega
                    have hlen := len_flat (fun a : NA => [a.1]) (l.drop (j + 1)).reverse (by intro a; simp)
                    have HLEN := Lib.hid (show ((l.drop (j + 1)).reverse.flatMap fun a => [a.1]).length ≤ 2048 by rw [List.length_reverse, List.length_drop, HNL.out] at hlen; omega)
                    clear hq ha1 ha2 ha3 hnn hj hlen
                    go_wp2_with fail
                    go_still_tail 12, (by kernel_rfl)
                    change wpList _ _ _ _ _ wr.drew
                    go_wp2_with fail
                    refine (wb_any u _ _ ai wr.drew (HO1.out.out.same rfl) (by have := HLEN.out; have := HOL.out; have := HDL.out; simp only [List.length_append]; omega) (by omega)).mono ?_
                    rintro e w2 ⟨rfl, h2⟩
                    have H2 := Lib.hid (EWent.step HO1.out HM1.out HV1.out (h2.of_same (mod_drew _ _)))
                    clear h2
                    go_wp2_with fail
                    go_roundw
                    case rel => exact ⟨j, rfl, by omega, Lib.hid (by have := H2.out; rw [drop_pred HQ.out]; simpa [List.append_assoc] using this)⟩
                    case measure => simp [intOf] <;> omega

            | succ j =>
              as_aux_lemma =>
                obtain ⟨v1, hO, hm, hv⟩ := HW
                have HO1 := Lib.hid hO
                have HV1 := Lib.hid hv
                have HM1 := Lib.hid hm
                have r0 : wr.cell? ⟨en, 0, none⟩ = some (.pointer (some ⟨u, 0, none⟩)) := block_cell hO.blk rfl
                clear hO hv hm
                rw [show ((j + 1 : Nat) : Int) - 1 = (j : Int) by omega]
                have hj : j < l.length := by rw [HNL.out]; omega
                obtain ⟨⟨ai, ao, at_⟩, hq⟩ : ∃ a, l[j]? = some a := ⟨l[j], List.getElem?_eq_getElem hj⟩
                obtain ⟨ha1, ha2, ha3⟩ := HA.out _ (List.mem_of_getElem? hq)
                have HQ := Lib.hid hq
                have hnn : (l.map toArc).length = n := by rw [List.length_map]; exact HNL.out
                obtain ⟨vb, vo, vc', hv⟩ := node_slice HN.out (by omega)
                rw [hnn] at hv
                cases hv
                obtain ⟨-, p1, -, d0, d1, d2⟩ := node_cells (HCE.out wr HM1.out) (sizes_at hq)
                have HA2 := Lib.hid (show ao < 18446744073709551616 from ha2)
                have hA1 : ai < 256 := ha1
                have hA3 : at_ ≤ bs.length := ha3
                have hI1 : (0 : Int) ≤ (j : Int) := by omega
                have hI2 : (j : Int) < n := by omega
                have hlen := len_flat (fun a : NA => packed (delta bs.length a.2.2) m) (l.drop (j + 1)).reverse (by intro a; rw [packed_len]; exact hm8)
                have HLEN := Lib.hid (show ((l.drop (j + 1)).reverse.flatMap fun a => packed (delta bs.length a.2.2) m).length ≤ 2048 by rw [List.length_reverse, List.length_drop, HNL.out] at hlen; omega)
                clear hq ha1 ha2 ha3 hnn hj hlen
                go_wp2_with fail
                refine (Common.del_any bs.length at_ wr hA3 (by omega)).mono ?_
                rintro e wx ⟨rfl, rfl⟩
                rw [show (if at_ = 0 then 0 else bs.length - at_) = delta bs.length at_ from rfl]
                go_wp2_with fail
                refine (in_any u _ _ (delta bs.length at_) m wr HO1.out.out (by have := HLEN.out; have := HOL.out; simp only [List.length_append]; omega) (delta_lt (by omega)) hm8).mono ?_
                rintro e w2 ⟨rfl, h2⟩
                have H2 := Lib.hid (EWent.step HO1.out HM1.out HV1.out h2)
                clear h2
                go_wp2_with fail
                go_roundw
                case rel => exact ⟨j, rfl, by omega, Lib.hid (by have := H2.out; rw [drop_pred HQ.out]; simpa [List.append_assoc] using this)⟩
                case measure => simp [intOf] <;> omega

end Go.Proofs.YtkbonmjbfpdchaaDoor.Buf
