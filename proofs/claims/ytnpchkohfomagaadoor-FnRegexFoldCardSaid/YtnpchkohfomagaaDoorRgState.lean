/- The automaton of instructions: runState, one state and one byte. -/
import Derived.Test.YtnpchkohfomagaaDoorRgCache
namespace Go.Proofs.YtnpchkohfomagaaDoor.Rgw
open Go.ChangeShapes Go.WideShapes Go.ChangeAt Go.RowKit Go.Trav Go.Pk Go.Rg Go.Maps Go.Proofs.YtnpchkohfomagaaDoor.Sparse
set_option linter.unusedVariables false
set_option linter.unusedSimpArgs false
set_option maxRecDepth 100000
/-- The builder's families of blocks. -/
def FB (U D M : Nat) (sv kv : Value) (sts : List SV) (rv : Value) (B bd bs B' bd' bs' : Nat) (k : Nat) : Prop := BG U D M sv kv sts rv k ∨ SF B bd bs k ∨ SF B' bd' bs' k
/-- All that runState works on. -/
structure All (w : World) (K0 base U D M pb po pc B bd bs B' bd' bs' : Nat) (sv kv rv : Value) (sts : List SV) (l : List In) (Ks nx : List (List Nat)) : Prop where
  P : PAt w pb po l K0
  bi : BI w base U D M (.slice (some ⟨pb, po, none⟩) l.length pc) sv kv sts l Ks nx
  rv' : RV w base U D M sv kv sts rv
  cur : ∃ S, Holds w B bd bs l.length S
  nxt : ∃ S, Holds w B' bd' bs' l.length S
  a1 : ∀ k, SF B bd bs k → ¬ BG U D M sv kv sts rv k
  a2 : ∀ k, SF B' bd' bs' k → ¬ BG U D M sv kv sts rv k
  a3 : ∀ k, SF B bd bs k → ¬ SF B' bd' bs' k
  gk : ∃ K1, K0 ≤ K1 ∧ D < K1 ∧ (K1 ≤ B ∧ K1 ≤ bd ∧ K1 ≤ bs) ∧ (K1 ≤ B' ∧ K1 ≤ bd' ∧ K1 ≤ bs')
  bw : base ≤ w.heap.size
  kb : K0 ≤ base
theorem PAt.mono {w : World} {pb po K K' : Nat} {l : List In} (h : PAt w pb po l K) (hk : K ≤ K') : PAt w pb po l K' := ⟨Nat.lt_of_lt_of_le h.lt hk, h.len, fun k i hi => by obtain ⟨b, o, h1, h2⟩ := h.at_ k i hi; exact ⟨b, o, Nat.lt_of_lt_of_le h1 hk, h2⟩⟩
theorem Holds.lt {w : World} {B bd bs n : Nat} {S : List Nat} (h : Holds w B bd bs n S) {k : Nat} (hk : SF B bd bs k) : k < w.heap.size := by
  obtain ⟨ds, ss, h1, h2⟩ := h
  rcases hk with rfl | rfl | rfl
  · exact block_lt h1.blk
  · exact block_lt h1.dn
  · exact block_lt h1.sp
set_option maxHeartbeats 4000000 in
theorem runState_any (l : List In) (K0 base U D M pb po pc B bd bs B' bd' bs' s c : Nat) (sv kv rv : Value) (sts : List SV) (Ks nx : List (List Nat)) (K : List Nat) (w : World) (hs : Sound l)
    (hA : All w K0 base U D M pb po pc B bd bs B' bd' bs' sv kv rv sts l Ks nx) (hK : Ks[s - 1]? = some K) (h1 : 1 ≤ s) (hc : c < 256) (hlim : Ks.length ≤ 20000) (hIK : ∀ K ∈ Ks, IsK l K) :
    Calls Tryd.prog 70 #[.pointer (some ⟨U, 0, none⟩), .pointer (some ⟨B, 0, none⟩), .pointer (some ⟨B', 0, none⟩), .int .i64 (s : Int), .int .u8 (c : Int), rv] w fun e w' => ∃ (n : Nat) (rv' sv' kv' : Value) (S : List SV) (T T' : List (List Nat)) (r : List Nat), e = .returned (.tuple #[.int .i64 (n : Int), rv']) ∧
      All w' K0 base U D M pb po pc B bd bs B' bd' bs' sv' kv' rv' (sts ++ S) l (Ks ++ T) ((nx ++ T').set (s - 1) (r.set c n)) ∧ (nx ++ T')[s - 1]? = some r ∧
      ((T = [] ∧ T' = []) ∨ (T = [stepK l K c] ∧ T' = [List.replicate 256 0] ∧ stepK l K c ≠ [] ∧ stepK l K c ∉ Ks)) ∧ Num (Ks ++ T) (stepK l K c) n ∧ (T ≠ [] → n = Ks.length + 1) ∧
      Mod (FB U D M sv kv sts rv B bd bs B' bd' bs') w w' ∧ (∀ k, FB U D M sv' kv' (sts ++ S) rv' B bd bs B' bd' bs' k → FB U D M sv kv sts rv B bd bs B' bd' bs' k ∨ w.heap.size ≤ k) := by
  obtain ⟨S0, hcur⟩ := hA.cur
  obtain ⟨T0, hnxt⟩ := hA.nxt
  have hKm := List.mem_of_getElem? hK
  have hsl : s - 1 < Ks.length := (List.getElem?_eq_some_iff.mp hK).1
  obtain ⟨st, hst, hstm, hiv⟩ := hA.bi.hi (s - 1) K hK
  obtain ⟨r, hr⟩ : ∃ r, nx[s - 1]? = some r := ⟨_, List.getElem?_eq_getElem (by rw [hA.bi.hx]; exact hsl)⟩
  have hs1 : s - 1 + 1 = s := by omega
  rw [hs1] at hst
  have hKl : ∀ x ∈ K, x < l.length := fun x hx => by
    have := (hIK K hKm).tk x hx
    unfold takes at this
    cases e : l[x]? with
    | none => rw [e] at this; cases this
    | some i => exact (List.getElem?_eq_some_iff.mp e).1
  have hKn := (hIK K hKm).nd
  have hKlen := nodup_length l.length K hKn hKl
  have hll := hA.P.len
  have hstl : sts.length = Ks.length + 1 := hA.bi.hl
  obtain ⟨sb, scp, rfl, _, _⟩ := st_cells hA.bi.hs rfl (by omega)
  obtain ⟨io, icp, hive⟩ := ownsRow_form hiv
  have hsln : s < sts.length := by omega
  have HSTL := Lib.hid hstl
  clear hstl
  have hKB : ∀ k, SF B bd bs k → ¬ BF U D M (.slice (some ⟨sb, 0, none⟩) sts.length scp) kv sts k := fun k h1 h2 => hA.a1 k h1 (Or.inl h2)
  have u0 : w.cell? ⟨U, 0, none⟩ = some (.pointer (some ⟨D, 0, none⟩)) := block_cell hA.bi.hU rfl
  have hclr := setClear B bd bs l.length S0 w hcur
  have HA := Lib.hid hA
  have HIK := Lib.hid hIK
  have HK := Lib.hid hK
  have HST := Lib.hid hst
  have HIV := Lib.hid hiv
  have HR := Lib.hid hr
  have HKL := Lib.hid hKl
  have HKN := Lib.hid hKn
  have HSD := Lib.hid hs
  have HN := Lib.hid hnxt
  have HKB := Lib.hid hKB
  clear hKB
  clear hA hIK hK hst hiv hr hKl hKn hs hnxt hcur hKm hstm
  go_enter Tryd.func70, Tryd.ntmps70
  go_wp2_with fail
  refine hclr.mono ?_
  rintro e w1 ⟨rfl, hh1, hm1⟩
  have hB1 := HA.out.bi.mod hm1 (fun k h1 h2 => HKB.out k h2 h1)
  have u1 : w1.cell? ⟨U, 0, none⟩ = some (.pointer (some ⟨D, 0, none⟩)) := block_cell hB1.hU rfl
  have d1 : w1.cell? ⟨D, 1, none⟩ = some (.slice (some ⟨sb, 0, none⟩) sts.length scp) := block_cell hB1.hD rfl
  obtain ⟨sb', scp', e1, _, hcel⟩ := st_cells hB1.hs rfl (by omega)
  obtain ⟨rfl, rfl⟩ : sb = sb' ∧ scp = scp' := by cases e1; exact ⟨rfl, rfl⟩
  obtain ⟨e1c, _, _⟩ := hcel s st HST.out
  rw [hive] at e1c
  have HH1 := Lib.hid hh1
  have HM1 := Lib.hid hm1
  have HB1 := Lib.hid hB1
  clear hh1 hm1 hclr hB1 e1 hcel
  go_wp2_with fail
  go_loopw [31] (fun ix wr => ∃ k : Nat, ix = .int .i64 k ∧ k ≤ K.length ∧ Hid (Holds wr B bd bs l.length (K.take k)) ∧ Hid (Mod (SF B bd bs) w wr)) (fun ix _ => K.length - (intOf ix).toNat)
  case atStart => exact ⟨0, rfl, Nat.zero_le _, HH1, HM1⟩
  case round =>
    obtain ⟨k, rfl, hk, HH, HM⟩ := hrel
    by_cases hlt : k < K.length
    · have hivr := ownsRow_mod HIV.out HM.out (fun g hg h => HKB.out g h (Or.inr (Or.inr (Or.inr (Or.inr (Or.inr ⟨st, List.mem_of_getElem? HST.out, Or.inl hg⟩))))))
      rw [hive] at hivr
      obtain ⟨ib, ioff, icap, x, e0, ex, hcell⟩ := Reads.one uV (reads_of_owns hivr) hlt
      cases e0
      unfold uV at hcell
      have hxl := HKL.out x (List.mem_of_getElem? ex)
      have hxn : x ∉ K.take k := fun hm => by
        obtain ⟨j, hj⟩ := List.mem_iff_getElem?.mp hm
        have hjk : j < k := by have := (List.getElem?_eq_some_iff.mp hj).1; rw [List.length_take] at this; omega
        rw [List.getElem?_take, if_pos hjk] at hj
        have := (List.getElem?_inj (List.getElem?_eq_some_iff.mp hj).1 HKN.out).mp (show K[j]? = K[k]? by rw [hj, ex])
        omega
      have hadd := setAdd B bd bs l.length (K.take k) x wr HH.out hxl hxn (by omega)
      have EX := Lib.hid ex
      clear hivr ex hxn
      go_wp2_with fail
      refine hadd.mono ?_
      rintro e w2 ⟨rfl, hh2, hm2⟩
      have HH2 := Lib.hid hh2
      have HM2 := Lib.hid hm2
      clear hh2 hm2 hadd
      go_wp2_with fail
      go_roundw
      case rel => exact ⟨k + 1, by go_num, hlt, Lib.hid (by rw [take_snoc' _ _ _ EX.out]; exact HH2.out), Lib.hid (HM.out.trans HM2.out)⟩
      case measure => simp [intOf]; omega
    · obtain rfl : k = K.length := by omega
      have hh := HH.out
      rw [List.take_length] at hh
      obtain ⟨K1, g1, g2, ⟨g3, g4, g5⟩, ⟨g6, g7, g8⟩⟩ := HA.out.gk
      have hBr := HA.out.bi.mod HM.out (fun k h1 h2 => HKB.out k h2 h1)
      have hPr : PAt wr pb po l K1 := (HA.out.P.mono g1).mod HM.out (fun k hk h => by unfold SF at h; omega)
      have u2 : wr.cell? ⟨U, 0, none⟩ = some (.pointer (some ⟨D, 0, none⟩)) := block_cell hBr.hU rfl
      have hrun := run_any l HSD.out D pb po pc K1 B bd bs B' bd' bs' c K T0 wr g2 g3 g4 g5 g6 g7 g8 HA.out.a3 hc (block_cell hBr.hD rfl) hPr hh (HN.out.mod HM.out (fun k h1 h2 => HA.out.a3 k h2 h1))
      have HBR := Lib.hid hBr
      have HH3 := Lib.hid hh
      clear hBr hPr hh
      go_wp2_with fail
      refine hrun.mono ?_
      rintro e w2 ⟨bb, rfl, hh2, hm2⟩
      have hBF2 : ∀ k, SF B' bd' bs' k → ¬ BF U D M (.slice (some ⟨sb, 0, none⟩) sts.length scp) kv sts k := fun k h1 h2 => HA.out.a2 k h1 (Or.inl h2)
      have hB2 := HBR.out.mod hm2 (fun k h1 h2 => hBF2 k h2 h1)
      have hmw2 : Mod (fun k => SF B bd bs k ∨ SF B' bd' bs' k) w w2 := (HM.out.mono fun k _ h => Or.inl h).trans (hm2.mono fun k _ h => Or.inr h)
      have hR2 : RV w2 base U D M (.slice (some ⟨sb, 0, none⟩) sts.length scp) kv sts rv := by
        obtain ⟨⟨m, xs, hm⟩, ha⟩ := HA.out.rv'
        exact ⟨⟨m, xs, ownsRow_mod hm hmw2 fun k hk h => by
          rcases h with h | h
          · exact HA.out.a1 k h (Or.inr hk)
          · exact HA.out.a2 k h (Or.inr hk)⟩, ha⟩
      have hP2 : PAt w2 pb po l K0 := HA.out.P.mod hmw2 (fun k hk h => by unfold SF at h; omega)
      have hca := cached_any l K0 base U D M pb po pc B' bd' bs' _ kv rv sts Ks nx (addAll l [] (rootsOf l K c)) w2 HSD.out HA.out.kb (Nat.le_trans HA.out.bw hmw2.size) hP2 hB2 hR2 hh2 HA.out.a2 hlim (fun L hL x hx => by
        have := (HIK.out L hL).tk x hx
        unfold takes at this
        cases e : l[x]? with
        | none => rw [e] at this; cases this
        | some i => exact (List.getElem?_eq_some_iff.mp e).1)
      have hcu2 : Holds w2 B bd bs l.length K := HH3.out.mod hm2 HA.out.a3
      have HCU2 := Lib.hid hcu2
      have HNX2 := Lib.hid hh2
      have HM2 := Lib.hid hmw2
      have HCA := Lib.hid hca
      clear hh2 hm2 hBF2 hB2 hmw2 hR2 hP2 hca hcu2 hrun
      go_wp2_with fail
      refine HCA.out.mono ?_
      rintro e w3 ⟨n, rv', sv', kv', S, T, T', rfl, hC⟩
      have hst3 : (sts ++ S)[s]? = some st := by rw [List.getElem?_append_left hsln]; exact HST.out
      have hnx3 : (nx ++ T')[s - 1]? = some r := by rw [List.getElem?_append_left (by rw [HA.out.bi.hx]; exact hsl)]; exact HR.out
      obtain ⟨hr256, st3, hst3', hnb3⟩ := hC.bi.hn (s - 1) r hnx3
      rw [hs1, hst3] at hst3'
      cases hst3'
      obtain ⟨rx, hrx⟩ : ∃ rx, r[c]? = some rx := ⟨_, List.getElem?_eq_getElem (by omega)⟩
      have n3 : w3.cell? ⟨st.nb, c, none⟩ = some (iN rx) := block_cell hnb3 (row_get hrx)
      have n3f : w3.frozen? ⟨st.nb, c, none⟩ = false := block_free hnb3
      have u3 : w3.cell? ⟨U, 0, none⟩ = some (.pointer (some ⟨D, 0, none⟩)) := block_cell hC.bi.hU rfl
      have hl3 : 0 < (sts ++ S).length := by rw [List.length_append]; omega
      obtain ⟨sb3, sc3, e3, _, hcel3⟩ := st_cells hC.bi.hs rfl hl3
      have d3 : w3.cell? ⟨D, 1, none⟩ = some sv' := block_cell hC.bi.hD rfl
      rw [e3] at d3
      obtain ⟨_, s3, _⟩ := hcel3 s st hst3
      have hsl3 : s < (sts ++ S).length := by rw [List.length_append]; omega
      have hbl3 : (sts ++ S).length ≤ 20002 := by
        have := hC.bi.hl
        rw [this, List.length_append]
        rcases hC.tt with ⟨e, _⟩ | ⟨e, _⟩ <;> (rw [e]; simp; omega)
      generalize hln3 : (sts ++ S).length = ln3 at *
      have HC := Lib.hid hC
      have HNX3 := Lib.hid hnx3
      have HST3 := Lib.hid hst3
      have HLN := Lib.hid hln3
      clear hC HCA hst3 hnx3 hnb3 hcel3 hr256 hrx e3 hln3 hl3
      go_wp2_with fail
      go_ret2
      have hA := HA.out
      have hC := HC.out
      have hstm : st ∈ sts := List.mem_of_getElem? HST.out
      have hnbF : BG U D M (.slice (some ⟨sb, 0, none⟩) sts.length scp) kv sts rv st.nb := Or.inl (Or.inr (Or.inr (Or.inr (Or.inr (Or.inr ⟨st, hstm, Or.inr rfl⟩)))))
      have hm4 : Mod (fun k => k = st.nb) w3 (w3.setCell ⟨st.nb, c, none⟩ (iN n)) := (Mod.refl (fun k => k = st.nb) w3).setCell (p := ⟨st.nb, c, none⟩) (fun _ => rfl) _
      have hmT : Mod (FB U D M (.slice (some ⟨sb, 0, none⟩) sts.length scp) kv sts rv B bd bs B' bd' bs') w (w3.setCell ⟨st.nb, c, none⟩ (iN n)) :=
        ((HM2.out.mono fun k _ h => by rcases h with h | h; exact Or.inr (Or.inl h); exact Or.inr (Or.inr h)).trans (hC.mod.mono fun k _ h => Or.inl h)).trans (hm4.mono fun k _ h => by subst h; exact Or.inl hnbF)
      have hge : ∀ k, FB U D M (.slice (some ⟨sb, 0, none⟩) sts.length scp) kv sts rv B bd bs B' bd' bs' k → K0 ≤ k := by
        intro k hk
        have := hA.kb
        rcases hk with (hk | hk) | hk | hk
        · have := hA.bi.ge hk; omega
        · obtain ⟨m, xs, hm⟩ := hA.rv'.own
          have := (hm.lt k hk).1; omega
        · unfold SF at hk; omega
        · unfold SF at hk; omega
      have hsz2 : w.heap.size ≤ w2.heap.size := HM2.out.size
      have hBGn : ∀ k, BG U D M sv' kv' (sts ++ S) rv' k → BG U D M (.slice (some ⟨sb, 0, none⟩) sts.length scp) kv sts rv k ∨ w.heap.size ≤ k := fun k hk => by
        rcases hC.sub k hk with h | h
        · exact Or.inl h
        · exact Or.inr (by omega)
      have hnb' : BF U D M sv' kv' (sts ++ S) st.nb := Or.inr (Or.inr (Or.inr (Or.inr (Or.inr ⟨st, by simp [hstm], Or.inr rfl⟩))))
      obtain ⟨S1, hS1⟩ := hA.cur
      obtain ⟨S2, hS2⟩ := hA.nxt
      refine ⟨n, rv', sv', kv', S, T, T', r, rfl, ⟨hA.P.mod hmT (fun k h1 h2 => by have := hge k h2; omega), hC.bi.write HNX3.out (by rw [hs1]; exact HST3.out) hc, ?_, ⟨_, (HCU2.out.mod hC.mod fun k h1 h2 => hA.a1 k h1 h2).mod hm4 fun k h1 h2 => hA.a1 k h1 (by subst h2; exact hnbF)⟩, ⟨_, (HNX2.out.mod hC.mod fun k h1 h2 => hA.a2 k h1 h2).mod hm4 fun k h1 h2 => hA.a2 k h1 (by subst h2; exact hnbF)⟩, ?_, ?_, hA.a3, hA.gk, Nat.le_trans hA.bw hmT.size, hA.kb⟩, HNX3.out, hC.tt, hC.num, hC.new, hmT, ?_⟩
      · obtain ⟨⟨m, xs, hm⟩, ha⟩ := hC.rw'
        exact ⟨⟨m, xs, ownsRow_mod hm hm4 fun k hk h => by subst h; exact ha _ hk hnb'⟩, ha⟩
      · intro k h1 h2
        rcases hBGn k h2 with h | h
        · exact hA.a1 k h1 h
        · have := hS1.lt h1; omega
      · intro k h1 h2
        rcases hBGn k h2 with h | h
        · exact hA.a2 k h1 h
        · have := hS2.lt h1; omega
      · intro k hk
        rcases hk with hk | hk
        · rcases hBGn k hk with h | h
          · exact Or.inl (Or.inl h)
          · exact Or.inr h
        · exact Or.inl (Or.inr hk)
end Go.Proofs.YtnpchkohfomagaaDoor.Rgw
