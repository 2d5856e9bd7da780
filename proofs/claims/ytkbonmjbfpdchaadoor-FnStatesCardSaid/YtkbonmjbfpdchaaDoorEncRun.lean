/- impl.encoded: its walk. -/
import Derived.Test.YtkbonmjbfpdchaaDoorEncAll
namespace Go.Proofs.YtkbonmjbfpdchaaDoor.Buf
open Go.ChangeShapes Go.WideShapes Go.ChangeAt Go.RowKit Go.Trav Go.Pk Go.Proofs.YtkbonmjbfpdchaaDoor.Node Go.Proofs.YtkbonmjbfpdchaaDoor.Common
set_option linter.unusedVariables false
set_option linter.unusedSimpArgs false
set_option maxRecDepth 100000
theorem Tryd.info3 : (Tryd.prog.info? 3).map (fun i => (i.zero, i.size, i.bytes)) = some (some (.int .i64 0), 1, 8) := by kernel_rfl
def aV (x : Nat) : Value := .int .i64 (x : Int)
theorem zzencoder_any (b : Nat) (w : World) (h : Is w b (.slice none 0 0) []) :
    Calls Tryd.prog 38 #[.iface 100 (.pointer (some ⟨b, 0, none⟩))] w fun e w' => ∃ en u q f, e = .returned (.pointer (some ⟨en, 0, none⟩)) ∧ EOut w' en u ⟨q, f, b, .slice none 0 0⟩ [] ∧ w.heap.size ≤ en ∧ w.heap.size ≤ u ∧ w.heap.size ≤ q ∧ w.heap.size ≤ f ∧ Below w.heap.size w w' := by
  have H := Lib.hid h
  clear h
  go_enter Tryd.func38, Tryd.ntmps38
  go_wp2_with fail
  refine (newE_any b w H.out).mono ?_
  rintro e w1 ⟨en, u, q, f, rfl, h1⟩
  have H1 := Lib.hid h1
  clear h1
  go_wp2_with fail
  go_ret
  exact ⟨en, u, q, f, rfl, H1.out⟩
theorem zzstart_any (en u : Nat) (i : Ids) (w : World) (h : EOut w en u i []) :
    Calls Tryd.prog 39 #[.pointer (some ⟨en, 0, none⟩)] w fun e w' => e = .returned .nilIface ∧ EWent w w' en u i (packed 1 8 ++ packed 0 8) := by
  have H := Lib.hid h
  clear h
  go_enter Tryd.func39, Tryd.ntmps39
  go_wp2_with fail
  refine (start_any en u i w H.out).mono ?_
  rintro e w1 ⟨rfl, h1⟩
  have H1 := Lib.hid h1
  clear h1
  go_wp2_with fail
  go_ret
  exact ⟨rfl, H1.out⟩
theorem zzfinish_any (en u : Nat) (i : Ids) (bs : List Nat) (cnt root : Nat) (w : World) (h : EOut w en u i bs) (hl : bs.length ≤ 4294960000) (hc : cnt ≤ 4294967296) (hr : root ≤ 4294967296) :
    Calls Tryd.prog 43 #[.pointer (some ⟨en, 0, none⟩), .int .i64 cnt, .int .i64 root] w fun e w' => e = .returned .nilIface ∧ ∃ v', Is w' i.b v' ((bs ++ (packed cnt 8 ++ packed root 8)).map bN) ∧ Mod (WF u i) w w' ∧ (v'.ownBlock = i.v.ownBlock ∨ ∃ g, v'.ownBlock = some g ∧ w.heap.size ≤ g) := by
  have HF := Lib.hid (finish_any en u i bs cnt root w h hl hc hr)
  clear h hl hc hr
  go_enter Tryd.func43, Tryd.ntmps43
  go_wp2_with fail
  refine HF.out.mono ?_
  rintro e w1 ⟨rfl, h1⟩
  have H1 := Lib.hid h1
  clear h1
  go_wp2_with fail
  go_ret
  exact ⟨rfl, H1.out⟩
/-- impl.encoded after i states. -/
structure EncSt (w wr : World) (en u i : Nat) (ids : Ids) (av : Value) (p : List Nat × List Nat) : Prop where
  bel : Below w.heap.size w wr
  out : EOut wr en u ids p.1
  lo : ∀ k, WF u ids k → w.heap.size ≤ k
  row : wr.ownsRow w.heap.size 3 1 av i (p.2.map aV)
  ap : ∀ k, av.ownBlock = some k → k ≠ en ∧ ¬ WF u ids k
  b : ids.b = w.heap.size
  en : w.heap.size ≤ en
theorem EncSt.below {w wr w' : World} {en u i : Nat} {ids : Ids} {av : Value} {p : List Nat × List Nat} (h : EncSt w wr en u i ids av p) (hb : Below wr.heap.size wr w') : EncSt w w' en u i ids av p :=
  ⟨h.bel.trans (hb.mono h.bel.size), h.out.mod (Mod.of_below hb (F := fun _ => False)) (fun h => h) (fun _ _ h => h), h.lo, ownsRow_below h.row hb fun g hg => (h.row.lt g hg).2, h.ap, h.b, h.en⟩
theorem EncSt.went {w wr w' : World} {en u i : Nat} {ids : Ids} {av : Value} {p : List Nat × List Nat} {bs : List Nat} (h : EncSt w wr en u i ids av p) (h1 : EWent wr w' en u ids bs) : ∃ v', EncSt w w' en u i { ids with v := v' } av (bs, p.2) := by
  obtain ⟨v', hO, hm, hv⟩ := h1
  have hlo : ∀ k, WF u { ids with v := v' } k → w.heap.size ≤ k := fun k hk => by
    rcases Nat.lt_or_ge k wr.heap.size with hlt | hge
    · exact h.lo k (WF_step (w := wr) hv k hlt hk)
    · exact Nat.le_trans h.bel.size hge
  refine ⟨v', mod_toBelow hm h.bel h.lo, hO, hlo, ownsRow_mod h.row hm fun g hg => (h.ap g hg).2, fun k hk => ⟨(h.ap k hk).1, fun hF => (h.ap k hk).2 (WF_step (w := wr) hv k (h.row.lt k hk).2 hF)⟩, h.b, h.en⟩
theorem EncSt.app {w w2 w3 : World} {en u i : Nat} {ids : Ids} {v : Value} {p : List Nat × List Nat} {g : Nat} {news : Obj} {ao : Option Addr} {cap : Nat} (h : EncSt w w2 en u i ids v p)
    (hown : w3.ownsRow w.heap.size 3 1 (.slice ao (i + 1) cap) (i + 1) (p.2.map aV ++ #[aV g].toList)) (hgr : (w2.alloc news).grownBy w3 v.ownBlock) (hat : (Value.slice ao (i + 1) cap).ownBlock = v.ownBlock ∨ (Value.slice ao (i + 1) cap).ownBlock = some (w2.heap.size + 1)) :
    EncSt w w3 en u (i + 1) ids (.slice ao (i + 1) cap) (p.1, p.2 ++ [g]) := by
  have m1 : Mod (fun k => v.ownBlock = some k) w2 w3 := ((Mod.refl _ w2).alloc news).grown hgr fun k hk _ => hk
  have h4 := h.out.out
  refine ⟨mod_toBelow m1 h.bel fun k hk => (h.row.lt k hk).1, h.out.mod m1 (fun e => (h.ap _ e).1 rfl) (fun k hF e => (h.ap _ e).2 hF), h.lo, ?_, fun k hk => ?_, h.b, h.en⟩
  · have e2 : (p.2 ++ [g]).map aV = p.2.map aV ++ #[aV g].toList := by simp
    simp only [e2]
    exact hown
  · rcases hat with e | e
    · rw [e] at hk
      exact h.ap k hk
    · rw [e] at hk
      simp only [Option.some.injEq] at hk
      refine ⟨fun e => ?_, fun hF => ?_⟩
      · have := block_lt h.out.blk
        omega
      · have := h4.lt hF
        omega
set_option maxHeartbeats 20000000 in
theorem encoded_any (v : Value) (n : Nat) (S : List StV) (w : World) (h : States w v n S) (hn : n ≤ 2000) (hok : ∀ x ∈ S, StOk x) (hr : RightL S) (hT : TabAt w 2 T0) :
    Calls Tryd.prog 22 #[v] w fun e w' => ∃ dv av, e = .returned (.tuple #[dv, av, .bool true]) ∧ Reads w' dv (outB S).length 1 ((outB S).map bN) ∧ Reads w' av n 1 ((encAll S).2.map aV) ∧ Below w.heap.size w w' := by
  obtain ⟨ao, cap, rfl⟩ := h.cells.form
  have hlen := h.len
  have H := Lib.hid h
  have HR := Lib.hid hr
  have HOK := Lib.hid hok
  have HTT := Lib.hid hT
  have HI := Lib.hid (EInv.all hr hok)
  have HLEN := Lib.hid hlen
  clear h hr hok hT hlen
  go_enter Tryd.func22, Tryd.ntmps22
  go_wp2_with fail
  refine (zzencoder_any w.heap.size _ (Is.fresh w)).mono ?_
  rintro e w1 ⟨en, u, q, f, rfl, hE, l1, l2, l3, l4, hb1⟩
  have HE := Lib.hid hE
  clear hE
  go_wp2_with fail
  refine (zzstart_any en u _ w1 HE.out).mono ?_
  rintro e w2 ⟨rfl, h2⟩
  simp at l1 l2 l3 l4
  have hb0 : Below w.heap.size w w1 := ((Below.refl _ _).alloc (Nat.le_refl _) _).trans (hb1.mono (by simp))
  have hS0 : EncSt w w1 en u 0 ⟨q, f, w.heap.size, .slice none 0 0⟩ (.slice none 0 0) ([], []) := ⟨hb0, HE.out, wf_new (by omega) (by show w.heap.size ≤ q; omega) (by show w.heap.size ≤ f; omega) (Nat.le_refl _) (by simp [Value.ownBlock]), World.ownsRow_nil _ _ _ _, by simp [Value.ownBlock], rfl, by omega⟩
  obtain ⟨v2, hS2⟩ := hS0.went h2
  have HS2 := Lib.hid hS2
  clear hS0 hS2 h2 hb0 hb1 l1 l2 l3 l4 HE
  go_wp2_with fail
  go_loopw [3, 7, 23] (fun av lv ix wr => ∃ (i : Nat) (ids : Ids) (A : Value), A = av ∧ ix = .int .i64 i ∧ i ≤ n ∧ lv = .int .i64 (lastOf (encAll (S.take i)).2 : Nat) ∧ Hid (EncSt w wr en u i ids av (encAll (S.take i)))) (fun _ _ ix _ => n - (intOf ix).toNat)
  case atStart => exact ⟨0, _, _, rfl, rfl, Nat.zero_le _, rfl, HS2⟩
  case round =>
    obtain ⟨i, ids, av, hav0, rfl, hi, rfl, HS⟩ := hrel
    subst hav0
    rename World => w0
    by_cases hlt : i < n
    · obtain ⟨b, off, _, x, hx, e1, c0, c1, c2, ha⟩ := (H.out.below HS.out.bel).at hlt
      cases hx
      obtain ⟨xa, xcap, hxv⟩ := ha.form
      rw [hxv] at c2 ha
      have hst := HR.out i x e1
      have hxo := HOK.out x (List.mem_of_getElem? e1)
      obtain ⟨xf, xo, xv, xl⟩ := x
      obtain ⟨fo, rfl⟩ := Int.eq_ofNat_of_zero_le hxo.1.1
      have hfo : fo < 18446744073709551616 := by have := hxo.1.2; simp only at this; omega
      have hinv := HI.out i (by rw [HLEN.out]; omega)
      generalize hp : encAll (S.take i) = p at *
      have hnx : encAll (S.take (i + 1)) = encStep p ⟨xf, fo, xv, xl⟩ := by rw [encAll_take e1, hp]
      have HNX := Lib.hid hnx
      have HA : Hid (Arcs w0 (.slice xa xl.length xcap) xl.length xl) := Lib.hid ha
      have HST := Lib.hid hst
      have HXO := Lib.hid hxo
      have HINV := Lib.hid hinv
      have HFO := Lib.hid hfo
      clear e1 ha hxv hst hxo hinv hfo hnx hp
      simp only at c0 c1 c2
      have hl256 : xl.length ≤ 256 := HST.out.1
      go_wp2_with fail
      refine (node_any xf fo _).mono ?_
      rintro e w2 ⟨rfl, rfl⟩
      have hN0 := node_new xf fo (w0.alloc (.cells #[.bool xf, .int .u64 fo, .slice xa xl.length xcap] 30))
      have hB : (w0.alloc (.cells #[.bool xf, .int .u64 fo, .slice xa xl.length xcap] 30 (0, 0))).heap.size = w0.heap.size + 1 := by simp
      rw [hB] at hN0
      have HN0 := Lib.hid hN0
      clear hN0 hB
      go_wp2_with fail
      go_loopw [3, 36] (fun sv y w3 => ∃ (k : Nat) (nvx : Value), sv = av ∧ y = .int .i64 k ∧ k ≤ xl.length ∧ Hid (NodeAt w3 (w0.heap.size + 1) nvx xf fo ((xl.take k).map fun a => toArc (naOf p.2 a))) ∧ Below w0.heap.size w0 w3 ∧ Hid (∀ g, fp (w0.heap.size + 1) nvx g → w0.heap.size ≤ g)) (fun _ y _ => xl.length - (intOf y).toNat)
      case atStart =>
        refine ⟨0, _, rfl, rfl, Nat.zero_le _, by simpa using HN0, ((Below.refl _ _).alloc (Nat.le_refl _) _).alloc (by simp) _, Lib.hid (fun g hg => ?_)⟩
        rcases hg with rfl | hg
        · omega
        · simp [Value.ownBlock] at hg
      case round =>
        obtain ⟨k, nvx, hsv, rfl, hk, HN, hb, HF⟩ := hrel
        subst hsv
        by_cases hlk : k < xl.length
        · rename World => w3
          obtain ⟨b', off', _, i1, o1, t1, hx', e1, d0, d1, d2⟩ := Arcs.at (Reads.below HA.out hb) hlk
          cases hx'
          have hao := HXO.out.2 _ (List.mem_of_getElem? e1)
          have hrt := HST.out.2.2.2 k _ e1
          simp only at hrt
          obtain ⟨ia, rfl⟩ := Int.eq_ofNat_of_zero_le hao.1.1
          obtain ⟨oa, rfl⟩ := Int.eq_ofNat_of_zero_le hao.2.1
          obtain ⟨hr1, hr2⟩ := hrt
          have E2 := Lib.hid e1
          clear e1 hao
          have hlk' : ((xl.take k).map fun a => toArc (naOf p.2 a)).length < 68719476736 := by simp; omega
          by_cases ht : t1 < 0
          · obtain rfl : t1 = -1 := by omega
            have q2 : decide ((i : Int) ≤ -1) = false := by rw [decide_eq_false_iff_not]; omega
            have ef : toArc (naOf p.2 ((ia : Int), (oa : Int), (-1 : Int))) = ((ia : Int), (oa : Int), (0 : Int)) := by simp [toArc, naOf, adr]
            have EF := Lib.hid ef
            clear ef
            have hN1 : NodeAt (w3.alloc (.cells #[.int .u8 ia, .int .u64 oa, .int .i64 (-1)] 54)) (w0.heap.size + 1) nvx xf fo ((xl.take k).map fun a => toArc (naOf p.2 a)) := HN.out.below ((Below.refl _ _).alloc (Nat.le_refl _) _)
            go_wp2_with (go_at_call 41; refine (arc_any _ _ _ _ _ _ _ _ _ hN1 hlk').mono ?_; rintro e w4 ⟨rfl, nvx', n1', m1, fr1⟩)
            go_roundw
            case rel =>
              refine ⟨k + 1, nvx', rfl, by go_num, by omega, Lib.hid (by rw [take_snoc' _ _ _ E2.out, List.map_append, List.map_singleton, EF.out]; exact n1'), ?_, Lib.hid (fun g hg => ?_)⟩
              · exact (hb.alloc hb.size _).trans (m1.toBelow (by have := hb.size; simp; omega) (fun g _ hg => HF.out g hg))
              · rcases fr1 g hg with h1 | h1
                · exact HF.out g h1
                · have := hb.size
                  simp at h1
                  omega
            case measure => simp [intOf]; omega
          · obtain ⟨m, rfl⟩ := Int.eq_ofNat_of_zero_le (show 0 ≤ t1 by omega)
            have hmi : m < i := by omega
            obtain ⟨ab, aoff, acap, z, hav, ez, cz⟩ := Reads.one aV (reads_of_owns (ownsRow_below HS.out.row hb fun g hg => (HS.out.row.lt g hg).2)) hmi
            subst hav
            have q1 : decide ((m : Int) < -1) = false := by rw [decide_eq_false_iff_not]; omega
            have q2 : decide ((i : Int) ≤ (m : Int)) = false := by rw [decide_eq_false_iff_not]; omega
            have ef : toArc (naOf p.2 ((ia : Int), (oa : Int), (m : Int))) = ((ia : Int), (oa : Int), (z : Int)) := by
              have : adr p.2 (m : Int) = z := by
                unfold adr
                rw [if_neg (by omega), Int.toNat_natCast, ez]
                rfl
              simp [toArc, naOf, this]
            have EF := Lib.hid ef
            have EZ := Lib.hid ez
            clear ef ez
            have cz' : ∀ o, (w3.alloc o).cell? ⟨ab, aoff + m, none⟩ = some (.int .i64 (z : Int)) := fun o => (World.cell?_alloc_some w3 _ o (by rw [cz]; rfl)).trans cz
            clear cz
            have hN1 : NodeAt (w3.alloc (.cells #[.int .u8 ia, .int .u64 oa, .int .i64 m] 54)) (w0.heap.size + 1) nvx xf fo ((xl.take k).map fun a => toArc (naOf p.2 a)) := HN.out.below ((Below.refl _ _).alloc (Nat.le_refl _) _)
            go_wp2_with (go_at_call 41; refine (arc_any _ _ _ _ _ _ _ _ _ hN1 hlk').mono ?_; rintro e w4 ⟨rfl, nvx', n1', m1, fr1⟩)
            go_roundw
            case rel =>
              refine ⟨k + 1, nvx', rfl, by go_num, by omega, Lib.hid (by rw [take_snoc' _ _ _ E2.out, List.map_append, List.map_singleton, EF.out]; exact n1'), ?_, Lib.hid (fun g hg => ?_)⟩
              · exact (hb.alloc hb.size _).trans (m1.toBelow (by have := hb.size; simp; omega) (fun g _ hg => HF.out g hg))
              · rcases fr1 g hg with h1 | h1
                · exact HF.out g h1
                · have := hb.size
                  simp at h1
                  omega
            case measure => simp [intOf]; omega
        · obtain rfl : k = xl.length := by omega
          rename World => w3
          have hnode : NodeAt w3 (w0.heap.size + 1) nvx xf fo ((xl.map (naOf p.2)).map toArc) := by
            have := HN.out
            rwa [List.take_length, show (fun a => toArc (naOf p.2 a)) = toArc ∘ naOf p.2 from rfl, ← List.map_map] at this
          have hE := HS.out.below hb
          have hz := zst_any en u ids p.1 (w0.heap.size + 1) nvx xf fo (xl.map (naOf p.2)) (lastOf p.2) w3 hE.out hnode
            (fun w' hm => TabAt.same HTT.out (by rw [T0_len]; omega) (mod_toBelow hm hE.bel hE.lo))
            (fun a ha => by
              obtain ⟨y, hy, rfl⟩ := List.mem_map.1 ha
              have h1 := HXO.out.2 y hy
              unfold ArcOk at h1
              exact ⟨by unfold naOf; simp only; omega, by unfold naOf; simp only; omega, HINV.out.adr _⟩)
            (by have := HINV.out.hi; omega) (by simpa using hl256) HFO.out
            (fun g hg hF => by
              have h1 := HF.out g hg
              have h2 := HS.out.out.out.lt hF
              omega)
          have HZ := Lib.hid hz
          have HE := Lib.hid hE
          clear hz hE hnode HN HF
          go_wp2_with fail
          refine HZ.out.mono ?_
          rintro e w4 ⟨rfl, h4⟩
          obtain ⟨v4, hS4⟩ := HE.out.went h4
          have HS4 := Lib.hid hS4
          clear h4 hS4 HE HZ
          go_wp2_with (at_builtin; refine wpList_append_one rfl (.tmp 75) (.tmp 77) 55 rfl w.heap.size 3 _ 1 8 Tryd.underlying55 Tryd.info3 rfl (by decide) (by decide) _ _ _ rfl HS4.out.row #[aV (encA p.1.length (lastOf p.2) xf fo (xl.map (naOf p.2)))] _ _ rfl (by simp) rfl (by simp [Value.oneCell', aV]) (by omega) (HS4.out.bel.size) ?_; intro ao5 cap5 w5 hown5 hgr5 hat5; have HX := Lib.hid (HS4.out.app hown5 hgr5 hat5); clear hown5 hgr5 hat5)
          go_roundw
          case rel =>
            refine ⟨i + 1, _, _, rfl, by go_num, by omega, ?_, Lib.hid (by rw [HNX.out]; exact HX.out)⟩
            rw [HNX.out]
            simp [lastOf, encStep]
          case measure => simp [intOf]; omega
    · obtain rfl : i = n := by omega
      have hS : S.take i = S := List.take_of_length_le (by rw [HLEN.out]; omega)
      rw [hS] at HS ⊢
      have hinv := HI.out i (by rw [HLEN.out]; omega)
      rw [hS] at hinv
      have hlast := hinv.last
      have hhi := hinv.hi
      have hb := HS.out.b
      have HRF := Lib.hid (zzfinish_any en u ids (encAll S).1 i (lastOf (encAll S).2) w0 HS.out.out (by omega) (by omega) (by omega))
      clear hlast hhi hinv
      go_wp2_with fail
      refine HRF.out.mono ?_
      rintro e w3 ⟨rfl, v3, hI3, hm3, hv3⟩
      have hbl := mod_toBelow hm3 HS.out.bel HS.out.lo
      have hrow := ownsRow_mod HS.out.row hm3 fun g hg => (HS.out.ap g hg).2
      rw [hb] at hI3
      have HI3 := Lib.hid hI3
      have HROW := Lib.hid hrow
      clear hI3 hv3 hrow hm3
      go_wp2_with fail
      refine (bytes_any w.heap.size v3 _ w3 HI3.out).mono ?_
      rintro e w4 ⟨sv, rfl, ho, kk, rfl⟩
      have HO := Lib.hid ho
      clear ho
      go_wp2_with fail
      go_ret3
      refine ⟨sv, _, rfl, ?_, ?_, below_drewN hbl _⟩
      · have h5 := reads_of_owns HO.out
        have e5 : (outB S).map bN = ((encAll S).1 ++ (packed i 8 ++ packed (lastOf (encAll S).2) 8)).map bN := by unfold outB; rw [HLEN.out]
        rw [← e5, List.length_map] at h5
        exact h5
      · exact (reads_of_owns HROW.out).drewN _
end Go.Proofs.YtkbonmjbfpdchaaDoor.Buf
