/- The spec's own expressions: Pairs. -/
import Derived.Test.YtnpchkohfomagaaDoorRgY1
import Derived.Test.YtnpchkohfomagaaDoorRgXa
namespace Go.Proofs.YtnpchkohfomagaaDoor.Rgy
open Go.ChangeShapes Go.WideShapes Go.ChangeAt Go.RowKit Go.Trav Go.Utf Go.Proofs.YtnpchkohfomagaaDoor.Seq
set_option linter.unusedVariables false
set_option linter.unusedSimpArgs false
set_option maxRecDepth 100000
def pa (x y : Int) : Int := if letP y < letP x then letP y else letP x
def pb (x y : Int) : Int := if letP y < letP x then letP x else letP y
/-- One step: two letters, the lesser ahead, behind the last with a gap. -/
def pstep (o : List Int) (x y : Int) : List Int := if 0 < o.length ∧ pa x y ≤ o.getD (o.length - 1) 0 + 1 then o else o ++ [pa x y, pb x y]
def pk (l : List Int) : Nat → List Int
  | 0 => []
  | k + 1 => pstep (pk l k) (l.getD (2 * k) 0) (l.getD (2 * k + 1) 0)
def pm (l : List Int) : Nat := min 4 (l.length / 2)
def pairsP (l : List Int) : List Int := if (pk l (pm l)).length = 0 then [97, 99] else pk l (pm l)
theorem letP_bd (x : Int) : 0 ≤ letP x ∧ letP x ≤ 1114111 := by have := letP_let x; unfold Let at this; omega
theorem pa_bd (x y : Int) : 0 ≤ pa x y ∧ pa x y ≤ 1114111 := by unfold pa; split <;> exact letP_bd _
theorem pb_bd (x y : Int) : 0 ≤ pb x y ∧ pb x y ≤ 1114111 := by unfold pb; split <;> exact letP_bd _
theorem pk_bd (l : List Int) : ∀ k, (pk l k).length ≤ 2 * k ∧ ∀ z ∈ pk l k, 0 ≤ z ∧ z ≤ 1114111 := by
  intro k
  induction k with
  | zero => exact ⟨by simp [pk], fun z h => by simp [pk] at h⟩
  | succ k ih =>
    rw [pk, pstep]
    split
    · exact ⟨by omega, ih.2⟩
    · refine ⟨by simp; omega, fun z hz => ?_⟩
      rcases List.mem_append.1 hz with hz | hz
      · exact ih.2 z hz
      · simp at hz
        rcases hz with rfl | rfl
        · exact pa_bd _ _
        · exact pb_bd _ _
theorem info_i32y : (Tryd.prog.info? 21).map (fun i => (i.zero, i.size, i.bytes)) = some (some (.int .i32 0), 1, 4) := by kernel_rfl
theorem keepY {w w' : World} {a : Addr} {v : Value} (hb : Below w.heap.size w w') (h : w.cell? a = some v) : w'.cell? a = some v := (Mod.of_below (F := fun _ => False) hb).cell h (fun h => h)
theorem reads2 (w : World) (a b : Int) : Reads (w.alloc (.cells #[.int .i32 a, .int .i32 b] 21)) (.slice (some ⟨w.heap.size, 0, none⟩) 2 2) 2 1 [rV a, rV b] := by
  refine ⟨some ⟨w.heap.size, 0, none⟩, 2, rfl, Nat.le_refl _, by unfold maxLen; omega, fun h => by simp at h, rfl, fun _ => ⟨w.heap.size, 0, rfl, fun j u hj => ?_⟩⟩
  refine block_cell (heap_alloc_new w _) ?_
  rw [Nat.zero_add]
  match j, hj with
  | 0, hj => exact hj
  | 1, hj => exact hj
theorem fin1 {l : List Int} {k : Nat} {w wr : World} {ov : Option Addr} {oc : Nat} (hk : k = pm l) (hz : ¬ (pk l k).length = 0) (hb : Below w.heap.size w wr) (ho : wr.ownsRow w.heap.size 21 1 (.slice ov (pk l k).length oc) (pk l k).length ((pk l k).map rV)) :
    ∃ v', Ending.returned (.slice ov (pk l k).length oc) = .returned v' ∧ Below w.heap.size w wr ∧ Reads wr v' (pairsP l).length 1 ((pairsP l).map rV) ∧ ∀ g, v'.ownBlock = some g → w.heap.size ≤ g ∧ g < wr.heap.size := by
  have e : pairsP l = pk l k := by unfold pairsP; rw [← hk, if_neg hz]
  rw [e]
  exact ⟨_, rfl, hb, reads_of_owns ho, fun g hg => ho.lt g hg⟩
theorem fin0 {l : List Int} {k : Nat} {w wr : World} (hk : k = pm l) (hz : (pk l k).length = 0) (hb : Below w.heap.size w wr) :
    ∃ v', Ending.returned (.slice (some ⟨wr.heap.size, 0, none⟩) 2 2) = .returned v' ∧ Below w.heap.size w (wr.alloc (.cells #[.int .i32 97, .int .i32 99] 21)) ∧ Reads (wr.alloc (.cells #[.int .i32 97, .int .i32 99] 21)) v' (pairsP l).length 1 ((pairsP l).map rV) ∧ ∀ g, v'.ownBlock = some g → w.heap.size ≤ g ∧ g < (wr.alloc (.cells #[.int .i32 97, .int .i32 99] 21)).heap.size := by
  have e : pairsP l = [97, 99] := by unfold pairsP; rw [← hk, if_pos hz]
  rw [e]
  exact ⟨_, rfl, hb.alloc hb.size _, reads2 wr 97 99, fun g hg => by simp [Value.ownBlock] at hg; have := hb.size; simp; omega⟩
set_option maxHeartbeats 8000000 in
theorem pairs_any (l : List Int) (v : Value) (w : World) (hR : Reads w v l.length 1 (l.map rV)) : Calls Tryd.prog 40 #[v] w fun e w' => ∃ v', e = .returned v' ∧ Below w.heap.size w w' ∧ Reads w' v' (pairsP l).length 1 ((pairsP l).map rV) ∧ ∀ g, v'.ownBlock = some g → w.heap.size ≤ g ∧ g < w'.heap.size := by
  obtain ⟨va, vc, rfl⟩ := hR.form
  have hbd := hR.bound
  obtain ⟨i0, hi0, hz0, hz1, hz2⟩ := info_parts info_i32y
  obtain ⟨n, hn⟩ : ∃ n, n = l.length := ⟨_, rfl⟩
  rw [← hn]
  rw [← hn] at hbd
  have HR := Lib.hid hR
  have HN := Lib.hid hn
  clear hR hn
  go_enter Tryd.func40, Tryd.ntmps40
  go_wp2_with fail
  go_loopw [3, 4, 5, 6] (fun ov ix _ _ wr => ∃ (k i : Nat), ix = .int .i64 i ∧ i ≤ 8 ∧ Hid (i = 2 * k) ∧ Hid (k ≤ pm l) ∧ Hid (Below w.heap.size w wr) ∧ Hid (wr.ownsRow w.heap.size 21 1 ov (pk l k).length ((pk l k).map rV))) (fun _ ix _ _ _ => 8 - (intOf ix).toNat)
  case atStart => exact ⟨0, 0, rfl, by omega, Lib.hid rfl, Lib.hid (Nat.zero_le _), Lib.hid (Below.refl _ _), Lib.hid (World.ownsRow_nil _ _ _ _)⟩
  case round =>
    obtain ⟨k, i, rfl, hi8, HI, HK, HB, HO⟩ := hrel
    by_cases h1 : i + 1 < n
    · by_cases h2 : i < 8
      · obtain ⟨x, hx⟩ : ∃ x, l[i]? = some x := ⟨_, List.getElem?_eq_getElem (by rw [← HN.out]; omega)⟩
        obtain ⟨y, hy⟩ : ∃ y, l[i + 1]? = some y := ⟨_, List.getElem?_eq_getElem (by rw [← HN.out]; omega)⟩
        have hrd := HR.out.below HB.out
        obtain ⟨sb, so, cp, x', e1, hx', hc0⟩ := hrd.one rV (k := i) (by rw [← HN.out]; omega)
        obtain ⟨sb', so', cp', y', e2, hy', hc1⟩ := hrd.one rV (k := i + 1) (by rw [← HN.out]; omega)
        obtain ⟨ov, oc, rfl⟩ := ownsRow_form HO.out
        have ex : x' = x := by rw [hx] at hx'; exact (Option.some.inj hx').symm
        have ey : y' = y := by rw [hy] at hy'; exact (Option.some.inj hy').symm
        subst ex ey
        obtain rfl : va = some ⟨sb, so, none⟩ := by injection e1
        have c0 : wr.cell? ⟨sb, so + i, none⟩ = some (.int .i32 x') := hc0
        have c1 : wr.cell? ⟨sb, so + (i + 1), none⟩ = some (.int .i32 y') := by
          have : (⟨sb', so', none⟩ : Addr) = ⟨sb, so, none⟩ := by injection e2 with e3; injection e3 with e3; exact e3.symm
          injection this with q1 q2
          rw [← q1, ← q2]; exact hc1
        have hw1 : IntKind.i64.wrap ((i : Int) + 1) = (i : Int) + 1 := IntWalk.i64_in _ (by omega)
        have ht1 : ((i : Int) + 1).toNat = i + 1 := by omega
        have hg1 : (0 : Int) ≤ (i : Int) + 1 := by omega
        have hl1 : ((i : Int) + 1) < (n : Int) := by omega
        have hl0 : (i : Int) < (n : Int) := by omega
        have hl8 : (i : Int) < 8 := by omega
        have HXY := Lib.hid (And.intro hx hy)
        clear hrd hx hy hx' hy' hc0 hc1 e1 e2
        go_wp2_with fail
        go_cut [5, 6] from 7 to 52 (fun v5 v6 wx => v5 = .int .i32 (letP x') ∧ v6 = .int .i32 (letP y') ∧ Hid (Below wr.heap.size wr wx))
        case first =>
          go_region_with (first
            | (go_at_call 39; refine (letter_any _ _).mono ?_; rintro e w1 ⟨rfl, hb⟩
               have hbb : Below wr.heap.size wr w1 := (by first | exact hb | exact ((Below.refl wr.heap.size wr).drew).trans hb | exact hbb.trans (hb.mono hbb.size))
               have d0 : w1.cell? ⟨sb, so + i, none⟩ = some (.int .i32 x') := keepY hbb c0
               have d1 : w1.cell? ⟨sb, so + (i + 1), none⟩ = some (.int .i32 y') := keepY hbb c1
               clear hb))
          all_goals
            go_wp2_with fail
            go_meet
            exact ⟨rfl, rfl, Lib.hid hbb⟩
        case rest =>
          obtain ⟨rfl, rfl, HBX⟩ := hcut
          have hbc := HB.out.trans (HBX.out.mono HB.out.size)
          have hoc : wc.ownsRow w.heap.size 21 1 (.slice ov (pk l k).length oc) (pk l k).length ((pk l k).map rV) := ownsRow_below HO.out HBX.out (fun g hg => (HO.out.lt g hg).2)
          have HBC := Lib.hid hbc
          have HOC := Lib.hid hoc
          have hlb : (pk l k).length ≤ 16 := by have := (pk_bd l k).1; have := HI.out; omega
          have hxb := letP_bd x'
          have hyb := letP_bd y'
          have HPK := Lib.hid (show k + 1 ≤ pm l by have := HK.out; have := HI.out; have := HN.out; unfold pm at *; omega)
          have HST := Lib.hid (show pk l (k + 1) = pstep (pk l k) x' y' by rw [pk, List.getD_eq_getElem?_getD, List.getD_eq_getElem?_getD, ← HI.out, HXY.out.1, HXY.out.2]; rfl)
          clear hbc hoc c0 c1 hw1 ht1 hg1 hl1 hl0 hl8
          by_cases hsw : letP y' < letP x'
          · skip
            have ea : pa x' y' = letP y' := by unfold pa; rw [if_pos hsw]
            have eb : pb x' y' = letP x' := by unfold pb; rw [if_pos hsw]
            by_cases hz : 0 < (pk l k).length
            · obtain ⟨rb, ro, rc, z, e5, hzl, hcz⟩ := (reads_of_owns HOC.out).one rV (k := (pk l k).length - 1) (by omega)
              obtain ⟨rfl, rfl⟩ : ov = some ⟨rb, ro, none⟩ ∧ oc = rc := by injection e5 with q1 q2 q3; exact ⟨q1, q3⟩
              have hzb := (pk_bd l k).2 z (List.mem_of_getElem? hzl)
              have hgd : (pk l k).getD ((pk l k).length - 1) 0 = z := by rw [List.getD_eq_getElem?_getD, hzl]; rfl
              have hcz' : wc.cell? ⟨rb, ro + ((pk l k).length - 1), none⟩ = some (.int .i32 z) := hcz
              have hj0 : (0 : Int) < ((pk l k).length : Int) := by omega
              by_cases hle : letP y' ≤ z + 1
              · have HE := Lib.hid (show pk l (k + 1) = pk l k by rw [HST.out, pstep, hgd, ea, if_pos ⟨hz, hle⟩])
                clear ea eb hgd hzl hcz e5
                go_wp2_with fail
                go_roundw
                case rel => exact ⟨k + 1, i + 2, by go_num, by have := HI.out; omega, Lib.hid (by have := HI.out; omega), Lib.hid HPK.out, Lib.hid HBC.out, Lib.hid (by rw [HE.out]; exact HOC.out)⟩
                case measure => simp [intOf]; omega
              · have HE := Lib.hid (show pk l (k + 1) = pk l k ++ [letP y', letP x'] by rw [HST.out, pstep, hgd, ea, eb, if_neg (fun h => hle h.2)])
                clear ea eb hgd hzl hcz e5
                go_wp2_with (first | (at_builtin; (refine wpList_append_reads rfl (.tmp 48) (.tmp 51) 32 rfl w.heap.size 21 (.int .i32 0) 1 4 Tryd.underlying32 info_i32y rfl (by decide) (by decide) _ _ _ rfl (HOC.out.alloc _) _ 2 [rV (letP y'), rV (letP x')] rfl (reads2 wc (letP y') (letP x')) (by simp [rV, Value.oneCell']) (by omega) (by simp; have := HBC.out.size; omega) ?_; intro ao6 cap6 w6 hown6 hgr6 hat6; have HX6 := Lib.hid (And.intro hown6 (And.intro hgr6 hat6)); clear hown6 hgr6 hat6)))
                go_roundw
                case rel =>
                  have hx := HX6.out
                  have hb6 := below_own HBC.out HOC.out (.cells #[.int .i32 (letP y'), .int .i32 (letP x')] 21) hx.2.1 HBC.out.size
                  have el : (pk l (k + 1)).length = (pk l k).length + 2 := by rw [HE.out]; simp
                  refine ⟨k + 1, i + 2, by go_num, by have := HI.out; omega, Lib.hid (by have := HI.out; omega), Lib.hid HPK.out, Lib.hid hb6, Lib.hid ?_⟩
                  rw [el, HE.out, List.map_append]
                  exact hx.1
                case measure => simp [intOf]; omega
            · have HE := Lib.hid (show pk l (k + 1) = pk l k ++ [letP y', letP x'] by rw [HST.out, pstep, ea, eb, if_neg (fun h => hz h.1)])
              have hj0 : ¬ (0 : Int) < ((pk l k).length : Int) := by omega
              clear ea eb
              go_wp2_with (first | (at_builtin; (refine wpList_append_reads rfl (.tmp 48) (.tmp 51) 32 rfl w.heap.size 21 (.int .i32 0) 1 4 Tryd.underlying32 info_i32y rfl (by decide) (by decide) _ _ _ rfl (HOC.out.alloc _) _ 2 [rV (letP y'), rV (letP x')] rfl (reads2 wc (letP y') (letP x')) (by simp [rV, Value.oneCell']) (by omega) (by simp; have := HBC.out.size; omega) ?_; intro ao6 cap6 w6 hown6 hgr6 hat6; have HX6 := Lib.hid (And.intro hown6 (And.intro hgr6 hat6)); clear hown6 hgr6 hat6)))
              go_roundw
              case rel =>
                have hx := HX6.out
                have hb6 := below_own HBC.out HOC.out (.cells #[.int .i32 (letP y'), .int .i32 (letP x')] 21) hx.2.1 HBC.out.size
                have el : (pk l (k + 1)).length = (pk l k).length + 2 := by rw [HE.out]; simp
                refine ⟨k + 1, i + 2, by go_num, by have := HI.out; omega, Lib.hid (by have := HI.out; omega), Lib.hid HPK.out, Lib.hid hb6, Lib.hid ?_⟩
                rw [el, HE.out, List.map_append]
                exact hx.1
              case measure => simp [intOf]; omega
          · skip
            have ea : pa x' y' = letP x' := by unfold pa; rw [if_neg hsw]
            have eb : pb x' y' = letP y' := by unfold pb; rw [if_neg hsw]
            by_cases hz : 0 < (pk l k).length
            · obtain ⟨rb, ro, rc, z, e5, hzl, hcz⟩ := (reads_of_owns HOC.out).one rV (k := (pk l k).length - 1) (by omega)
              obtain ⟨rfl, rfl⟩ : ov = some ⟨rb, ro, none⟩ ∧ oc = rc := by injection e5 with q1 q2 q3; exact ⟨q1, q3⟩
              have hzb := (pk_bd l k).2 z (List.mem_of_getElem? hzl)
              have hgd : (pk l k).getD ((pk l k).length - 1) 0 = z := by rw [List.getD_eq_getElem?_getD, hzl]; rfl
              have hcz' : wc.cell? ⟨rb, ro + ((pk l k).length - 1), none⟩ = some (.int .i32 z) := hcz
              have hj0 : (0 : Int) < ((pk l k).length : Int) := by omega
              by_cases hle : letP x' ≤ z + 1
              · have HE := Lib.hid (show pk l (k + 1) = pk l k by rw [HST.out, pstep, hgd, ea, if_pos ⟨hz, hle⟩])
                clear ea eb hgd hzl hcz e5
                go_wp2_with fail
                go_roundw
                case rel => exact ⟨k + 1, i + 2, by go_num, by have := HI.out; omega, Lib.hid (by have := HI.out; omega), Lib.hid HPK.out, Lib.hid HBC.out, Lib.hid (by rw [HE.out]; exact HOC.out)⟩
                case measure => simp [intOf]; omega
              · have HE := Lib.hid (show pk l (k + 1) = pk l k ++ [letP x', letP y'] by rw [HST.out, pstep, hgd, ea, eb, if_neg (fun h => hle h.2)])
                clear ea eb hgd hzl hcz e5
                go_wp2_with (first | (at_builtin; (refine wpList_append_reads rfl (.tmp 48) (.tmp 51) 32 rfl w.heap.size 21 (.int .i32 0) 1 4 Tryd.underlying32 info_i32y rfl (by decide) (by decide) _ _ _ rfl (HOC.out.alloc _) _ 2 [rV (letP x'), rV (letP y')] rfl (reads2 wc (letP x') (letP y')) (by simp [rV, Value.oneCell']) (by omega) (by simp; have := HBC.out.size; omega) ?_; intro ao6 cap6 w6 hown6 hgr6 hat6; have HX6 := Lib.hid (And.intro hown6 (And.intro hgr6 hat6)); clear hown6 hgr6 hat6)))
                go_roundw
                case rel =>
                  have hx := HX6.out
                  have hb6 := below_own HBC.out HOC.out (.cells #[.int .i32 (letP x'), .int .i32 (letP y')] 21) hx.2.1 HBC.out.size
                  have el : (pk l (k + 1)).length = (pk l k).length + 2 := by rw [HE.out]; simp
                  refine ⟨k + 1, i + 2, by go_num, by have := HI.out; omega, Lib.hid (by have := HI.out; omega), Lib.hid HPK.out, Lib.hid hb6, Lib.hid ?_⟩
                  rw [el, HE.out, List.map_append]
                  exact hx.1
                case measure => simp [intOf]; omega
            · have HE := Lib.hid (show pk l (k + 1) = pk l k ++ [letP x', letP y'] by rw [HST.out, pstep, ea, eb, if_neg (fun h => hz h.1)])
              have hj0 : ¬ (0 : Int) < ((pk l k).length : Int) := by omega
              clear ea eb
              go_wp2_with (first | (at_builtin; (refine wpList_append_reads rfl (.tmp 48) (.tmp 51) 32 rfl w.heap.size 21 (.int .i32 0) 1 4 Tryd.underlying32 info_i32y rfl (by decide) (by decide) _ _ _ rfl (HOC.out.alloc _) _ 2 [rV (letP x'), rV (letP y')] rfl (reads2 wc (letP x') (letP y')) (by simp [rV, Value.oneCell']) (by omega) (by simp; have := HBC.out.size; omega) ?_; intro ao6 cap6 w6 hown6 hgr6 hat6; have HX6 := Lib.hid (And.intro hown6 (And.intro hgr6 hat6)); clear hown6 hgr6 hat6)))
              go_roundw
              case rel =>
                have hx := HX6.out
                have hb6 := below_own HBC.out HOC.out (.cells #[.int .i32 (letP x'), .int .i32 (letP y')] 21) hx.2.1 HBC.out.size
                have el : (pk l (k + 1)).length = (pk l k).length + 2 := by rw [HE.out]; simp
                refine ⟨k + 1, i + 2, by go_num, by have := HI.out; omega, Lib.hid (by have := HI.out; omega), Lib.hid HPK.out, Lib.hid hb6, Lib.hid ?_⟩
                rw [el, HE.out, List.map_append]
                exact hx.1
              case measure => simp [intOf]; omega
      · have h3 : ¬ (i : Int) < 8 := by omega
        have h4 : ((i : Int) + 1) < (n : Int) := by omega
        obtain ⟨ov, oc, rfl⟩ := ownsRow_form HO.out
        have hb := (pk_bd l k).1
        have HF := Lib.hid (show k = pm l by have := HK.out; have := HN.out; have := HI.out; unfold pm at *; omega)
        have hlb : (pk l k).length ≤ 16 := by have := HI.out; omega
        clear HK hb
        by_cases hz : (pk l k).length = 0
        · have HZ := Lib.hid hz
          have hz' : ((pk l k).length : Int) = 0 := by omega
          go_wp2_with fail
          go_ret
          exact fin0 HF.out HZ.out HB.out
        · have HZ := Lib.hid hz
          have hz' : ¬ ((pk l k).length : Int) = 0 := by omega
          go_wp2_with fail
          go_ret
          exact fin1 HF.out HZ.out HB.out HO.out
    · have h4 : ¬ ((i : Int) + 1) < (n : Int) := by omega
      obtain ⟨ov, oc, rfl⟩ := ownsRow_form HO.out
      have hb := (pk_bd l k).1
      have HF := Lib.hid (show k = pm l by have := HK.out; have := HN.out; have := HI.out; unfold pm at *; omega)
      have hlb : (pk l k).length ≤ 16 := by have := HI.out; omega
      clear HK hb
      by_cases hz : (pk l k).length = 0
      · have HZ := Lib.hid hz
        have hz' : ((pk l k).length : Int) = 0 := by omega
        go_wp2_with fail
        go_ret
        exact fin0 HF.out HZ.out HB.out
      · have HZ := Lib.hid hz
        have hz' : ¬ ((pk l k).length : Int) = 0 := by omega
        go_wp2_with fail
        go_ret
        exact fin1 HF.out HZ.out HB.out HO.out
end Go.Proofs.YtnpchkohfomagaaDoor.Rgy
