/- spec.Automaton: the walk. -/
import Derived.Test.YtanimdajohpggaaAuto1
import Derived.Deep.DeepCutAuto
import Derived.Deep.CutRange
import Derived.Deep.RegionHeldLaw
namespace Go.Proofs.Ytanimdajohpggaa.Table
open Go.ChangeShapes Go.WideShapes Go.ChangeAt Go.RowKit Go.Trav
set_option linter.unusedVariables false
set_option maxRecDepth 100000
theorem bools_mod {w w' : World} {v : Value} {n b1 : Nat} {l : List Bool} {cs : Array Value} {t : TypeId} {fr : Nat × Nat} (h : Reads w v n 1 (l.map Value.bool)) (hb : w.heap[b1]? = some (.cells cs t fr)) (hno : ∀ (j : Nat) (x : Bool), cs[j]? ≠ some (.bool x)) (hm : Mod (fun g => g = b1) w w') : Reads w' v n 1 (l.map Value.bool) := by
  obtain ⟨ao, cap, rfl, h1, h2, h0, h3, h4⟩ := h
  refine ⟨ao, cap, rfl, h1, h2, h0, h3, fun hp => ?_⟩
  obtain ⟨b, off, rfl, hc⟩ := h4 hp
  refine ⟨b, off, rfl, fun j u hj => hm.cell (hc j u hj) (fun e => ?_)⟩
  have e1 : b = b1 := e
  have h5 := hc j u hj
  rw [e1, cell_of_row w b1 (off + j) cs t fr hb] at h5
  obtain ⟨x, -, rfl⟩ := List.mem_map.1 (List.mem_of_getElem? hj)
  exact hno _ _ h5
theorem zero_nob (j : Nat) (x : Bool) : (#[.int .i64 0, .slice none 0 0, .slice none 0 0, .slice none 0 0, .slice none 0 0, .slice none 0 0] : Array Value)[j]? ≠ some (.bool x) := by
  intro h
  have := Array.mem_of_getElem? h
  simp at this
set_option maxHeartbeats 8000000 in
theorem auto_any {st : Int} {cv nv mv av bv : Value} {nc nn nm : Nat} {zs : List Int} {rvs0 : List Value} {bs : List Bool} (w : World) (h : Raw w st cv nv mv av bv nc nn nm zs rvs0 bs) :
    Calls Try.prog 14 #[RVal st cv nv mv av bv, .int .i64 300] w fun e w' => ∃ (n s0 : Nat) (cv' nv' mv' CV AV : Value) (cls : List Nat) (nxs : List (List Nat)) (rvs : List Value) (mts cans als : List Bool), e = .returned (RVal s0 cv' nv' mv' CV AV) ∧ s0 < n ∧ cls.length = 256 ∧ (∀ c ∈ cls, c < 5) ∧
      TabR w' cv' nv' mv' n 256 cls nxs rvs mts ∧ Reads w' CV n 1 (cans.map Value.bool) ∧ Reads w' AV n 1 (als.map Value.bool) ∧ CanOk nxs mts cans ∧ Below w.heap.size w w' := by
  have b1 := h.cls.bound
  have b2 := h.mt.bound
  have b3 := h.nxt.cells.bound
  obtain ⟨ca, cc, rfl⟩ := h.cls.form
  obtain ⟨na, nac, rfl⟩ := h.nxt.cells.form
  obtain ⟨ma, mc, rfl⟩ := h.mt.form
  unfold RVal
  have hst := h.st
  have H := Lib.hid h
  clear h
  have hmm : 1 ≤ max 1 (min nn 300) ∧ max 1 (min nn 300) ≤ 300 := by omega
  obtain ⟨n, hn⟩ : ∃ n, n = max 1 (min nn 300) := ⟨_, rfl⟩
  rw [← hn] at hmm
  obtain ⟨hn1, hn2⟩ := hmm
  have HN := Lib.hid hn
  clear hn
  go_enter Try.func14, Try.ntmps14
  go_upto_region 1 with (fail)
  obtain ⟨W1, hW1⟩ : ∃ W1, W1 = ((w.alloc (.cells #[.int .i64 st, .slice ca nc cc, .slice na nn nac, .slice ma nm mc, av, bv] 36)).alloc (.cells zeroTab 36)) := ⟨_, rfl⟩
  have hW1' := hW1
  unfold zeroTab at hW1'
  rw [← hW1']
  have g0 : W1.heap[w.heap.size]? = some (.cells #[.int .i64 st, .slice ca nc cc, .slice na nn nac, .slice ma nm mc, av, bv] 36 (0, 0)) := by rw [hW1]; exact block_alloc (heap_alloc_new w _)
  have g1 : W1.heap[w.heap.size + 1]? = some (.cells zeroTab 36 (0, 0)) := by rw [hW1]; exact heap_alloc_at _ _ _ (by simp)
  have g2 : Below w.heap.size w W1 := by rw [hW1]; exact ((Below.refl _ _).alloc (Nat.le_refl _) _).alloc (by simp) _
  have g3 : W1.heap.size = w.heap.size + 2 := by rw [hW1]; simp
  clear hW1 hW1'
  obtain ⟨B, hB⟩ : ∃ B, B = w.heap.size := ⟨_, rfl⟩
  rw [← hB] at g0 g1 g2 g3 ⊢
  have HBE := Lib.hid hB
  have p0 := block_cell (i := 0) g0 rfl
  have p2 := block_cell (i := 2) g0 rfl
  have G0 := Lib.hid g0
  have G1 := Lib.hid g1
  have G2 := Lib.hid g2
  clear hB g0 g1 g2
  go_cut [5] (fun v wx => v = .int .i64 (n : Int) ∧ W1 = wx)
  case first =>
    go_wp2_with fail
    all_goals
      go_meet
      exact ⟨congrArg (Value.int .i64) (by have := HN.out; omega), rfl⟩
  case rest =>
    obtain ⟨rfl, rfl⟩ := hcut
    have hat := at_any st n W1 hst hn1 (by omega)
    go_wp2_with fail
    refine hat.mono ?_
    rintro e w1 ⟨s0, rfl, hs0, rfl⟩
    clear hat
    go_wp2_with fail
    obtain ⟨W2, hW2⟩ : ∃ W2, W2 = W1.alloc (.cells #[.int .i64 (s0 : Int), .slice none 0 0, .slice none 0 0, .slice none 0 0, .slice none 0 0, .slice none 0 0] 36) := ⟨_, rfl⟩
    rw [← hW2]
    have hau : Au w W2 B #[.int .i64 st, .slice ca nc cc, .slice na nn nac, .slice ma nm mc, av, bv] s0 (.slice none 0 0) (.slice none 0 0) (.slice none 0 0) [] [] [] [] := by
      rw [hW2]
      exact ⟨G2.out.trans ((Below.refl _ _).alloc (by omega) _), block_alloc G0.out, block_alloc G1.out, heap_alloc_at _ _ _ (by omega), World.ownsRow_nil _ _ _ _, World.ownsRow_nil _ _ _ _, World.ownsRow_nil _ _ _ _, rfl, fun i rv r h1 => by simp at h1⟩
    have HAU := Lib.hid hau
    clear hW2 hau p0 p2 G0 G1 G2 g3
    go_loopw [7] (fun iv wr => ∃ (k : Nat) (cls : List Nat) (CV : Value), iv = .int .i64 k ∧ k ≤ 256 ∧ Hid (cls.length = k ∧ ∀ c ∈ cls, c < 5) ∧ Hid (Au w wr B #[.int .i64 st, .slice ca nc cc, .slice na nn nac, .slice ma nm mc, av, bv] s0 CV (.slice none 0 0) (.slice none 0 0) cls [] [] [])) (fun iv _ => 256 - (intOf iv).toNat)
    case atStart => exact ⟨0, [], _, rfl, by omega, Lib.hid ⟨rfl, by simp⟩, HAU⟩
    case round =>
      obtain ⟨k, cls, CV, rfl, hk, HC, HA⟩ := hrel
      rename World => wr
      by_cases hlt : k < 256
      · have c1 := block_cell (i := 1) HA.out.h0 rfl
        have r1 := cell_regrown c1
        have hbk : Below w.heap.size w wr := HBE.out ▸ HA.out.bel
        by_cases hnc : 0 < nc
        case' pos =>
          obtain ⟨d, hd⟩ : ∃ d, d = k % nc := ⟨_, rfl⟩
          have hdl : d < nc := by rw [hd]; exact Nat.mod_lt _ hnc
          have hrem : (k : Int).tmod (nc : Int) = (d : Int) := by rw [Int.tmod_eq_emod_of_nonneg (by omega), hd]; simp
          obtain ⟨bz, oz, _, z, hx, ez, cz⟩ := Reads.one iV H.out.cls hdl
          cases hx
          unfold iV at cz
          have hz := H.out.cint z (List.mem_of_getElem? ez)
          replace cz := keep_cell hbk cz
          have rz := cell_regrown cz
          have hD1 : (0 : Int) ≤ (d : Int) := by omega
          have hD2 : (d : Int) < (nc : Int) := by omega
          have hI1 : (0 : Int) < (nc : Int) := by omega
          have hwd : IntKind.i64.wrap (d : Int) = (d : Int) := IntWalk.i64_in _ (by omega)
          have HZ := Lib.hid hz
          clear hd ez hz
          go_wp2_with fail
          refine wp_region_quiet_below (by kernel_rfl) (by kernel_rfl) ?_
          repeat (first | go_big_quiet_step (fail) | quiet_step (fail))
          refine wpQuiet_nil ?_
          intro _ hw'
          obtain ⟨⟨dq, osq⟩, hw''⟩ := hw'
          subst hw''
          go_wp2_with fail
          have HA5 := Lib.hid (HA.out.below (below_regrown wr dq osq))
          generalize Go.Sort.grow (redrawn wr dq) osq = w5 at *
        case' neg =>
          have hI1 : ¬ (0 : Int) < (nc : Int) := by omega
          have HZ := Lib.hid (show I64 (k : Int) from ⟨by omega, by omega⟩)
          go_wp2_with fail
          have HA5 := HA
          generalize wr = w5 at *
        all_goals
          clear c1 r1 hbk
          obtain ⟨co, cp, rfl⟩ := ownsRow_form HA5.out.oc
          have c21 := block_cell (i := 1) HA5.out.h2 rfl
          have f21 := block_free (i := 1) HA5.out.h2
          have hcl := HC.out.1
          have HH2 := Lib.hid HA5.out.h2
          have al : ∀ k o, ((w5.drewN k).alloc o).cell? ⟨B + 2, 1, none⟩ = some (.slice co cls.length cp) := fun k o => block_cell (i := 1) (block_alloc (w := w5.drewN k) HH2.out) rfl
          have al0 : ∀ o, (w5.alloc o).cell? ⟨B + 2, 1, none⟩ = some (.slice co cls.length cp) := fun o => block_cell (i := 1) (block_alloc HH2.out) rfl
          have HOC := Lib.hid HA5.out.oc
          have HCL := Lib.hid hcl
          have hsz5 : B + 3 ≤ w5.heap.size := by have := block_lt HA5.out.h2; omega
          have hbl : cls.length ≤ 256 := by omega
          obtain ⟨i0, hi, hz0, hz1, hz2⟩ := info_parts Try.info3
          clear hcl
          go_region_law (first
            | (refine step_append_lies _ rfl (.tmp 43) (.tmp 46) 29 rfl (B + 3) 3 i0 (.int .i64 0) 1 8 Try.underlying29 hi hz0 hz1 hz2 rfl (by decide) (.slice co cls.length cp) cls.length (cls.map iN) (by simp [Act.eval, Act.put]) (HOC.out.alloc _) ⟨w5.heap.size, 0, none⟩ 1 1 [iN _] (by simp [Act.eval, Act.put]) rfl (World.news_of_block (heap_alloc_new _ _)) (by simp [iN, Value.oneCell']) (by omega) (by unfold maxLen; omega) (by omega) (by simp; omega) _ rfl ?_
               intro g cap w7 hown hgrow hat7 hlt7
               have hF : Mod (fun g => (Value.slice co cls.length cp).ownBlock = some g) w5 w7 := by
                 first
                   | exact (Mod.alloc (Mod.drewN (Mod.refl (fun g => (Value.slice co cls.length cp).ownBlock = some g) w5) _) _).grown hgrow (fun k hk _ => hk)
                   | exact (Mod.drewN (Mod.alloc (Mod.refl (fun g => (Value.slice co cls.length cp).ownBlock = some g) w5) _) _).grown hgrow (fun k hk _ => hk)
               have h7 := hF.heap HH2.out (fun e => by have := (HOC.out.lt (B + 2) e).1; omega)
               have d7 := block_cell (i := 1) h7 rfl
               have f7 := block_free (i := 1) h7
               have HO7 := Lib.hid hown
               have HM7 := Lib.hid hF
               clear hown hgrow hat7 hlt7 hF h7)
            | (go_simp
               go_at_call 34
               refine (at_five _ _ HZ.out).mono ?_
               rintro e w' ⟨r, rfl, hr5, rfl⟩))
          all_goals
            have hnew := HA5.out.putC (r := r) HM7.out HO7.out
            have HNEW := Lib.hid hnew
            clear hnew al al0 c21 f21
            (try go_wp2_with fail)
            first
              | (refine ⟨⟨k + 1, cls ++ [r], _, by go_num, by omega, Lib.hid ⟨by rw [List.length_append, HCL.out]; rfl, fun c hc => by rcases List.mem_append.1 hc with hc | hc; exact HC.out.2 c hc; rw [List.mem_singleton.1 hc]; exact hr5⟩, HNEW⟩, ?_⟩
                 simp [intOf]
                 omega)
              | (go_roundw
                 case rel => exact ⟨k + 1, cls ++ [r], _, by go_num, by omega, Lib.hid ⟨by rw [List.length_append, HCL.out]; rfl, fun c hc => by rcases List.mem_append.1 hc with hc | hc; exact HC.out.2 c hc; rw [List.mem_singleton.1 hc]; exact hr5⟩, HNEW⟩
                 case measure => simp [intOf]; omega)
      · obtain rfl : k = 256 := by omega
        have HCC := HC
        have HAA := HA
        clear hlt hk HC HA
        go_wp2_with fail
        rw [show ((256 : Nat) : Int) = 256 from rfl]
        go_loopw [9] (fun iv wr => ∃ (k : Nat) (nxs : List (List Nat)) (rvs : List Value) (mts : List Bool) (NV MV : Value), iv = .int .i64 k ∧ k ≤ n ∧ Hid (nxs.length = k ∧ mts.length = k ∧ ∀ (i : Nat) r, nxs[i]? = some r → ∀ u ∈ r, u < n) ∧ Hid (Au w wr B #[.int .i64 st, .slice ca nc cc, .slice na nn nac, .slice ma nm mc, av, bv] s0 CV NV MV cls nxs rvs mts)) (fun iv _ => n - (intOf iv).toNat)
        case atStart => exact ⟨0, [], [], [], _, _, rfl, by omega, Lib.hid ⟨rfl, rfl, fun i r h => by simp at h⟩, HAA⟩
        case round =>
          clear HAA
          obtain ⟨k, nxs, rvs, mts, NV, MV, rfl, hk, HC, HA⟩ := hrel
          rename World => wk
          by_cases hlt : k < n
          · have c2 := block_cell (i := 2) HA.out.h0 rfl
            have hszk := block_lt HA.out.h2
            go_wp2_with fail
            go_loopw [10, 11] (fun rv cv wz => ∃ (RV : Value) (c : Nat) (r : List Nat), RV = rv ∧ cv = .int .i64 c ∧ c ≤ 5 ∧ Hid (r.length = c ∧ ∀ u ∈ r, u < n) ∧ Hid (wz.ownsRow wk.heap.size 3 1 RV c (r.map iN)) ∧ Hid (Below wk.heap.size wk wz)) (fun _ cv _ => 5 - (intOf cv).toNat)
            case atStart => exact ⟨_, 0, [], rfl, rfl, by omega, Lib.hid ⟨rfl, by simp⟩, Lib.hid (World.ownsRow_nil _ _ _ _), Lib.hid (Below.refl _ _)⟩
            case round =>
              obtain ⟨RV, c, r, e1, rfl, hc5, HR, HRV, HBZ⟩ := hrel
              subst e1
              rename World => wz
              by_cases hcl : c < 5
              · have q2 := keep_cell HBZ.out c2
                have hbz : Below w.heap.size w wz := HBE.out ▸ (HA.out.bel.trans (HBZ.out.mono (by omega)))
                have rq2 := cell_regrown q2
                have hszz := HBZ.out.size
                by_cases hkn : k < nn
                case' neg =>
                  have hg1 : decide ((k : Int) < (nn : Int)) = false := by rw [decide_eq_false_iff_not]; omega
                  have hg2 : decide (k < nn) = false := by rw [decide_eq_false_iff_not]; omega
                  have HZ := Lib.hid (show I64 0 from ⟨by omega, by omega⟩)
                  go_wp2_with fail
                  have HB5 := HBZ
                  generalize wz = w5 at *
                case' pos =>
                  have hg1 : decide ((k : Int) < (nn : Int)) = true := by rw [decide_eq_true_eq]; omega
                  have hg2 : decide (k < nn) = true := by rw [decide_eq_true_eq]; omega
                  obtain ⟨bq, oq, _, rv0, hx, ev, cv0⟩ := Reads.one id (l := rvs0) (by simpa using H.out.nxt.cells) hkn
                  cases hx
                  obtain ⟨m0, zs0, hz0, hz1⟩ := H.out.nxt.rows k rv0 ev
                  obtain ⟨ra, rc, rfl⟩ := hz0.form
                  simp only [id] at cv0
                  replace cv0 := keep_cell hbz cv0
                  have rcv := cell_regrown cv0
                  have hbm := hz0.bound
                  have HZ0 := Lib.hid hz0
                  have HZ1 := Lib.hid hz1
                  have hK1 : (0 : Int) ≤ (k : Int) := by omega
                  have hK2 : (k : Int) < (nn : Int) := by omega
                  clear hz0 hz1 ev
                  by_cases hm0 : 0 < m0
                  case' neg =>
                    have hg3 : decide ((0 : Int) < (m0 : Int)) = false := by rw [decide_eq_false_iff_not]; omega
                    have hg4 : decide (0 < m0) = false := by rw [decide_eq_false_iff_not]; omega
                    have HZ := Lib.hid (show I64 0 from ⟨by omega, by omega⟩)
                    go_wp2_with fail
                    have HB5 := HBZ
                    generalize wz = w5 at *
                  case' pos =>
                    have hg3 : decide ((0 : Int) < (m0 : Int)) = true := by rw [decide_eq_true_eq]; omega
                    have hg4 : decide (0 < m0) = true := by rw [decide_eq_true_eq]; omega
                    obtain ⟨d, hd⟩ : ∃ d, d = c % m0 := ⟨_, rfl⟩
                    have hdl : d < m0 := by rw [hd]; exact Nat.mod_lt _ hm0
                    have hrem : (c : Int).tmod (m0 : Int) = (d : Int) := by rw [Int.tmod_eq_emod_of_nonneg (by omega), hd]; simp
                    obtain ⟨by2, oy2, _, z, hx, ez, cz⟩ := Reads.one iV HZ0.out hdl
                    cases hx
                    unfold iV at cz
                    replace cz := keep_cell hbz cz
                    have rz := cell_regrown cz
                    have HZ := Lib.hid (HZ1.out z (List.mem_of_getElem? ez))
                    have hD1 : (0 : Int) ≤ (d : Int) := by omega
                    have hD2 : (d : Int) < (m0 : Int) := by omega
                    have hI1 : (0 : Int) < (m0 : Int) := by omega
                    have hwd : IntKind.i64.wrap (d : Int) = (d : Int) := IntWalk.i64_in _ (by omega)
                    clear hd ez
                    go_wp2_with fail
                    refine wp_region_quiet_below (by kernel_rfl) (by kernel_rfl) ?_
                    repeat (first | go_big_quiet_step (fail) | quiet_step (fail))
                    refine wpQuiet_nil ?_
                    intro _ hw'
                    obtain ⟨⟨dq, osq⟩, hw''⟩ := hw'
                    subst hw''
                    go_wp2_with fail
                    have HB5 := Lib.hid (HBZ.out.trans ((below_regrown wz dq osq).mono hszz))
                    replace HRV := Lib.hid (ownsRow_below HRV.out (below_regrown wz dq osq) fun g hg => (HRV.out.lt g hg).2)
                    generalize Go.Sort.grow (redrawn wz dq) osq = w5 at *
                all_goals
                  have hs5 := HB5.out.size
                  refine (at_any _ n _ HZ.out hn1 (by omega)).mono ?_
                  rintro e w' ⟨u, rfl, hu, rfl⟩
                  have HRV2 := HRV
                  have hRl := HR.out.1
                  have HRN : Hid ((r ++ [u]).length = c + 1 ∧ ∀ x ∈ r ++ [u], x < n) := Lib.hid ⟨by rw [List.length_append, hRl]; rfl, fun x hx => by rcases List.mem_append.1 hx with hx | hx; exact HR.out.2 x hx; rw [List.mem_singleton.1 hx]; exact hu⟩
                  clear hRl
                  go_wp2_with (at_builtin; refine wpList_append_one rfl (.tmp 87) (.tmp 91) 29 rfl wk.heap.size 3 _ 1 8 Try.underlying29 Try.info3 rfl (by decide) (by decide) _ _ _ rfl HRV2.out #[.int .i64 (u : Int)] _ _ rfl (by simp) rfl (by simp [Value.oneCell']) (by omega) hs5 ?_; intro ao6 cap6 w6 hown6 hgr6 hat6; have HX := Lib.hid hown6; have HB6 := Lib.hid (below_own HB5.out HRV2.out _ hgr6 hs5); clear hown6 hgr6 hat6)
                  have HXX : Hid (w6.ownsRow wk.heap.size 3 1 (.slice ao6 (c + 1) cap6) (c + 1) ((r ++ [u]).map iN)) := Lib.hid (by rw [List.map_append]; exact HX.out)
                  refine ⟨⟨_, c + 1, r ++ [u], rfl, by go_num, by omega, HRN, HXX, HB6⟩, ?_⟩
                  simp [intOf]
                  omega
              · obtain rfl : c = 5 := by omega
                obtain ⟨no, np, e9⟩ := ownsRow_form HA.out.on
                obtain ⟨mo, mp, e8⟩ := ownsRow_form HA.out.om
                subst e9 e8
                obtain ⟨ro, rp, rfl⟩ := ownsRow_form HRV.out
                have hA5 := HA.out.below HBZ.out
                have d2 := block_cell (i := 2) hA5.h2 rfl
                have HA5 := Lib.hid hA5
                have hszz := HBZ.out.size
                have hkr : rvs.length = k := by rw [HA.out.len]; exact HC.out.1
                have HON := Lib.hid hA5.on
                have HKR := Lib.hid hkr
                have hwr : w.heap.size = B := HBE.out.symm
                have HRV5 := HRV
                have HR5 := HR
                have HB5 := HBZ
                have hpl : nxs.length = k := HC.out.1
                clear hA5 hkr c2 hcl
                go_wp2_with (at_builtin; refine wpList_append_one rfl (.tmp 94) (.tmp 96) 33 rfl (B + 3) 29 _ 1 24 Try.underlying33 Try.info29 rfl (by decide) (by decide) _ _ _ rfl HON.out #[.slice ro 5 rp] _ _ rfl (by simp) rfl (by simp [Value.oneCell']) (by have := HKR.out; omega) (by omega) ?_
                             intro ao7 cap7 w7 hown7 hgr7 hat7
                             have hF : Mod (fun g => (Value.slice no rvs.length np).ownBlock = some g) wz w7 := (Mod.alloc (Mod.refl _ _) _).grown hgr7 (fun k hk _ => hk)
                             have h7 := hF.heap HA5.out.h2 (fun e => by have := (HON.out.lt (B + 2) e).1; omega)
                             have d7 := block_cell (i := 2) h7 rfl
                             have f7 := block_free (i := 2) h7
                             have HF7 := Lib.hid hF
                             have HO7 := Lib.hid hown7
                             clear hown7 hgr7 hat7 hF h7)
                have hau7 := HA.out.putN HBZ.out HRV.out HF7.out HO7.out
                have HA7 := Lib.hid hau7
                clear hau7 d7 f7 d2
                generalize w7.setCell ⟨B + 2, 2, none⟩ (.slice ao7 (rvs.length + 1) cap7) = w8 at *
                have c83 := block_cell (i := 3) HA7.out.h2 rfl
                have f83 := block_free (i := 3) HA7.out.h2
                have HH2 := Lib.hid HA7.out.h2
                have HOM := Lib.hid HA7.out.om
                have m3 := block_cell (i := 3) HA7.out.h0 rfl
                have hbz8 : Below w.heap.size w w8 := HBE.out ▸ HA7.out.bel
                have hml : mts.length = k := HC.out.2.1
                have hmb : mts.length ≤ 300 := by omega
                have HML := Lib.hid hml
                have hs8 := block_lt HH2.out
                clear hml
                have al : ∀ k o, ((w8.drewN k).alloc o).cell? ⟨B + 2, 3, none⟩ = some (.slice mo mts.length mp) := fun k o => block_cell (i := 3) (block_alloc (w := w8.drewN k) HH2.out) rfl
                have al0 : ∀ o, (w8.alloc o).cell? ⟨B + 2, 3, none⟩ = some (.slice mo mts.length mp) := fun o => block_cell (i := 3) (block_alloc HH2.out) rfl
                obtain ⟨ib, hib, hb0, hb1, hb2⟩ := info_parts Try.info4
                by_cases hkm : k < nm
                case' pos =>
                  have hg5 : decide ((k : Int) < (nm : Int)) = true := by rw [decide_eq_true_eq]; omega
                  have hg6 : decide (k < nm) = true := by rw [decide_eq_true_eq]; omega
                  obtain ⟨bm, om, _, bb, hx, em, cm⟩ := Reads.one Value.bool H.out.mt hkm
                  cases hx
                  have hbm0 : bm < B + 2 := by have := World.block_lt_of_cell? w _ cm; have := HBE.out; simp only at *; omega
                  replace cm := keep_cell hbz8 cm
                  have hK1 : (0 : Int) ≤ (k : Int) := by omega
                  have hK2 : (k : Int) < (nm : Int) := by omega
                  clear em
                case' neg =>
                  have hg5 : decide ((k : Int) < (nm : Int)) = false := by rw [decide_eq_false_iff_not]; omega
                  have hg6 : decide (k < nm) = false := by rw [decide_eq_false_iff_not]; omega
                  obtain ⟨bb, hbb⟩ : ∃ bb, bb = false := ⟨_, rfl⟩
                case' pos =>
                  have hbm : bm < B + 2 := hbm0
                  refine wp_region_held_drew (S := fun wx => Below (B + 2) w8 wx) (by kernel_rfl) (show Below (B + 2) w8 w8.drew from (Below.refl _ _).drew) (fun hHeld => ?_)
                  refine wpAnyH_take (i := 0) (oi := ?_) (v := ?_) ?_ ?_ ?_ ?_ ?_ (Or.inl ⟨?_, ?_⟩) (by assumption) ?_
                  rotate_left 2
                  · ((try simp only [List.getElem?_toArray, List.getElem?_cons_zero, List.getElem?_cons_succ]); exact rfl)
                  · kernel_rfl
                  · kernel_rfl
                  · kernel_rfl
                  · exact fun _ _ _ h => h
                  · rfl
                  · ((intro wx hSw; (try dsimp only at hSw); go_simp); try with_reducible rfl)
                  try simp only [Act.put, List.setIfInBounds_toArray, List.set_cons_zero, List.set_cons_succ]
                  refine wpAnyH_take (i := 2) (oi := ?_) (v := ?_) ?_ ?_ ?_ ?_ ?_ (Or.inl ⟨?_, ?_⟩) (by assumption) ?_
                  rotate_left 2
                  · ((try simp only [List.getElem?_toArray, List.getElem?_cons_zero, List.getElem?_cons_succ]); exact rfl)
                  · kernel_rfl
                  · kernel_rfl
                  · kernel_rfl
                  · exact fun _ _ _ h => h
                  · rfl
                  · ((intro wx hSw; (try dsimp only at hSw); go_simp); try with_reducible rfl)
                  try simp only [Act.put, List.setIfInBounds_toArray, List.set_cons_zero, List.set_cons_succ]
                  refine wpAnyH_take (i := 3) (oi := ?_) (v := ?_) ?_ ?_ ?_ ?_ ?_ (Or.inl ⟨?_, ?_⟩) (by assumption) ?_
                  rotate_left 2
                  · ((try simp only [List.getElem?_toArray, List.getElem?_cons_zero, List.getElem?_cons_succ]); exact rfl)
                  · kernel_rfl
                  · kernel_rfl
                  · kernel_rfl
                  · exact fun _ _ _ h => h
                  · rfl
                  · ((intro wx hSw; (try dsimp only at hSw); go_simp); try with_reducible rfl)
                  try simp only [Act.put, List.setIfInBounds_toArray, List.set_cons_zero, List.set_cons_succ]
                  refine wpAnyH_take (i := 4) (oi := ?_) (v := ?_) ?_ ?_ ?_ ?_ ?_ (Or.inl ⟨?_, ?_⟩) (by assumption) ?_
                  rotate_left 2
                  · ((try simp only [List.getElem?_toArray, List.getElem?_cons_zero, List.getElem?_cons_succ]); exact rfl)
                  · kernel_rfl
                  · kernel_rfl
                  · kernel_rfl
                  · exact fun _ _ _ h => h
                  · rfl
                  · ((intro wx hSw; have hc := (hSw.cell (show (⟨B, 3, none⟩ : Addr).block < B + 2 from by show B < B + 2; omega)).trans m3; clear hSw; go_simp); try with_reducible rfl)
                  try simp only [Act.put, List.setIfInBounds_toArray, List.set_cons_zero, List.set_cons_succ]
                  refine wpAnyH_take (i := 5) (oi := ?_) (v := ?_) ?_ ?_ ?_ ?_ ?_ (Or.inl ⟨?_, ?_⟩) (by assumption) ?_
                  rotate_left 2
                  · ((try simp only [List.getElem?_toArray, List.getElem?_cons_zero, List.getElem?_cons_succ]); exact rfl)
                  · kernel_rfl
                  · kernel_rfl
                  · kernel_rfl
                  · exact fun _ _ _ h => h
                  · rfl
                  · ((intro wx hSw; (try dsimp only at hSw); go_simp); try with_reducible rfl)
                  try simp only [Act.put, List.setIfInBounds_toArray, List.set_cons_zero, List.set_cons_succ]
                  refine wpAnyH_take (i := 6) (oi := ?_) (v := ?_) ?_ ?_ ?_ ?_ ?_ (Or.inl ⟨?_, ?_⟩) (by assumption) ?_
                  rotate_left 2
                  · ((try simp only [List.getElem?_toArray, List.getElem?_cons_zero, List.getElem?_cons_succ]); exact rfl)
                  · kernel_rfl
                  · kernel_rfl
                  · kernel_rfl
                  · exact fun _ _ _ h => h
                  · rfl
                  · ((intro wx hSw; (try dsimp only at hSw); go_simp); try with_reducible rfl)
                  try simp only [Act.put, List.setIfInBounds_toArray, List.set_cons_zero, List.set_cons_succ]
                  refine wpAnyH_take (i := 7) (oi := ?_) (v := ?_) ?_ ?_ ?_ ?_ ?_ (Or.inl ⟨?_, ?_⟩) (by assumption) ?_
                  rotate_left 2
                  · ((try simp only [List.getElem?_toArray, List.getElem?_cons_zero, List.getElem?_cons_succ]); exact rfl)
                  · kernel_rfl
                  · kernel_rfl
                  · kernel_rfl
                  · exact fun _ _ _ h => h
                  · rfl
                  · ((intro wx hSw; (try dsimp only at hSw); go_simp); try with_reducible rfl)
                  try simp only [Act.put, List.setIfInBounds_toArray, List.set_cons_zero, List.set_cons_succ]
                  refine wpAnyH_take (i := 8) (oi := ?_) (v := ?_) ?_ ?_ ?_ ?_ ?_ (Or.inl ⟨?_, ?_⟩) (by assumption) ?_
                  rotate_left 2
                  · ((try simp only [List.getElem?_toArray, List.getElem?_cons_zero, List.getElem?_cons_succ]); exact rfl)
                  · kernel_rfl
                  · kernel_rfl
                  · kernel_rfl
                  · exact fun _ _ _ h => h
                  · rfl
                  · ((intro wx hSw; (try dsimp only at hSw); go_simp); try with_reducible rfl)
                  try simp only [Act.put, List.setIfInBounds_toArray, List.set_cons_zero, List.set_cons_succ]
                  refine wpAnyH_take (i := 9) (oi := ?_) (v := ?_) ?_ ?_ ?_ ?_ ?_ (Or.inl ⟨?_, ?_⟩) (by assumption) ?_
                  rotate_left 2
                  · ((try simp only [List.getElem?_toArray, List.getElem?_cons_zero, List.getElem?_cons_succ]); exact rfl)
                  · kernel_rfl
                  · kernel_rfl
                  · kernel_rfl
                  · exact fun _ _ _ h => h
                  · rfl
                  · ((intro wx hSw; have hc := (hSw.cell (show (⟨B, 3, none⟩ : Addr).block < B + 2 from by show B < B + 2; omega)).trans m3; clear hSw; go_simp); try with_reducible rfl)
                  try simp only [Act.put, List.setIfInBounds_toArray, List.set_cons_zero, List.set_cons_succ]
                  refine wpAnyH_take (i := 10) (oi := ?_) (v := ?_) ?_ ?_ ?_ ?_ ?_ (Or.inl ⟨?_, ?_⟩) (by assumption) ?_
                  rotate_left 2
                  · ((try simp only [List.getElem?_toArray, List.getElem?_cons_zero, List.getElem?_cons_succ]); exact rfl)
                  · kernel_rfl
                  · kernel_rfl
                  · kernel_rfl
                  · exact fun _ _ _ h => h
                  · rfl
                  · ((intro wx hSw; (try dsimp only at hSw); go_simp); try with_reducible rfl)
                  try simp only [Act.put, List.setIfInBounds_toArray, List.set_cons_zero, List.set_cons_succ]
                  refine wpAnyH_take (i := 11) (oi := ?_) (v := ?_) ?_ ?_ ?_ ?_ ?_ (Or.inl ⟨?_, ?_⟩) (by assumption) ?_
                  rotate_left 2
                  · ((try simp only [List.getElem?_toArray, List.getElem?_cons_zero, List.getElem?_cons_succ]); exact rfl)
                  · kernel_rfl
                  · kernel_rfl
                  · kernel_rfl
                  · exact fun _ _ _ h => h
                  · rfl
                  · ((intro wx hSw; (try dsimp only at hSw); go_simp); try with_reducible rfl)
                  try simp only [Act.put, List.setIfInBounds_toArray, List.set_cons_zero, List.set_cons_succ]
                  refine wpAnyH_take (i := 12) (oi := ?_) (v := ?_) ?_ ?_ ?_ ?_ ?_ (Or.inl ⟨?_, ?_⟩) (by assumption) ?_
                  rotate_left 2
                  · ((try simp only [List.getElem?_toArray, List.getElem?_cons_zero, List.getElem?_cons_succ]); exact rfl)
                  · kernel_rfl
                  · kernel_rfl
                  · kernel_rfl
                  · exact fun _ _ _ h => h
                  · rfl
                  · ((intro wx hSw; have hc := (hSw.cell (show (⟨bm, om + k, none⟩ : Addr).block < B + 2 from by show bm < B + 2; omega)).trans cm; clear hSw; go_simp); try with_reducible rfl)
                  try simp only [Act.put, List.setIfInBounds_toArray, List.set_cons_zero, List.set_cons_succ]
                  refine wpAnyH_take (i := 13) (oi := ?_) (v := ?_) ?_ ?_ ?_ ?_ ?_ (Or.inl ⟨?_, ?_⟩) (by assumption) ?_
                  rotate_left 2
                  · ((try simp only [List.getElem?_toArray, List.getElem?_cons_zero, List.getElem?_cons_succ]); exact rfl)
                  · kernel_rfl
                  · kernel_rfl
                  · kernel_rfl
                  · exact fun _ _ _ h => h
                  · rfl
                  · ((intro wx hSw; (try dsimp only at hSw); go_simp); try with_reducible rfl)
                  try simp only [Act.put, List.setIfInBounds_toArray, List.set_cons_zero, List.set_cons_succ]
                case' neg =>
                  refine wp_region_held_drew (S := fun wx => Below (B + 2) w8 wx) (by kernel_rfl) (show Below (B + 2) w8 w8.drew from (Below.refl _ _).drew) (fun hHeld => ?_)
                  refine wpAnyH_take (i := 0) (oi := ?_) (v := ?_) ?_ ?_ ?_ ?_ ?_ (Or.inl ⟨?_, ?_⟩) (by assumption) ?_
                  rotate_left 2
                  · ((try simp only [List.getElem?_toArray, List.getElem?_cons_zero, List.getElem?_cons_succ]); exact rfl)
                  · kernel_rfl
                  · kernel_rfl
                  · kernel_rfl
                  · exact fun _ _ _ h => h
                  · rfl
                  · ((intro wx hSw; (try dsimp only at hSw); go_simp); try with_reducible rfl)
                  try simp only [Act.put, List.setIfInBounds_toArray, List.set_cons_zero, List.set_cons_succ]
                  refine wpAnyH_take (i := 2) (oi := ?_) (v := ?_) ?_ ?_ ?_ ?_ ?_ (Or.inl ⟨?_, ?_⟩) (by assumption) ?_
                  rotate_left 2
                  · ((try simp only [List.getElem?_toArray, List.getElem?_cons_zero, List.getElem?_cons_succ]); exact rfl)
                  · kernel_rfl
                  · kernel_rfl
                  · kernel_rfl
                  · exact fun _ _ _ h => h
                  · rfl
                  · ((intro wx hSw; (try dsimp only at hSw); go_simp); try with_reducible rfl)
                  try simp only [Act.put, List.setIfInBounds_toArray, List.set_cons_zero, List.set_cons_succ]
                  refine wpAnyH_take (i := 3) (oi := ?_) (v := ?_) ?_ ?_ ?_ ?_ ?_ (Or.inl ⟨?_, ?_⟩) (by assumption) ?_
                  rotate_left 2
                  · ((try simp only [List.getElem?_toArray, List.getElem?_cons_zero, List.getElem?_cons_succ]); exact rfl)
                  · kernel_rfl
                  · kernel_rfl
                  · kernel_rfl
                  · exact fun _ _ _ h => h
                  · rfl
                  · ((intro wx hSw; (try dsimp only at hSw); go_simp); try with_reducible rfl)
                  try simp only [Act.put, List.setIfInBounds_toArray, List.set_cons_zero, List.set_cons_succ]
                  refine wpAnyH_take (i := 4) (oi := ?_) (v := ?_) ?_ ?_ ?_ ?_ ?_ (Or.inl ⟨?_, ?_⟩) (by assumption) ?_
                  rotate_left 2
                  · ((try simp only [List.getElem?_toArray, List.getElem?_cons_zero, List.getElem?_cons_succ]); exact rfl)
                  · kernel_rfl
                  · kernel_rfl
                  · kernel_rfl
                  · exact fun _ _ _ h => h
                  · rfl
                  · ((intro wx hSw; have hc := (hSw.cell (show (⟨B, 3, none⟩ : Addr).block < B + 2 from by show B < B + 2; omega)).trans m3; clear hSw; go_simp); try with_reducible rfl)
                  try simp only [Act.put, List.setIfInBounds_toArray, List.set_cons_zero, List.set_cons_succ]
                  refine wpAnyH_take (i := 5) (oi := ?_) (v := ?_) ?_ ?_ ?_ ?_ ?_ (Or.inl ⟨?_, ?_⟩) (by assumption) ?_
                  rotate_left 2
                  · ((try simp only [List.getElem?_toArray, List.getElem?_cons_zero, List.getElem?_cons_succ]); exact rfl)
                  · kernel_rfl
                  · kernel_rfl
                  · kernel_rfl
                  · exact fun _ _ _ h => h
                  · rfl
                  · ((intro wx hSw; (try dsimp only at hSw); go_simp); try with_reducible rfl)
                  try simp only [Act.put, List.setIfInBounds_toArray, List.set_cons_zero, List.set_cons_succ]
                  refine wpAnyH_take (i := 6) (oi := ?_) (v := ?_) ?_ ?_ ?_ ?_ ?_ (Or.inl ⟨?_, ?_⟩) (by assumption) ?_
                  rotate_left 2
                  · ((try simp only [List.getElem?_toArray, List.getElem?_cons_zero, List.getElem?_cons_succ]); exact rfl)
                  · kernel_rfl
                  · kernel_rfl
                  · kernel_rfl
                  · exact fun _ _ _ h => h
                  · rfl
                  · ((intro wx hSw; (try dsimp only at hSw); go_simp); try with_reducible rfl)
                  try simp only [Act.put, List.setIfInBounds_toArray, List.set_cons_zero, List.set_cons_succ]
                  refine wpAnyH_take (i := 7) (oi := ?_) (v := ?_) ?_ ?_ ?_ ?_ ?_ (Or.inl ⟨?_, ?_⟩) (by assumption) ?_
                  rotate_left 2
                  · ((try simp only [List.getElem?_toArray, List.getElem?_cons_zero, List.getElem?_cons_succ]); exact rfl)
                  · kernel_rfl
                  · kernel_rfl
                  · kernel_rfl
                  · exact fun _ _ _ h => h
                  · rfl
                  · ((intro wx hSw; (try dsimp only at hSw); go_simp); try with_reducible rfl)
                  try simp only [Act.put, List.setIfInBounds_toArray, List.set_cons_zero, List.set_cons_succ]
                  refine wpAnyH_take (i := 8) (oi := ?_) (v := undef) ?_ ?_ ?_ ?_ ?_ (Or.inr ⟨?_, rfl⟩) (by assumption) ?_
                  rotate_left 1
                  · ((try simp only [List.getElem?_toArray, List.getElem?_cons_zero, List.getElem?_cons_succ]); exact rfl)
                  · kernel_rfl
                  · kernel_rfl
                  · kernel_rfl
                  · exact fun _ _ _ h => h
                  · rfl
                  try simp only [Act.put, List.setIfInBounds_toArray, List.set_cons_zero, List.set_cons_succ]
                  refine wpAnyH_take (i := 9) (oi := ?_) (v := undef) ?_ ?_ ?_ ?_ ?_ (Or.inr ⟨?_, rfl⟩) (by assumption) ?_
                  rotate_left 1
                  · ((try simp only [List.getElem?_toArray, List.getElem?_cons_zero, List.getElem?_cons_succ]); exact rfl)
                  · kernel_rfl
                  · kernel_rfl
                  · kernel_rfl
                  · exact fun _ _ _ h => h
                  · rfl
                  try simp only [Act.put, List.setIfInBounds_toArray, List.set_cons_zero, List.set_cons_succ]
                  refine wpAnyH_take (i := 10) (oi := ?_) (v := undef) ?_ ?_ ?_ ?_ ?_ (Or.inr ⟨?_, rfl⟩) (by assumption) ?_
                  rotate_left 1
                  · ((try simp only [List.getElem?_toArray, List.getElem?_cons_zero, List.getElem?_cons_succ]); exact rfl)
                  · kernel_rfl
                  · kernel_rfl
                  · kernel_rfl
                  · exact fun _ _ _ h => h
                  · rfl
                  try simp only [Act.put, List.setIfInBounds_toArray, List.set_cons_zero, List.set_cons_succ]
                  refine wpAnyH_take (i := 11) (oi := ?_) (v := undef) ?_ ?_ ?_ ?_ ?_ (Or.inr ⟨?_, rfl⟩) (by assumption) ?_
                  rotate_left 1
                  · ((try simp only [List.getElem?_toArray, List.getElem?_cons_zero, List.getElem?_cons_succ]); exact rfl)
                  · kernel_rfl
                  · kernel_rfl
                  · kernel_rfl
                  · exact fun _ _ _ h => h
                  · rfl
                  try simp only [Act.put, List.setIfInBounds_toArray, List.set_cons_zero, List.set_cons_succ]
                  refine wpAnyH_take (i := 12) (oi := ?_) (v := undef) ?_ ?_ ?_ ?_ ?_ (Or.inr ⟨?_, rfl⟩) (by assumption) ?_
                  rotate_left 1
                  · ((try simp only [List.getElem?_toArray, List.getElem?_cons_zero, List.getElem?_cons_succ]); exact rfl)
                  · kernel_rfl
                  · kernel_rfl
                  · kernel_rfl
                  · exact fun _ _ _ h => h
                  · rfl
                  try simp only [Act.put, List.setIfInBounds_toArray, List.set_cons_zero, List.set_cons_succ]
                  refine wpAnyH_take (i := 13) (oi := ?_) (v := ?_) ?_ ?_ ?_ ?_ ?_ (Or.inl ⟨?_, ?_⟩) (by assumption) ?_
                  rotate_left 2
                  · ((try simp only [List.getElem?_toArray, List.getElem?_cons_zero, List.getElem?_cons_succ]); exact rfl)
                  · kernel_rfl
                  · kernel_rfl
                  · kernel_rfl
                  · exact fun _ _ _ h => h
                  · rfl
                  · ((intro wx hSw; (try dsimp only at hSw); go_simp); try with_reducible rfl)
                  try simp only [Act.put, List.setIfInBounds_toArray, List.set_cons_zero, List.set_cons_succ]
                all_goals
                  try simp only [Act.put, List.setIfInBounds_toArray, List.set_cons_zero, List.set_cons_succ]
                  refine wpAnyH_ready (rs := [1, 14]) (by kernel_rfl) (by simp) ?_
                  refine AllReadyH.cons (o := ?_) ?_ (fun K hK => ?_) ?_
                  rotate_left 1
                  · ((try simp only [List.getElem?_toArray, List.getElem?_cons_zero, List.getElem?_cons_succ]); exact rfl)
                  · skip
                    go_simp
                    refine hK.out _ _ hHeld (fun hHeld => ?_)
                    clear hK K
                    refine wpAnyH_ready (rs := [14]) (by kernel_rfl) (by simp) ?_
                    refine AllReadyH.cons (o := ?_) ?_ (fun K hK => ?_) ?_
                    rotate_left 1
                    · ((try simp only [List.getElem?_toArray, List.getElem?_cons_zero, List.getElem?_cons_succ]); exact rfl)
                    rotate_left 1
                    · exact AllReadyH.nil
                    go_simp
                    refine hK.out _ _ (hHeld.alloc (by simp; omega) _) (fun hHeld => ?_)
                    clear hK K
                    refine wpAnyH_ready (rs := [15]) (by kernel_rfl) (by simp) ?_
                    refine AllReadyH.cons (o := ?_) ?_ (fun K hK => ?_) ?_
                    rotate_left 1
                    · ((try simp only [List.getElem?_toArray, List.getElem?_cons_zero, List.getElem?_cons_succ]); exact rfl)
                    rotate_left 1
                    · exact AllReadyH.nil
                    refine step_append_lies _ rfl (.tmp 100) (.tmp 113) 34 rfl (B + 3) 4 ib (.bool false) 1 1 Try.underlying34 hib hb0 hb1 hb2 rfl (by decide) (.slice mo mts.length mp) mts.length (mts.map Value.bool) (by simp [Act.eval, Act.put]) (HOM.out.alloc _) ⟨w8.heap.size, 0, none⟩ 1 1 [.bool _] (by simp [Act.eval, Act.put]) rfl (World.news_of_block (heap_alloc_new _ _)) (by simp [Value.oneCell']) (by omega) (by unfold maxLen; omega) (by omega) (by simp; omega) _ rfl ?_
                    intro g cap w9 hown hgrow hat9 hlt9
                    have hF : Mod (fun g => (Value.slice mo mts.length mp).ownBlock = some g) w8 w9 := (Mod.alloc (Mod.drewN (Mod.refl (fun g => (Value.slice mo mts.length mp).ownBlock = some g) w8) 1) _).grown hgrow (fun k hk _ => hk)
                    have h9 := hF.heap HH2.out (fun e => by have := (HOM.out.lt (B + 2) e).1; omega)
                    have d9 := block_cell (i := 3) h9 rfl
                    have f9 := block_free (i := 3) h9
                    have HO9 := Lib.hid hown
                    have HM9 := Lib.hid hF
                    have hb9 : Below (B + 2) w8 w9 := hF.toBelow (by omega) (fun k _ hk => by have := (HOM.out.lt k hk).1; omega)
                    clear hown hgrow hat9 hlt9 hF h9
                    refine hK.out _ _ hb9 (fun hHeld => ?_)
                    clear hK K
                    refine wpAnyH_take (i := 16) (oi := ?_) (v := ?_) ?_ ?_ ?_ ?_ ?_ (Or.inl ⟨?_, ?_⟩) (by assumption) ?_
                    rotate_left 2
                    · ((try simp only [List.getElem?_toArray, List.getElem?_cons_zero, List.getElem?_cons_succ]); exact rfl)
                    · kernel_rfl
                    · kernel_rfl
                    · kernel_rfl
                    · exact fun _ _ _ h => h
                    · rfl
                    · ((intro wx hSw; (try dsimp only at hSw); go_simp); try with_reducible rfl)
                    try simp only [Act.put, List.setIfInBounds_toArray, List.set_cons_zero, List.set_cons_succ]
                    refine wpAnyH_ready (rs := [17]) (by kernel_rfl) (by simp) ?_
                    refine AllReadyH.cons (o := ?_) ?_ (fun K hK => ?_) ?_
                    rotate_left 1
                    · ((try simp only [List.getElem?_toArray, List.getElem?_cons_zero, List.getElem?_cons_succ]); exact rfl)
                    rotate_left 1
                    · exact AllReadyH.nil
                    go_simp
                    refine hK.out _ _ (hb9.setCell (by show B + 2 ≤ B + 2; omega) _) (fun hHeld => ?_)
                    clear hK K
                    refine wpAnyH_done (by kernel_rfl) ?_ _
                    have hfin := HA7.out.putM HM9.out HO9.out
                    have HFIN := Lib.hid hfin
                    clear hfin al al0 c83 f83 m3
                    (try go_wp2_with fail)
                    go_roundw
                    case rel =>
                      refine ⟨k + 1, _, _, _, _, _, by go_num, by omega, Lib.hid ⟨by rw [List.length_append, hpl]; rfl, by rw [List.length_append, HML.out]; rfl, fun i r' hr' u hu => ?_⟩, HFIN⟩
                      rcases List.mem_append.1 (List.mem_of_getElem? hr') with h | h
                      · obtain ⟨j, hj, e⟩ := List.getElem_of_mem h
                        exact HC.out.2.2 j r' (by rw [List.getElem?_eq_getElem hj, e]) u hu
                      · rw [List.mem_singleton.1 h] at hu
                        exact HR.out.2 u hu
                    case measure => simp [intOf]; omega
                  refine AllReadyH.cons (o := ?_) ?_ (fun K hK => ?_) ?_
                  rotate_left 1
                  · ((try simp only [List.getElem?_toArray, List.getElem?_cons_zero, List.getElem?_cons_succ]); exact rfl)
                  · skip
                    go_simp
                    refine hK.out _ _ (hHeld.alloc (by simp; omega) _) (fun hHeld => ?_)
                    clear hK K
                    refine wpAnyH_ready (rs := [1]) (by kernel_rfl) (by simp) ?_
                    refine AllReadyH.cons (o := ?_) ?_ (fun K hK => ?_) ?_
                    rotate_left 1
                    · ((try simp only [List.getElem?_toArray, List.getElem?_cons_zero, List.getElem?_cons_succ]); exact rfl)
                    rotate_left 1
                    · exact AllReadyH.nil
                    go_simp
                    refine hK.out _ _ hHeld (fun hHeld => ?_)
                    clear hK K
                    refine wpAnyH_ready (rs := [15]) (by kernel_rfl) (by simp) ?_
                    refine AllReadyH.cons (o := ?_) ?_ (fun K hK => ?_) ?_
                    rotate_left 1
                    · ((try simp only [List.getElem?_toArray, List.getElem?_cons_zero, List.getElem?_cons_succ]); exact rfl)
                    rotate_left 1
                    · exact AllReadyH.nil
                    refine step_append_lies _ rfl (.tmp 100) (.tmp 113) 34 rfl (B + 3) 4 ib (.bool false) 1 1 Try.underlying34 hib hb0 hb1 hb2 rfl (by decide) (.slice mo mts.length mp) mts.length (mts.map Value.bool) (by simp [Act.eval, Act.put]) (HOM.out.alloc _) ⟨w8.heap.size, 0, none⟩ 1 1 [.bool _] (by simp [Act.eval, Act.put]) rfl (World.news_of_block (heap_alloc_new _ _)) (by simp [Value.oneCell']) (by omega) (by unfold maxLen; omega) (by omega) (by simp; omega) _ rfl ?_
                    intro g cap w9 hown hgrow hat9 hlt9
                    have hF : Mod (fun g => (Value.slice mo mts.length mp).ownBlock = some g) w8 w9 := (Mod.alloc (Mod.drewN (Mod.refl (fun g => (Value.slice mo mts.length mp).ownBlock = some g) w8) 1) _).grown hgrow (fun k hk _ => hk)
                    have h9 := hF.heap HH2.out (fun e => by have := (HOM.out.lt (B + 2) e).1; omega)
                    have d9 := block_cell (i := 3) h9 rfl
                    have f9 := block_free (i := 3) h9
                    have HO9 := Lib.hid hown
                    have HM9 := Lib.hid hF
                    have hb9 : Below (B + 2) w8 w9 := hF.toBelow (by omega) (fun k _ hk => by have := (HOM.out.lt k hk).1; omega)
                    clear hown hgrow hat9 hlt9 hF h9
                    refine hK.out _ _ hb9 (fun hHeld => ?_)
                    clear hK K
                    refine wpAnyH_take (i := 16) (oi := ?_) (v := ?_) ?_ ?_ ?_ ?_ ?_ (Or.inl ⟨?_, ?_⟩) (by assumption) ?_
                    rotate_left 2
                    · ((try simp only [List.getElem?_toArray, List.getElem?_cons_zero, List.getElem?_cons_succ]); exact rfl)
                    · kernel_rfl
                    · kernel_rfl
                    · kernel_rfl
                    · exact fun _ _ _ h => h
                    · rfl
                    · ((intro wx hSw; (try dsimp only at hSw); go_simp); try with_reducible rfl)
                    try simp only [Act.put, List.setIfInBounds_toArray, List.set_cons_zero, List.set_cons_succ]
                    refine wpAnyH_ready (rs := [17]) (by kernel_rfl) (by simp) ?_
                    refine AllReadyH.cons (o := ?_) ?_ (fun K hK => ?_) ?_
                    rotate_left 1
                    · ((try simp only [List.getElem?_toArray, List.getElem?_cons_zero, List.getElem?_cons_succ]); exact rfl)
                    rotate_left 1
                    · exact AllReadyH.nil
                    go_simp
                    refine hK.out _ _ (hb9.setCell (by show B + 2 ≤ B + 2; omega) _) (fun hHeld => ?_)
                    clear hK K
                    refine wpAnyH_done (by kernel_rfl) ?_ _
                    have hfin := HA7.out.putM HM9.out HO9.out
                    have HFIN := Lib.hid hfin
                    clear hfin al al0 c83 f83 m3
                    (try go_wp2_with fail)
                    go_roundw
                    case rel =>
                      refine ⟨k + 1, _, _, _, _, _, by go_num, by omega, Lib.hid ⟨by rw [List.length_append, hpl]; rfl, by rw [List.length_append, HML.out]; rfl, fun i r' hr' u hu => ?_⟩, HFIN⟩
                      rcases List.mem_append.1 (List.mem_of_getElem? hr') with h | h
                      · obtain ⟨j, hj, e⟩ := List.getElem_of_mem h
                        exact HC.out.2.2 j r' (by rw [List.getElem?_eq_getElem hj, e]) u hu
                      · rw [List.mem_singleton.1 h] at hu
                        exact HR.out.2 u hu
                    case measure => simp [intOf]; omega
                  exact AllReadyH.nil
          · obtain rfl : k = n := by omega
            obtain ⟨co, cp, e7⟩ := ownsRow_form HA.out.oc
            obtain ⟨no, np, e9⟩ := ownsRow_form HA.out.on
            obtain ⟨mo, mp, e8⟩ := ownsRow_form HA.out.om
            subst e7 e8 e9
            have hT0 := HA.out.tab (Mod.refl _ _) HCC.out.1 HC.out.1 HC.out.2.1 HC.out.2.2 hn2
            have c0 := block_cell (i := 0) HA.out.h2 rfl
            have c1 := block_cell (i := 1) HA.out.h2 rfl
            have c2 := block_cell (i := 2) HA.out.h2 rfl
            have c3 := block_cell (i := 3) HA.out.h2 rfl
            have c4 := block_cell (i := 4) HA.out.h2 rfl
            have c5 := block_cell (i := 5) HA.out.h2 rfl
            have htd := told_any (st := (s0 : Int)) (ao := none) (an := 0) (ac := 0) (bo := none) (bn := 0) (bc := 0) wk hT0
            unfold RVal at htd
            clear hT0
            go_wp2_with fail
            refine htd.mono ?_
            rintro e w5 ⟨CV5, AV5, cans, als, rfl, hcv, hav, hok, hb5⟩
            obtain ⟨co5, cp5, rfl⟩ := hcv.form
            obtain ⟨ao5, ap5, rfl⟩ := hav.form
            have HA5 := Lib.hid (HA.out.below hb5)
            have HR1 := Lib.hid HA5.out.h1
            rw [show zeroTab = #[.int .i64 0, .slice none 0 0, .slice none 0 0, .slice none 0 0, .slice none 0 0, .slice none 0 0] from rfl] at HR1
            have e0 := block_cell (i := 0) HR1.out rfl
            have e1 := block_cell (i := 1) HR1.out rfl
            have e2 := block_cell (i := 2) HR1.out rfl
            have e3 := block_cell (i := 3) HR1.out rfl
            have e4 := block_cell (i := 4) HR1.out rfl
            have e5 := block_cell (i := 5) HR1.out rfl
            have f0 := block_free (i := 0) HR1.out
            have f1 := block_free (i := 1) HR1.out
            have f2 := block_free (i := 2) HR1.out
            have f3 := block_free (i := 3) HR1.out
            have f4 := block_free (i := 4) HR1.out
            have f5 := block_free (i := 5) HR1.out
            obtain ⟨W9, hW9⟩ : ∃ W9, W9 = ((((((w5.setCell ⟨B + 1, 0, none⟩ (.int .i64 s0)).setCell ⟨B + 1, 1, none⟩ (.slice co cls.length cp)).setCell ⟨B + 1, 2, none⟩ (.slice no rvs.length np)).setCell ⟨B + 1, 3, none⟩ (.slice mo mts.length mp)).setCell ⟨B + 1, 4, none⟩ (.slice co5 k cp5)).setCell ⟨B + 1, 5, none⟩ (.slice ao5 k ap5)) := ⟨_, rfl⟩
            have hstt : W9.heap[B + 1]? = some (.cells #[.int .i64 s0, .slice co cls.length cp, .slice no rvs.length np, .slice mo mts.length mp, .slice co5 k cp5, .slice ao5 k ap5] 36 (0, 0)) := by
              rw [hW9]
              exact block_set (i := 5) (u := .slice ao5 k ap5) (block_set (i := 4) (u := .slice co5 k cp5) (block_set (i := 3) (u := .slice mo mts.length mp) (block_set (i := 2) (u := .slice no rvs.length np) (block_set (i := 1) (u := .slice co cls.length cp) (block_set (i := 0) (u := .int .i64 s0) HR1.out)))))
            have hm9 : Mod (fun g => g = B + 1) w5 W9 := by
              rw [hW9]
              exact ((((((Mod.refl (fun g => g = B + 1) w5).setCell (p := ⟨B + 1, 0, none⟩) (fun _ => rfl) _).setCell (p := ⟨B + 1, 1, none⟩) (fun _ => rfl) _).setCell (p := ⟨B + 1, 2, none⟩) (fun _ => rfl) _).setCell (p := ⟨B + 1, 3, none⟩) (fun _ => rfl) _).setCell (p := ⟨B + 1, 4, none⟩) (fun _ => rfl) _).setCell (p := ⟨B + 1, 5, none⟩) (fun _ => rfl) _
            have htab := HA5.out.tab hm9 HCC.out.1 HC.out.1 HC.out.2.1 HC.out.2.2 hn2
            have hr1 := bools_mod hcv HR1.out zero_nob hm9
            have hr2 := bools_mod hav HR1.out zero_nob hm9
            have hbl := block_lt HR1.out
            have hbf : Below B w W9 := (HA5.out.bel).trans (hm9.toBelow (B := B) (by omega) (fun g _ e => by omega))
            have HST := Lib.hid hstt
            have HTAB := Lib.hid htab
            have HR1' := Lib.hid hr1
            have HR2' := Lib.hid hr2
            have HOK := Lib.hid hok
            have HBF' := Lib.hid (HBE.out ▸ hbf)
            have HW9 := Lib.hid hW9
            clear hstt htab hm9 hr1 hr2 hbf hW9 hok hcv hav hb5
            go_wp2_with fail
            try simp only [Exit.inBlock, Exit.then]
            rw [← HW9.out]
            refine bodyPost_ret (results_cell_row rfl _ _ (B + 1) 36 _ (0, 0) _ rfl HST.out Try.underlying36 rfl (by kernel_rfl)) rfl ?_
            exact ⟨k, s0, _, _, _, _, _, cls, nxs, rvs, mts, cans, als, rfl, hs0, HCC.out.1, HCC.out.2, HTAB.out, HR1'.out, HR2'.out, HOK.out, HBF'.out⟩
end Go.Proofs.Ytanimdajohpggaa.Table
