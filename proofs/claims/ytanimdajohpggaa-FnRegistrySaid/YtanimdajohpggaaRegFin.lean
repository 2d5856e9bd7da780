/- The law FnRegistry: its walk. -/
import Derived.Test.YtanimdajohpggaaRegRun
theorem Go.RowKit.Below.cell' {w w' : Go.World} (h : Go.RowKit.Below w.heap.size w w') {a : Go.Addr} {v : Go.Value} (ha : w.cell? a = some v) : w'.cell? a = some v :=
  (h.cell (Go.World.block_lt_of_cell? w _ ha)).trans ha
namespace Go.Proofs.Ytanimdajohpggaa.Node
open Go.ChangeShapes Go.WideShapes Go.ChangeAt Go.RowKit Go.Trav Go.Sort
set_option linter.unusedVariables false
set_option maxRecDepth 100000
/-- The first of the states from m on (ahead of i) that is as the i-th; -1: none. -/
def FF (S : List St) (i m : Nat) (F : Int) : Prop :=
  (F = -1 ∧ ∀ j, m ≤ j → j < i → S[j]? ≠ S[i]?) ∨ (∃ j : Nat, F = (j : Int) ∧ m ≤ j ∧ j < i ∧ S[j]? = S[i]? ∧ ∀ j', m ≤ j' → j' < j → S[j']? ≠ S[i]?)
theorem FF.start (S : List St) (i : Nat) : FF S i i (-1) := Or.inl ⟨rfl, fun j h1 h2 => by omega⟩
theorem FF.yes {S : List St} {i m : Nat} {F : Int} (h : FF S i (m + 1) F) (hm : m < i) (he : S[m]? = S[i]?) : FF S i m m :=
  Or.inr ⟨m, rfl, Nat.le_refl _, hm, he, fun j h1 h2 => by omega⟩
theorem FF.no {S : List St} {i m : Nat} {F : Int} (h : FF S i (m + 1) F) (he : S[m]? ≠ S[i]?) : FF S i m F := by
  rcases h with ⟨h1, h2⟩ | ⟨j, h1, h2, h3, h4, h5⟩
  · refine Or.inl ⟨h1, fun j a b => ?_⟩
    rcases Nat.lt_or_ge m j with c | c
    · exact h2 j c b
    · obtain rfl : j = m := by omega
      exact he
  · refine Or.inr ⟨j, h1, by omega, h3, h4, fun j' a b => ?_⟩
    rcases Nat.lt_or_ge m j' with c | c
    · exact h5 j' c b
    · obtain rfl : j' = m := by omega
      exact he
/-- With room for all what was found is the first one. -/
theorem good_first {S : List St} {mru i : Nat} {g F : Int} (hg : Good S mru i g) (hi : i < S.length) (hm : S.length ≤ mru) (hF : FF S i 0 F) : g = F := by
  obtain ⟨h1, h2⟩ := hg
  obtain ⟨h3, h4⟩ := h2 hm
  have hs : ∃ s, S[i]? = some s := ⟨S[i], List.getElem?_eq_getElem hi⟩
  obtain ⟨s, hs⟩ := hs
  by_cases e : g = -1
  · have hf := h3 e
    rcases hF with ⟨rfl, _⟩ | ⟨j, rfl, _, hj, hjs, _⟩
    · exact e
    · exact absurd rfl (hf j hj s s (by rw [hjs, hs]) hs)
  · obtain ⟨k, hk, rfl, hks⟩ := h1 e
    have hf := h4 k rfl
    rcases hF with ⟨rfl, hn⟩ | ⟨j, rfl, _, hj, hjs, hjn⟩
    · exact absurd hks (hn k (Nat.zero_le _) hk)
    · rcases Nat.lt_trichotomy j k with c | c | c
      · exact absurd rfl (hf j c s s (by rw [hjs, hs]) (by rw [hks, hs]))
      · rw [c]
      · exact absurd hks (hjn k (Nat.zero_le _) c)
theorem sameB_iff {x y : StV} : sameB x.f y.f x.o y.o x.l y.l = true ↔ stOf x = stOf y := by
  simp [sameB, stOf]
theorem same_st {x y : StV} {xv yv : Value} (w : World) (hx : Arcs w xv x.l.length x.l) (hy : Arcs w yv y.l.length y.l) :
    Calls Try.prog 11 #[.agg #[.bool x.f, .int .u64 x.o, xv], .agg #[.bool y.f, .int .u64 y.o, yv]] w fun e w' => e = .returned (.bool (decide (stOf x = stOf y))) ∧ Below w.heap.size w w' := by
  have h := same_any x.f y.f x.o y.o xv yv _ _ x.l y.l w hx hy
  have e : sameB x.f y.f x.o y.o x.l y.l = decide (stOf x = stOf y) := by
    rw [Bool.eq_iff_iff, decide_eq_true_iff]; exact sameB_iff
  rwa [e] at h
theorem same_yes {x y : StV} {xv yv : Value} (w : World) (he : decide (stOf x = stOf y) = true) (hx : Arcs w xv x.l.length x.l) (hy : Arcs w yv y.l.length y.l) :
    Calls Try.prog 11 #[.agg #[.bool x.f, .int .u64 x.o, xv], .agg #[.bool y.f, .int .u64 y.o, yv]] w fun e w' => e = .returned (.bool true) ∧ Below w.heap.size w w' := by
  have h := same_st w hx hy
  rwa [he] at h
set_option maxHeartbeats 4000000 in
theorem law_any (v : Value) (n : Nat) (SV : List StV) (rows mru : Int) (w : World) (h : States w v n SV) :
    Calls Try.prog 3 #[v, .int .i64 rows, .int .i64 mru] w fun e w' => e = .returned (.bool true) ∧ Below w.heap.size w w' := by
  have hbd := h.cells.bound
  obtain ⟨ao, cap, rfl⟩ := h.cells.form
  have H := Lib.hid h
  clear h
  go_enter Try.func3, Try.ntmps3
  go_wp2_with fail
  refine (fits8_any _ _ _ _ H.out).mono ?_
  rintro e w1 ⟨⟨fb, rfl, hfit⟩, hb1⟩
  cases fb with
  | false =>
    clear hfit
    go_wp2_with fail
    go_ret
    exact ⟨rfl, hb1⟩
  | true =>
    have HFIT := Lib.hid (hfit rfl)
    clear hfit
    by_cases c1 : n ≤ 200
    · by_cases c2 : 1 ≤ rows
      · by_cases c3 : rows ≤ 1000
        · by_cases c4 : 1 ≤ mru
          · by_cases c5 : mru ≤ 1000
            · obtain ⟨rows, rfl⟩ : ∃ r : Nat, rows = (r : Int) := ⟨rows.toNat, by omega⟩
              obtain ⟨mru, rfl⟩ : ∃ r : Nat, mru = (r : Int) := ⟨mru.toNat, by omega⟩
              have hm1 : 1 ≤ mru := by omega
              have hr1 : 1 ≤ rows := by omega
              have hm2 : mru ≤ 1000 := by omega
              have hr2 : rows ≤ 1000 := by omega
              clear c2 c3 c4 c5
              go_wp2_with fail
              go_loopw [7] (fun ix wr => ∃ k : Nat, ix = .int .i64 k ∧ k ≤ n ∧ Below w.heap.size w wr) (fun ix _ => n - (intOf ix).toNat)
              case atStart => exact ⟨0, rfl, Nat.zero_le _, hb1⟩
              case round =>
                obtain ⟨k, rfl, hk, hb⟩ := hrel
                by_cases hlt : k < n
                · obtain ⟨b, off, _, x, hx, e1, p0, p1, p2, ha⟩ := (H.out.below hb).at hlt
                  cases hx
                  obtain ⟨xa, xcap, hxv⟩ := ha.form
                  rw [hxv] at p2 ha
                  clear e1 hxv
                  go_wp2_with fail
                  refine (rising_any _ _ _ _ _ _ ha).mono ?_
                  rintro e w3 ⟨rfl, hb3⟩
                  have hb4 := hb.trans (hb3.mono hb.size)
                  clear hb3
                  by_cases hr : risingB x.l = true
                  · rw [hr]
                    clear hr
                    go_wp2_with fail
                    go_roundw
                    case rel => exact ⟨k + 1, by go_num, by omega, hb4⟩
                    case measure => simp [intOf]; omega
                  · rw [show risingB x.l = false by simpa using hr]
                    clear hr
                    go_wp2_with fail
                    go_ret
                    exact ⟨rfl, hb4⟩
                · obtain rfl : n = k := by omega
                  clear hlt hk
                  go_wp2_with fail
                  refine (registry_any _ _ SV rows mru _ (H.out.below hb) c1 HFIT.out.2 hm1 hm2 hr1 hr2).mono ?_
                  rintro e w3 ⟨ov, gs, rfl, hreads, hgood, hb3⟩
                  have hb4 := hb.trans (hb3.mono hb.size)
                  obtain ⟨oa, ocap, rfl⟩ := hreads.form
                  have HR := Lib.hid hreads
                  have HG := Lib.hid hgood
                  clear hreads hgood hb3
                  have hnn : ((n : Int) != (n : Int)) = false := by simp
                  go_wp2_with fail
                  clear hnn
                  go_loopw [9] (fun ix wr => ∃ i : Nat, ix = .int .i64 i ∧ i ≤ n ∧ Below w.heap.size w wr ∧ Hid (Reads wr (.slice oa n ocap) n 1 (gs.map iV))) (fun ix _ => n - (intOf ix).toNat)
                  case atStart => exact ⟨0, rfl, Nat.zero_le _, hb4, HR⟩
                  case round =>
                    clear hb hb4 HR
                    obtain ⟨i, rfl, hi, hb, HR⟩ := hrel
                    by_cases hlt : i < n
                    · obtain ⟨b, off, _, x, hx, ex, p0, p1, p2, ha⟩ := (H.out.below hb).at hlt
                      cases hx
                      obtain ⟨xa, xcap, hxv⟩ := ha.form
                      rw [hxv] at p2 ha
                      have hsx : (SV.map stOf)[i]? = some (stOf x) := by rw [List.getElem?_map, ex]; rfl
                      have EX := Lib.hid hsx
                      have HA := Lib.hid ha
                      clear ex ha hsx hxv
                      go_wp2_with fail
                      rename World => wo
                      go_loopw [10, 11] (fun F kx wr => ∃ (m : Nat) (Fi : Int), F = .int .i64 Fi ∧ kx = .int .i64 ((m : Int) - 1) ∧ m ≤ i ∧ Below wo.heap.size wo wr ∧ Hid (FF (SV.map stOf) i m Fi)) (fun _ kx _ => (intOf kx + 1).toNat)
                      case atStart => exact ⟨i, -1, rfl, rfl, Nat.le_refl _, Below.refl _ _, Lib.hid (FF.start _ _)⟩
                      case round =>
                        obtain ⟨m, Fi, rfl, rfl, hm, hbw, HF⟩ := hrel
                        by_cases hm0 : 1 ≤ m
                        · obtain ⟨m, rfl⟩ : ∃ m', m = m' + 1 := ⟨m - 1, by omega⟩
                          obtain ⟨b', off', _, y, hx', ey, q0, q1, q2, ha'⟩ := (H.out.below (hb.trans (hbw.mono hb.size))).at (show m < n by omega)
                          cases hx'
                          obtain ⟨ya, ycap, hyv⟩ := ha'.form
                          rw [hyv] at q2 ha'
                          have hsy : (SV.map stOf)[m]? = some (stOf y) := by rw [List.getElem?_map, ey]; rfl
                          have EY := Lib.hid hsy
                          have p0' := hbw.cell' p0
                          have p1' := hbw.cell' p1
                          have p2' := hbw.cell' p2
                          have HA' := Lib.hid ha'
                          clear ey ha' hsy hyv
                          have em : ((m : Int) + 1 - 1) = m := by omega
                          go_wp2_with fail
                          clear em
                          have r0 := cell_regrown p0'
                          have r1 := cell_regrown p1'
                          have r2 := cell_regrown p2'
                          have t0 := cell_regrown q0
                          have t1 := cell_regrown q1
                          have t2 := cell_regrown q2
                          clear p0' p1' p2' q0 q1 q2
                          refine wp_region_quiet_below (by kernel_rfl) (by kernel_rfl) ?_
                          repeat (first | go_big_quiet_step ((go_at_call 11; exact Calls.regrown_of (same_st _ (HA'.out.below (below_regrown _ _ _)) (HA.out.below (hbw.trans ((below_regrown _ _ _).mono hbw.size)))))) | quiet_step ((go_at_call 11; exact Calls.regrown_of (same_st _ (HA'.out.below (below_regrown _ _ _)) (HA.out.below (hbw.trans ((below_regrown _ _ _).mono hbw.size)))))))
                          refine wpQuiet_nil ?_
                          intro _ hw'
                          obtain ⟨⟨dq, osq⟩, hw''⟩ := hw'
                          subst hw''
                          have hbw2 := hbw.trans ((below_regrown wr dq osq).mono hbw.size)
                          clear r0 r1 r2 t0 t1 t2
                          by_cases he : stOf y = stOf x
                          · have hd : decide (stOf y = stOf x) = true := by simpa using he
                            rw [hd]
                            clear hd
                            have HE := Lib.hid he
                            clear he
                            go_wp2_with fail
                            go_roundw
                            case rel => exact ⟨m, m, by congr 1; omega, rfl, by omega, hbw2, Lib.hid (HF.out.yes (by omega) (by rw [EX.out, EY.out, HE.out]))⟩
                            case measure => simp [intOf]
                          · have hd : decide (stOf y = stOf x) = false := by simpa using he
                            rw [hd]
                            clear hd
                            have HE := Lib.hid he
                            clear he
                            go_wp2_with fail
                            go_roundw
                            case rel => exact ⟨m, Fi, rfl, rfl, by omega, hbw2, Lib.hid (HF.out.no (by rw [EX.out, EY.out]; intro e; exact HE.out (Option.some.inj e)))⟩
                            case measure => simp [intOf]
                        · obtain rfl : m = 0 := by omega
                          have hF0 : Hid (FF (List.map stOf SV) i 0 Fi) := HF
                          have HR2 := Lib.hid (HR.out.below hbw)
                          obtain ⟨b2, off2, _, g, hx2, eg, cg⟩ := Reads.one iV HR2.out hlt
                          cases hx2
                          have hg := HG.out i g eg
                          have HGG := Lib.hid hg
                          have p0' := hbw.cell' p0
                          have p1' := hbw.cell' p1
                          have p2' := hbw.cell' p2
                          unfold iV at cg
                          clear eg hg p0 p1 p2
                          have em : (((0 : Nat) : Int) - 1) = -1 := by omega
                          go_wp2_with fail
                          clear em
                          have hlS : (SV.map stOf).length = n := by rw [List.length_map]; exact H.out.len
                          have HLS := Lib.hid hlS
                          clear hlS
                          have hFg : n ≤ mru → g = Fi := fun c => good_first HGG.out (by rw [HLS.out]; exact hlt) (by rw [HLS.out]; exact c) hF0.out
                          have HFG := Lib.hid hFg
                          clear hFg
                          by_cases hg1 : g = -1
                          · subst hg1
                            by_cases c : n ≤ mru
                            · have e := HFG.out c
                              subst e
                              go_quiet (fail)
                              go_wp2_with fail
                              go_roundw
                              case rel => exact ⟨i + 1, by go_num, by omega, below_drewN (hb.trans (hbw.mono hb.size)) _, Lib.hid (HR2.out.drewN _)⟩
                              case measure => simp [intOf]; omega
                            · have cd : decide (n ≤ mru) = false := by simpa using c
                              clear c
                              go_quiet (fail)
                              go_wp2_with fail
                              go_roundw
                              case rel => exact ⟨i + 1, by go_num, by omega, below_drewN (hb.trans (hbw.mono hb.size)) _, Lib.hid (HR2.out.drewN _)⟩
                              case measure => simp [intOf]; omega
                          · obtain ⟨k, hki, rfl, hks⟩ := HGG.out.1 hg1
                            obtain ⟨b', off', _, y, hx', ey, q0, q1, q2, ha'⟩ := (H.out.below (hb.trans (hbw.mono hb.size))).at (show k < n by omega)
                            cases hx'
                            obtain ⟨ya, ycap, hyv⟩ := ha'.form
                            rw [hyv] at q2 ha'
                            have hd : decide (stOf y = stOf x) = true := by
                              rw [EX.out, List.getElem?_map, ey] at hks
                              simpa using hks
                            have HD := Lib.hid hd
                            have HA' := Lib.hid ha'
                            clear ey ha' hks hyv hd hg1
                            have g1 : ((k : Int) != -1) = true := by simp
                            have g2 : decide ((k : Int) < 0) = false := by simp
                            have g3 : decide (i ≤ k) = false := by simp; omega
                            have r0 := cell_regrown p0'
                            have r1 := cell_regrown p1'
                            have r2 := cell_regrown p2'
                            have t0 := cell_regrown q0
                            have t1 := cell_regrown q1
                            have t2 := cell_regrown q2
                            have s0 := cell_regrown cg
                            clear p0' p1' p2' q0 q1 q2 cg
                            by_cases c : n ≤ mru
                            · have e := HFG.out c
                              subst e
                              refine wp_region_quiet_below (by kernel_rfl) (by kernel_rfl) ?_
                              repeat (first | go_big_quiet_step ((go_at_call 11; exact Calls.regrown_of (same_yes _ HD.out (HA'.out.below (below_regrown _ _ _)) (HA.out.below (hbw.trans ((below_regrown _ _ _).mono hbw.size)))))) | quiet_step ((go_at_call 11; exact Calls.regrown_of (same_yes _ HD.out (HA'.out.below (below_regrown _ _ _)) (HA.out.below (hbw.trans ((below_regrown _ _ _).mono hbw.size)))))))
                              refine wpQuiet_nil ?_
                              intro _ hw'
                              obtain ⟨⟨dq, osq⟩, hw''⟩ := hw'
                              subst hw''
                              have hbw3 := hbw.trans ((below_regrown wr dq osq).mono hbw.size)
                              go_wp2_with fail
                              go_roundw
                              case rel => exact ⟨i + 1, by go_num, by omega, hb.trans (hbw3.mono hb.size), Lib.hid (HR2.out.below (below_regrown wr dq osq))⟩
                              case measure => simp [intOf]; omega
                            · have cd : decide (n ≤ mru) = false := by simpa using c
                              clear c
                              refine wp_region_quiet_below (by kernel_rfl) (by kernel_rfl) ?_
                              repeat (first | go_big_quiet_step ((go_at_call 11; exact Calls.regrown_of (same_yes _ HD.out (HA'.out.below (below_regrown _ _ _)) (HA.out.below (hbw.trans ((below_regrown _ _ _).mono hbw.size)))))) | quiet_step ((go_at_call 11; exact Calls.regrown_of (same_yes _ HD.out (HA'.out.below (below_regrown _ _ _)) (HA.out.below (hbw.trans ((below_regrown _ _ _).mono hbw.size)))))))
                              refine wpQuiet_nil ?_
                              intro _ hw'
                              obtain ⟨⟨dq, osq⟩, hw''⟩ := hw'
                              subst hw''
                              have hbw3 := hbw.trans ((below_regrown wr dq osq).mono hbw.size)
                              go_wp2_with fail
                              go_roundw
                              case rel => exact ⟨i + 1, by go_num, by omega, hb.trans (hbw3.mono hb.size), Lib.hid (HR2.out.below (below_regrown wr dq osq))⟩
                              case measure => simp [intOf]; omega
                    · obtain rfl : n = i := by omega
                      go_wp2_with fail
                      go_ret
                      exact ⟨rfl, hb⟩
            · go_wp2_with fail
              go_ret
              exact ⟨rfl, hb1⟩
          · go_wp2_with fail
            go_ret
            exact ⟨rfl, hb1⟩
        · go_wp2_with fail
          go_ret
          exact ⟨rfl, hb1⟩
      · go_wp2_with fail
        go_ret
        exact ⟨rfl, hb1⟩
    · go_wp2_with fail
      go_ret
      exact ⟨rfl, hb1⟩
end Go.Proofs.Ytanimdajohpggaa.Node
