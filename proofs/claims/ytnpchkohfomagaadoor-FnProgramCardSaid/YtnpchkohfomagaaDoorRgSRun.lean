/- The spec of the automaton of instructions: spec.Run. -/
import Derived.Test.YtnpchkohfomagaaDoorRgReach
import Derived.Test.YtnpchkohfomagaaDoorPath
namespace Go.Proofs.YtnpchkohfomagaaDoor.Rgw
open Go.ChangeShapes Go.WideShapes Go.ChangeAt Go.RowKit Go.Trav Go.Rg Path
set_option linter.unusedVariables false
set_option linter.unusedSimpArgs false
set_option maxRecDepth 100000
def wantM' (l : List In) (s : List Nat) (i : Nat) : Bool := isM l (kAt l s i)
def wantC' (l : List In) (s : List Nat) (i : Nat) : Bool := !(kAt l s i).isEmpty
def rowM (l : List In) (s : ByteArray) (n : Nat) : List Value := ((List.range n).map (wantM' l (s.data.toList.map UInt8.toNat))).map Value.bool
def rowC (l : List In) (s : ByteArray) (n : Nat) : List Value := ((List.range n).map (wantC' l (s.data.toList.map UInt8.toNat))).map Value.bool
theorem made_bool (n : Nat) : madeCells #[Value.bool false] n = ((List.replicate n false).map Value.bool).toArray := by
  apply Array.ext
  · simp [size_madeCells]
  · intro i h1 h2
    have : i % 1 = 0 := Nat.mod_one i
    simp [madeCells, this]
theorem own_made {w : World} {base n : Nat} (hb : base ≤ w.heap.size) (hn : n ≤ 1000000) : (w.alloc (.cells (madeCells #[Value.bool false] n) 4)).ownsRow base 4 1 (.slice (some ⟨w.heap.size, 0, none⟩) n n) n ((List.replicate n false).map Value.bool) := by
  refine ⟨by simp, Or.inr ⟨w.heap.size, n, _, rfl, hb, heap_alloc_new w _, Nat.le_refl _, by unfold maxLen; omega, by simp [size_madeCells], ?_⟩⟩
  rw [made_bool, List.toList_toArray]
  exact List.take_of_length_le (by simp)
theorem own_made0 {w : World} {base n : Nat} (hb : base ≤ w.heap.size) (h0 : 0 < n) (hn : n ≤ 1000000) : (w.alloc (.cells ((madeCells #[Value.bool false] n).setIfInBounds 0 (.bool true)) 4)).ownsRow base 4 1 (.slice (some ⟨w.heap.size, 0, none⟩) n n) n (((List.replicate n false).set 0 true).map Value.bool) := by
  refine ⟨by simp, Or.inr ⟨w.heap.size, n, _, rfl, hb, heap_alloc_new w _, Nat.le_refl _, by unfold maxLen; omega, by simp [size_madeCells], ?_⟩⟩
  rw [made_bool, Array.toList_setIfInBounds, List.toList_toArray, List.map_set]
  exact List.take_of_length_le (by simp)
theorem own_drewN {w : World} {base : Nat} {e : TypeId} {size : Nat} {v : Value} {n : Nat} {xs : List Value} (h : w.ownsRow base e size v n xs) (k : Nat) : (w.drewN k).ownsRow base e size v n xs := h
theorem keep_row {w1 w2 : World} {v1 : Value} {o : Obj} {base gn n c m size : Nat} {e : TypeId} {xs : List Value} (hgr : (w1.alloc o).grownBy w2 v1.ownBlock) (hn : w1.ownsRow base e size (.slice (some ⟨gn, 0, none⟩) m c) n xs) (hlt : ∀ k, v1.ownBlock = some k → k < gn) : w2.ownsRow base e size (.slice (some ⟨gn, 0, none⟩) m c) n xs := by
  have hm : Mod (fun k => v1.ownBlock = some k) w1 w2 := ((Mod.refl _ _).alloc o).grown hgr fun k hk _ => hk
  refine ownsRow_mod hn hm fun g hg he => ?_
  have : g = gn := by simp [Value.ownBlock] at hg; exact hg.symm
  subst this
  exact absurd (hlt _ he) (Nat.lt_irrefl _)
theorem snoc_row (f : Nat → Bool) (i : Nat) : ((List.range i).map f).map Value.bool ++ #[Value.bool (f i)].toList = ((List.range (i + 1)).map f).map Value.bool := by simp [List.range_succ]
set_option maxHeartbeats 20000000 in
theorem srun_any (l : List In) (lv : Value) (s : ByteArray) (w : World) (hs : Sound l) (h0 : 0 < l.length) (hl : l.length ≤ 100000) (hr : Reads w lv l.length 6 (l.flatMap inC)) (hss : s.size ≤ 1000) :
    Calls Tryd.prog 13 #[lv, .string s] w fun e w' => ∃ v1 v2 : Value, e = .returned (.tuple #[v1, v2]) ∧ Below w.heap.size w w' ∧ Reads w' v1 (s.size + 1) 1 (rowM l s (s.size + 1)) ∧ Reads w' v2 (s.size + 1) 1 (rowC l s (s.size + 1)) := by
  obtain ⟨b, o, c, rfl, _⟩ := in_slice hr h0
  have hmk := fun W => run_make_row' (P := Tryd.prog) 25 4 (.bool false) 1 Tryd.underlying25 Tryd.infoBool rfl .i64 .i64 l.length (by omega) (by omega) W
  have H := Lib.hid hr
  have HS := Lib.hid hs
  clear hr hs
  have f00 : (w.alloc (.cells (madeCells #[Value.bool false] l.length) 4)).cell? ⟨w.heap.size, 0, none⟩ = some (.bool false) := by
    refine block_cell (heap_alloc_new w _) ?_
    rw [made_bool, List.getElem?_toArray, List.getElem?_map, List.getElem?_replicate, if_pos h0]; rfl
  have f01 : (w.alloc (.cells (madeCells #[Value.bool false] l.length) 4)).frozen? ⟨w.heap.size, 0, none⟩ = false := block_free (heap_alloc_new w _)
  go_enter Tryd.func13, Tryd.ntmps13
  go_wp2_with fail
  have ho1 := own_made0 (w := w) (Nat.le_refl _) h0 (by omega : l.length ≤ 1000000)
  have hb1 : Below w.heap.size w (w.alloc (.cells ((madeCells #[Value.bool false] l.length).setIfInBounds 0 (.bool true)) 4)) := (Below.refl _ _).alloc (Nat.le_refl _) _
  generalize w.alloc (.cells ((madeCells #[Value.bool false] l.length).setIfInBounds 0 (.bool true)) 4) = w1 at *
  have HB1 := Lib.hid hb1
  have HO1 := Lib.hid ho1
  clear ho1 hb1 f00 f01
  go_loopw [4, 5, 6, 7] (fun v1 v2 sv iv wr => ∃ (i : Nat) (bs : List Bool), iv = .int .i64 i ∧ i ≤ s.size ∧ Hid (Three w wr i i 0 v1 v2 (.slice none 0 0) (rowM l s i) (rowC l s i) []) ∧ Hid (HeadIs l (s.data.toList.map UInt8.toNat) i bs) ∧ Hid (Reads wr sv l.length 1 (bs.map Value.bool))) (fun _ _ _ iv _ => s.size + 1 - (intOf iv).toNat)
  case atStart => exact ⟨0, _, rfl, Nat.zero_le _, Lib.hid ((Three.start w).below HB1.out), Lib.hid (head_zero _ h0), Lib.hid (reads_of_owns HO1.out)⟩
  case round =>
    obtain ⟨i, bs, rfl, hi, HT, HH, HR⟩ := hrel
    have hre := reached_any l (rAt l (s.data.toList.map UInt8.toNat) i) (.slice (some ⟨b, o, none⟩) l.length c) u6 bs wr HS.out (H.out.below HT.out.bel) h0 (by omega) HR.out HH.out.2
    have HRE := Lib.hid hre
    clear hre
    go_wp2_with fail
    refine HRE.out.mono ?_
    rintro e w2 ⟨v', bs', rfl, hcl, hown, hb2⟩
    have hT2 := HT.out.below hb2
    obtain ⟨hsm, hsc⟩ := closed_says HS.out h0 hcl
    obtain ⟨so, sc, rfl⟩ := ownsRow_form hown
    have hsz2 : wr.heap.size ≤ w2.heap.size := hb2.size
    have HCL := Lib.hid hcl
    have HOW := Lib.hid hown
    have HT2 := Lib.hid hT2
    have HSM := Lib.hid hsm
    have HSC := Lib.hid hsc
    clear hcl hown hb2 hT2 hsm hsc HT HR HRE
    go_wp2_with fail
    have hon := own_made (w := w2) (base := w2.heap.size) (Nat.le_refl _) (by omega : l.length ≤ 1000000)
    have hb3 : Below w2.heap.size w2 (w2.alloc (.cells (madeCells #[Value.bool false] l.length) 4)) := (Below.refl _ _).alloc (Nat.le_refl _) _
    obtain ⟨gn, hgn⟩ : ∃ gn, gn = w2.heap.size := ⟨_, rfl⟩
    rw [← hgn] at hon hb3
    rw [← hgn]
    generalize w2.alloc (.cells (madeCells #[Value.bool false] l.length) 4) = w3 at *
    have HGN := Lib.hid hgn
    have HON := Lib.hid hon
    have HB3 := Lib.hid hb3
    clear hgn hon hb3
    go_loopw [8, 9, 11] (fun mv cv kv wr => ∃ (k : Nat) (nx : List Bool), kv = .int .i64 k ∧ k ≤ l.length ∧ mv = .bool (anyTo (matchAt l) bs' k) ∧ cv = .bool (anyTo (takes l) bs' k) ∧ Hid (Below gn w2 wr) ∧ Hid (wr.ownsRow gn 4 1 (.slice (some ⟨gn, 0, none⟩) l.length l.length) l.length (nx.map Value.bool)) ∧ Hid (i < s.size → NextTo l bs' nx ((s.data.toList.map UInt8.toNat)[i]?.getD 0) k)) (fun _ _ kv _ => l.length - (intOf kv).toNat)
    case atStart => exact ⟨0, _, rfl, Nat.zero_le _, rfl, rfl, HB3, HON, Lib.hid fun _ => next_zero l bs' _⟩
    case round =>
      obtain ⟨k, nx, rfl, hk, rfl, rfl, HBR, HNX, HNT⟩ := hrel
      by_cases hlt : k < l.length
      · obtain ⟨n, hn⟩ : ∃ n, l[k]? = some n := ⟨_, List.getElem?_eq_getElem hlt⟩
        have hbl' := HCL.out.len
        obtain ⟨x, ex⟩ : ∃ x, bs'[k]? = some x := ⟨_, List.getElem?_eq_getElem (by omega)⟩
        have hwr : w2.heap.size ≤ wr.heap.size := by have := HBR.out.size; have := HGN.out; rename_i q1 q2; simp only [HGN.out] at *; omega
        have hoR : wr.ownsRow _ 4 1 (.slice so l.length sc) l.length (bs'.map Value.bool) := ownsRow_below HOW.out (HGN.out ▸ HBR.out) (fun g hg => (HOW.out.lt g hg).2)
        obtain ⟨g, gc', e', _, _, hgb, hcell⟩ := ownsRow_at hoR (by simp [hbl']; exact h0)
        obtain ⟨rfl, rfl⟩ : so = some ⟨g, 0, none⟩ ∧ sc = gc' := by cases e'; exact ⟨rfl, rfl⟩
        have hcx := (hcell k (.bool x) (by rw [List.getElem?_map, ex]; rfl)).1
        have hgl : g < gn := by have := (HOW.out.lt g rfl).2; rw [HGN.out]; exact this
        have hbw : Below w.heap.size w wr := HT2.out.bel.trans ((show Below w2.heap.size w2 wr from HGN.out ▸ HBR.out).mono HT2.out.bel.size)
        obtain ⟨c0, c1, c2, c3, c4, c5⟩ := in_cells (H.out.below hbw) hn
        obtain ⟨q1, q2, q3, q4⟩ := HS.out k n hn
        have hM := anyTo_succ (matchAt l) bs' k
        have hC := anyTo_succ (takes l) bs' k
        rw [ex, takes_op hn] at hC
        rw [ex, show matchAt l k = (n.op == 0) from by unfold matchAt; rw [hn]] at hM
        simp only [Option.getD_some] at hM hC
        have hI : ∀ c, into l c k = (n.op == 3 && decide (n.lo ≤ c) && decide (c ≤ n.hi)) := fun c => by unfold into; rw [hn]
        have HM := Lib.hid hM
        have HC := Lib.hid hC
        have HI := Lib.hid hI
        have HX := Lib.hid ex
        have HBW := Lib.hid hbw
        clear hM hC hI ex hbw hcell e' hoR q1 q2 hn c1 c2 c3
        generalize anyTo (matchAt l) bs' k = m at *
        generalize anyTo (takes l) bs' k = cc at *
        have hnl : nx.length = l.length := by have := HNX.out.1; simpa using this
        have HOR := Lib.hid hwr
        clear hwr
        cases x with
        | false =>
          have hrel' : Hid (i < s.size → NextTo l bs' nx ((s.data.toList.map UInt8.toNat)[i]?.getD 0) (k + 1)) := Lib.hid fun h => (HNT.out h).skip fun e => by rw [HX.out] at e; cases e.1
          as_aux_lemma =>
            cases m <;> cases cc
            all_goals
              by_cases hlt2 : i < s.size
              all_goals
                go_wp2_with fail
                go_quiet (fail)
                go_wp2_with fail
                go_roundw
                case rel => exact ⟨k + 1, nx, by go_num, hlt, by rw [HM.out]; simp, by rw [HC.out]; simp, Lib.hid (below_drewN HBR.out _), Lib.hid HNX.out, hrel'⟩
                case measure => simp [intOf]; omega
        | true =>
          obtain ⟨oq, hoq⟩ : ∃ oq, oq = n.op := ⟨_, rfl⟩
          rw [← hoq] at c0
          have HOQ := Lib.hid hoq
          rw [← hoq] at q4 q3
          clear hoq
          by_cases h3 : oq = 3
          · subst h3
            have hk1 := q3 rfl
            clear q3 q4
            by_cases hlt2 : i < s.size
            · have hby : (s.data.toList.map UInt8.toNat)[i]?.getD 0 = s[i].toNat := by
                rw [List.getElem?_map, List.getElem?_eq_getElem (by simpa using hlt2)]; rfl
              have HBY := Lib.hid hby
              clear hby
              by_cases hlo : n.lo ≤ s[i].toNat
              · by_cases hhi : s[i].toNat ≤ n.hi
                · obtain ⟨g2, gc2, e2, _, _, _, hcell2⟩ := ownsRow_at HNX.out (by simp [hnl]; exact h0)
                  obtain rfl : gn = g2 := by cases e2; rfl
                  have hfz := (hcell2 (k + 1) _ (by rw [List.getElem?_map, List.getElem?_eq_getElem (by omega : k + 1 < nx.length)]; rfl)).2
                  have hcz := (hcell2 (k + 1) _ (by rw [List.getElem?_map, List.getElem?_eq_getElem (by omega : k + 1 < nx.length)]; rfl)).1
                  clear e2 hcell2
                  have hrel' : Hid (i < s.size → NextTo l bs' (nx.set (k + 1) true) ((s.data.toList.map UInt8.toNat)[i]?.getD 0) (k + 1)) := Lib.hid fun h => (HNT.out h).put hk1 HX.out (by rw [HI.out, HBY.out, ← HOQ.out]; simp [hlo, hhi])
                  as_aux_lemma =>
                    cases m <;> cases cc
                    all_goals
                      go_wp2_with fail
                      go_quiet (fail)
                      go_wp2_with fail
                      go_roundw
                      case rel => exact ⟨k + 1, nx.set (k + 1) true, by go_num, hlt, by rw [HM.out, ← HOQ.out]; simp, by rw [HC.out, ← HOQ.out]; simp, Lib.hid ((below_drewN HBR.out _).setCell (p := ⟨gn, k + 1, none⟩) (Nat.le_refl _) _), Lib.hid (own_set Value.bool (own_drewN HNX.out _) (k + 1) true), hrel'⟩
                      case measure => simp [intOf]; omega
                · have hrel' : Hid (i < s.size → NextTo l bs' nx ((s.data.toList.map UInt8.toNat)[i]?.getD 0) (k + 1)) := Lib.hid fun h => (HNT.out h).skip fun e => by
                    have := e.2
                    rw [HI.out, HBY.out] at this
                    simp [hhi] at this
                  as_aux_lemma =>
                    cases m <;> cases cc
                    all_goals
                      go_wp2_with fail
                      go_quiet (fail)
                      go_wp2_with fail
                      go_roundw
                      case rel => exact ⟨k + 1, nx, by go_num, hlt, by rw [HM.out, ← HOQ.out]; simp, by rw [HC.out, ← HOQ.out]; simp, Lib.hid (below_drewN HBR.out _), Lib.hid HNX.out, hrel'⟩
                      case measure => simp [intOf]; omega
              · have hrel' : Hid (i < s.size → NextTo l bs' nx ((s.data.toList.map UInt8.toNat)[i]?.getD 0) (k + 1)) := Lib.hid fun h => (HNT.out h).skip fun e => by
                  have := e.2
                  rw [HI.out, HBY.out] at this
                  simp [hlo] at this
                as_aux_lemma =>
                  cases m <;> cases cc
                  all_goals
                    go_wp2_with fail
                    go_quiet (fail)
                    go_wp2_with fail
                    go_roundw
                    case rel => exact ⟨k + 1, nx, by go_num, hlt, by rw [HM.out, ← HOQ.out]; simp, by rw [HC.out, ← HOQ.out]; simp, Lib.hid (below_drewN HBR.out _), Lib.hid HNX.out, hrel'⟩
                    case measure => simp [intOf]; omega
            · have hrel' : Hid (i < s.size → NextTo l bs' nx ((s.data.toList.map UInt8.toNat)[i]?.getD 0) (k + 1)) := Lib.hid fun h => absurd h hlt2
              as_aux_lemma =>
                cases m <;> cases cc
                all_goals
                  go_wp2_with fail
                  go_quiet (fail)
                  go_wp2_with fail
                  go_roundw
                  case rel => exact ⟨k + 1, nx, by go_num, hlt, by rw [HM.out, ← HOQ.out]; simp, by rw [HC.out, ← HOQ.out]; simp, Lib.hid (below_drewN HBR.out _), Lib.hid HNX.out, hrel'⟩
                  case measure => simp [intOf]; omega
          · have hrel' : Hid (i < s.size → NextTo l bs' nx ((s.data.toList.map UInt8.toNat)[i]?.getD 0) (k + 1)) := Lib.hid fun h => (HNT.out h).skip fun e => by
              have := e.2
              rw [HI.out, ← HOQ.out] at this
              simp [h3] at this
            clear q3 c4 c5
            rcases show oq = 0 ∨ oq = 1 ∨ oq = 2 by omega with rfl | rfl | rfl
            all_goals
              clear h3 q4
              as_aux_lemma =>
                cases m <;> cases cc
                all_goals
                  by_cases hlt2 : i < s.size
                  all_goals
                    go_wp2_with fail
                    go_quiet (fail)
                    go_wp2_with fail
                    go_roundw
                    case rel => exact ⟨k + 1, nx, by go_num, hlt, by rw [HM.out, ← HOQ.out]; simp, by rw [HC.out, ← HOQ.out]; simp, Lib.hid (below_drewN HBR.out _), Lib.hid HNX.out, hrel'⟩
                    case measure => simp [intOf]; omega
      · obtain rfl : k = l.length := by omega
        have hsm := HSM.out
        have hsc := HSC.out
        rw [hsm, hsc]
        clear hsm hsc
        have hT3 := HT2.out.below (HGN.out ▸ HBR.out)
        have hlt1 : ∀ k, u4.ownBlock = some k → k < gn := fun k h => by rw [HGN.out]; exact (HT2.out.o1.lt k h).2
        have hlt2 : ∀ k, u5.ownBlock = some k → k < gn := fun k h => by rw [HGN.out]; exact (HT2.out.o2.lt k h).2
        have HT3 := Lib.hid hT3
        have HL1 := Lib.hid hlt1
        have HL2 := Lib.hid hlt2
        clear hT3 hlt1 hlt2
        generalize hmm : isM l (kAt l (s.data.toList.map UInt8.toNat) i) = m
        generalize hmc : (!(kAt l (s.data.toList.map UInt8.toNat) i).isEmpty) = cc
        have HMM := Lib.hid hmm
        have HMC := Lib.hid hmc
        clear hmm hmc
        have e1 : rowM l s i ++ #[Value.bool (isM l (kAt l (s.data.toList.map UInt8.toNat) i))].toList = rowM l s (i + 1) := snoc_row _ _
        have e2 : rowC l s i ++ #[Value.bool (!(kAt l (s.data.toList.map UInt8.toNat) i).isEmpty)].toList = rowC l s (i + 1) := snoc_row _ _
        rw [HMM.out] at e1
        rw [HMC.out] at e2
        have HE1 := Lib.hid e1
        have HE2 := Lib.hid e2
        have HI := Lib.hid hi
        clear e1 e2
        obtain ⟨q, hq⟩ : ∃ q, ((i : Int) == (s.size : Int)) = q := ⟨_, rfl⟩
        have HEN : Hid (q = decide (i = s.size)) := Lib.hid (by
          rw [← hq]
          by_cases e : i = s.size
          · subst e; simp
          · have : (i : Int) ≠ (s.size : Int) := by omega
            simp [e, this])
        as_aux_lemma =>
          cases q
          all_goals
            go_wp2_with (first
              | (at_builtin; refine wpList_append_one rfl (.tmp 113) (.tmp 115) 25 rfl w.heap.size 4 _ 1 1 Tryd.underlying25 Tryd.infoBool rfl (by decide) (by decide) _ _ _ rfl HT3.out.o1 #[.bool m] _ _ rfl (by simp) rfl (by simp [Value.oneCell']) (by omega) HT3.out.bel.size ?_; intro ao5 cap5 w5 hown5 hgr5 hat5; have HX := Lib.hid (HT3.out.put hown5 hgr5 hat5).rot; have HN5 := Lib.hid (keep_row hgr5 HNX.out HL1.out); clear hown5 hgr5 hat5)
              | (at_builtin; refine wpList_append_one rfl (.tmp 117) (.tmp 119) 25 rfl w.heap.size 4 _ 1 1 Tryd.underlying25 Tryd.infoBool rfl (by decide) (by decide) _ _ _ rfl HX.out.o1 #[.bool cc] _ _ rfl (by simp) rfl (by simp [Value.oneCell']) (by omega) HX.out.bel.size ?_; intro ao7 cap7 w7 hown5 hgr5 hat5; have HY := Lib.hid (HX.out.put hown5 hgr5 hat5).rot.rot; have HN7 := Lib.hid (keep_row hgr5 HN5.out HL2.out); clear hown5 hgr5 hat5))
          · go_roundw
            case rel =>
              have hT := HY.out
              rw [HE1.out, HE2.out] at hT
              have hi' : i < s.size := by
                have h1 := HEN.out
                have h2 := HI.out
                have : ¬ i = s.size := by simpa using h1.symm
                omega
              exact ⟨i + 1, nx, by go_num, hi', Lib.hid hT, Lib.hid (head_next HS.out h0 HCL.out (HNT.out hi')), Lib.hid (reads_of_owns HN7.out)⟩
            case measure => have := HI.out; simp [intOf]; omega
          · go_ret2
            have hT := HY.out
            rw [HE1.out, HE2.out] at hT
            have he : i = s.size := by simpa using HEN.out.symm
            subst he
            exact ⟨_, _, rfl, hT.bel, reads_of_owns hT.o1, reads_of_owns hT.o2⟩
end Go.Proofs.YtnpchkohfomagaaDoor.Rgw
