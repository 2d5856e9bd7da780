/- Places: addStates. -/
import Derived.Test.YtnfagjemhbgfkaaDoorNfa1
import Derived.Test.YtnfagjemhbgfkaaDoorApp
import Derived.Deep.LoopGhost
namespace Go.Proofs.YtnfagjemhbgfkaaDoor.Nfa
open Go.ChangeShapes Go.WideShapes Go.ChangeAt Go.RowKit Go.Trav Go.Nor Go.Proofs.YtnfagjemhbgfkaaDoor.Srt
set_option linter.unusedVariables false
set_option linter.unusedSimpArgs false
set_option maxRecDepth 100000
theorem Tryd.info71 : (Tryd.prog.info? 71).map (fun i => (i.zero, i.size, i.bytes)) = some (some (.agg #[.int .u32 0, .int .u8 0, .bool false]), 3, 8) := by kernel_rfl
/-- A set of places in memory: a MultiState in block M; its row is the call's own (from base on). -/
structure MsAt (w : World) (base M : Nat) (v : Value) (S : List Plc) : Prop where
  blk : w.heap[M]? = some (.cells #[v] 50 (0, 0))
  row : w.ownsRow base 71 3 v S.length (S.flatMap pC)
  ge : base ≤ M
theorem MsAt.ne {w : World} {base M : Nat} {v : Value} {S : List Plc} (h : MsAt w base M v S) : v.ownBlock ≠ some M := ownsRow_ne_block h.row h.blk (by decide)
theorem MsAt.lt {w : World} {base M : Nat} {v : Value} {S : List Plc} (h : MsAt w base M v S) : ∀ g, v.ownBlock = some g → g < w.heap.size := fun g hg => (h.row.lt g hg).2
theorem MsAt.below {w w' : World} {base M : Nat} {v : Value} {S : List Plc} (h : MsAt w base M v S) (hb : Below w.heap.size w w') : MsAt w' base M v S :=
  ⟨block_below h.blk hb (block_lt h.blk), ownsRow_below h.row hb h.lt, h.ge⟩
theorem MsAt.drewN {w : World} {base M : Nat} {v : Value} {S : List Plc} (h : MsAt w base M v S) (k : Nat) : MsAt (w.drewN k) base M v S := h.below (below_draws w k)
theorem MsAt.alloc {w : World} {base M : Nat} {v : Value} {S : List Plc} (h : MsAt w base M v S) (o : Obj) : MsAt (w.alloc o) base M v S := h.below ((Below.refl _ _).alloc (Nat.le_refl _) _)
/-- Place k's cells. -/
theorem MsAt.at {w : World} {base M : Nat} {v : Value} {S : List Plc} (h : MsAt w base M v S) {k : Nat} {y : Plc} (hy : S[k]? = some y) :
    ∃ g cap, v = .slice (some ⟨g, 0, none⟩) S.length cap ∧ S.length ≤ cap ∧ cap ≤ maxLen ∧ base ≤ g ∧ g < w.heap.size ∧
      w.cell? ⟨g, k * 3, none⟩ = some (.int .u32 (y.o : Nat)) ∧ w.cell? ⟨g, k * 3 + 1, none⟩ = some (.int .u8 (y.d : Nat)) ∧ w.cell? ⟨g, k * 3 + 2, none⟩ = some (.bool y.t) := by
  have hk : k < S.length := (List.getElem?_eq_some_iff.1 hy).1
  have hl : (S.flatMap pC).length = S.length * 3 := flatMap_len pC 3 pC_len S
  obtain ⟨g, cap, e, q1, q2, q3, q4⟩ := ownsRow_at h.row (by omega)
  have at' : ∀ j u, j < 3 → (pC y)[j]? = some u → w.cell? ⟨g, k * 3 + j, none⟩ = some u := fun j u hj hu => (q4 _ u (by rw [flatMap_at pC 3 pC_len S k j hj y hy]; exact hu)).1
  have c0 := at' 0 _ (by omega) rfl
  exact ⟨g, cap, e, q1, q2, q3, World.block_lt_of_cell? w _ c0, c0, at' 1 _ (by omega) rfl, at' 2 _ (by omega) rfl⟩
def xO (x : Plc) : Obj := .cells #[.int .u32 (x.o : Nat), .int .u8 (x.d : Nat), .bool x.t] 71
set_option maxHeartbeats 8000000 in
theorem add_any (base M : Nat) (v : Value) (S : List Plc) (x : Plc) (w : World) (h : MsAt w base M v S) (hs : ∀ s ∈ S, Sm s) (hx : Sm x) (hl : S.length ≤ 100000) :
    Calls Tryd.prog 20 #[.pointer (some ⟨M, 0, none⟩), pV x] w fun e w' => e = .returned (.tuple #[]) ∧ (∃ v', MsAt w' base M v' (add S x)) ∧ Below base w w' := by
  obtain ⟨ao, cap, rfl⟩ := ownsRow_form h.row
  obtain ⟨W1, hW1⟩ : ∃ W1, W1 = w.alloc (.cells #[.int .u32 (x.o : Nat), .int .u8 (x.d : Nat), .bool x.t] 71) := ⟨_, rfl⟩
  have hX1 : W1.heap[w.heap.size]? = some (.cells #[.int .u32 (x.o : Nat), .int .u8 (x.d : Nat), .bool x.t] 71 (0, 0)) := by rw [hW1]; exact heap_alloc_new w _
  have HM1 := Lib.hid (show MsAt W1 base M (.slice ao S.length cap) S by rw [hW1]; exact h.alloc _)
  have hge : base ≤ w.heap.size := by have := block_lt h.blk; have := h.ge; omega
  have HB1 := Lib.hid (show Below base w W1 by rw [hW1]; exact (Below.refl _ _).alloc hge _)
  have hlt1 : w.heap.size < W1.heap.size := block_lt hX1
  have HX1 := Lib.hid hX1
  have HH := Lib.hid h
  have HGE := Lib.hid hge
  have cM := block_cell (i := 0) (u := .slice ao S.length cap) HM1.out.blk rfl
  clear h hX1 hge
  go_enter Tryd.func20, Tryd.ntmps20
  unfold pV
  go_upto_region 1 with (fail)
  rw [← hW1]
  have HW1 := Lib.hid hW1
  clear hW1
  go_wp2_with fail
  go_loopw [12] (fun iv wr => ∃ k : Nat, iv = .int .i64 k ∧ k ≤ S.length ∧ (∀ s ∈ S.take k, imp s x = false) ∧ Hid (Below W1.heap.size W1 wr)) (fun iv _ => S.length - (intOf iv).toNat)
  case atStart => exact ⟨0, rfl, Nat.zero_le _, fun s hs => by simp at hs, Lib.hid (Below.refl _ _)⟩
  case round =>
    obtain ⟨k, rfl, h1, h2, HB⟩ := hrel
    by_cases hk : k < S.length
    · obtain ⟨y, hy⟩ : ∃ y, S[k]? = some y := ⟨_, List.getElem?_eq_getElem hk⟩
      have hMr := HM1.out.below HB.out
      obtain ⟨g, cap', e, q1, q2, q3, q4, c0, c1, c2⟩ := hMr.at hy
      simp only [Value.slice.injEq] at e
      obtain ⟨rfl, -, rfl⟩ := e
      have hXr := block_below HX1.out HB.out hlt1
      have al : ∀ i u, (#[Value.int .u32 (x.o : Nat), .int .u8 (x.d : Nat), .bool x.t] : Array Value)[i]? = some u → ∀ o, (wr.alloc o).cell? ⟨w.heap.size, i, none⟩ = some u := fun i u hu o => block_cell (block_alloc hXr) hu
      have X0 := al 0 _ rfl
      have X1 := al 1 _ rfl
      have X2 := al 2 _ rfl
      have hnb : (wr.alloc (.cells #[.int .u32 (y.o : Nat), .int .u8 (y.d : Nat), .bool y.t] 71)).heap[wr.heap.size]? = some (.cells #[.int .u32 (y.o : Nat), .int .u8 (y.d : Nat), .bool y.t] 71 (0, 0)) := heap_alloc_new wr _
      have HI := Lib.hid (imply_any wr.heap.size 0 y x (wr.alloc (.cells #[.int .u32 (y.o : Nat), .int .u8 (y.d : Nat), .bool y.t] 71)) (hs y (List.mem_of_getElem? hy)) hx (block_cell hnb rfl) (block_cell hnb rfl) (block_cell hnb rfl))
      have HBa := Lib.hid (HB.out.alloc HB.out.size (.cells #[.int .u32 (y.o : Nat), .int .u8 (y.d : Nat), .bool y.t] 71))
      have HY := Lib.hid hy
      clear hMr hXr al hnb hy
      go_wp2_with fail
      refine HI.out.mono ?_
      rintro e w2 ⟨rfl, hb2⟩
      have HB2 := Lib.hid (HBa.out.trans (hb2.mono (by have := HBa.out.size; omega)))
      clear hb2
      cases hq : imp y x with
      | true =>
        go_wp2_with fail
        (try simp only [Exit.inBlock, Exit.then])
        refine bodyPost_ret (results_none rfl _ _ _) rfl ?_
        refine ⟨rfl, ⟨.slice (some ⟨g, 0, none⟩) S.length cap, ?_⟩, HB1.out.trans (HB2.out.mono (Nat.le_trans HGE.out (Nat.le_of_lt hlt1)))⟩
        unfold add
        rw [if_pos (List.any_eq_true.mpr ⟨y, List.mem_of_getElem? HY.out, hq⟩)]
        exact HM1.out.below HB2.out
      | false =>
        go_wp2_with fail
        go_roundw
        case rel =>
          refine ⟨k + 1, by go_num, by omega, fun s hs => ?_, HB2⟩
          rw [take_snoc' S k y HY.out] at hs
          rcases List.mem_append.mp hs with h | h
          · exact h2 s h
          · rw [List.mem_singleton.mp h]; exact hq
        case measure => simp [intOf] <;> omega
    · obtain rfl : k = S.length := by omega
      rw [List.take_length] at h2
      have hMr := HM1.out.below HB.out
      have hXr := block_below HX1.out HB.out hlt1
      have hBr := HB1.out.trans (HB.out.mono (Nat.le_trans HGE.out (Nat.le_of_lt hlt1)))
      have hnx : (Value.slice ao S.length cap).ownBlock ≠ some w.heap.size := fun e => absurd (HH.out.lt _ e) (Nat.lt_irrefl _)
      have hwr : w.heap.size < wr.heap.size := block_lt hXr
      have HMr := Lib.hid hMr
      have HXr := Lib.hid hXr
      have HBr := Lib.hid hBr
      have HNX := Lib.hid hnx
      clear hMr hXr hBr hnx HB
      go_wp2_with fail
      go_loopg [6] S.length (fun gk s6 wq => ∃ (A R : List Plc) (i n : Nat) (ao' : Option Addr) (cap' : Nat), s6 = .int .i64 i ∧ i ≤ n ∧ n ≤ S.length ∧ n - i ≤ gk ∧ Hid (i = A.length ∧ n = A.length + R.length) ∧ Hid (A ++ R.filter (fun s => !imp x s) = S.filter (fun s => !imp x s)) ∧ Hid (∀ s ∈ A ++ R, s ∈ S) ∧
        Hid (MsAt wq base M (.slice ao' n cap') (A ++ R)) ∧ Hid ((Value.slice ao' n cap').ownBlock ≠ some w.heap.size) ∧ Hid (wq.heap[w.heap.size]? = some (.cells #[.int .u32 (x.o : Nat), .int .u8 (x.d : Nat), .bool x.t] 71 (0, 0))) ∧ Hid (Below base w wq))
      case atStart => exact ⟨[], S, 0, S.length, ao, cap, rfl, Nat.zero_le _, Nat.le_refl _, by omega, Lib.hid ⟨rfl, by simp⟩, Lib.hid rfl, Lib.hid (fun s hs => hs), HMr, HNX, HXr, HBr⟩
      case round =>
        clear HMr HXr HBr HNX
        obtain ⟨A, R, i, n, ao', cap', rfl, g1, g2, g3, HL, HF, HS, HM, HN, HX, HB⟩ := hrel
        have cq := block_cell (i := 0) (u := .slice ao' n cap') HM.out.blk rfl
        have fq : wr.frozen? ⟨M, 0, none⟩ = false := block_free HM.out.blk
        have HNE := Lib.hid HM.out.ne
        obtain ⟨i1, hi1, hy0, hy1, hy2⟩ := info_parts Tryd.info71
        cases R with
        | nil =>
          obtain rfl : i = n := by have := HL.out; simp at this; omega
          have HO := Lib.hid (show wr.ownsRow base 71 3 (.slice ao' i cap') i (A.flatMap pC) by have h1 := HM.out.row; have h2 := HL.out; simp only [List.append_nil, List.length_nil, Nat.add_zero] at h1 h2; rw [← h2.1] at h1; exact h1)
          have hMlt := block_lt HM.out.blk
          have X0 := block_cell (i := 0) (u := .int .u32 (x.o : Nat)) HX.out rfl
          have X1 := block_cell (i := 1) (u := .int .u8 (x.d : Nat)) HX.out rfl
          have X2 := block_cell (i := 2) (u := .bool x.t) HX.out rfl
          have hbw : base ≤ wr.heap.size := by have := HM.out.ge; omega
          have al : ∀ k oo, ((wr.drewN k).alloc oo).cell? ⟨M, 0, none⟩ = some (.slice ao' i cap') := fun k oo => block_cell (block_alloc (w := wr.drewN k) HM.out.blk) rfl
          have al0 : ∀ oo, (wr.alloc oo).cell? ⟨M, 0, none⟩ = some (.slice ao' i cap') := fun oo => block_cell (block_alloc HM.out.blk) rfl
          go_wp2_with fail
          go_region_law (first
            | (refine step_append_lies _ rfl (.tmp 57) (.tmp 59) 48 rfl base 71 i1 (.agg #[.int .u32 0, .int .u8 0, .bool false]) 3 8 Tryd.underlying48 hi1 hy0 hy1 hy2 rfl (by decide) (.slice ao' i cap') i (A.flatMap pC) (by simp [Act.eval, Act.put]) (HO.out.alloc _) ⟨wr.heap.size, 0, none⟩ 1 1 [.int .u32 (x.o : Nat), .int .u8 (x.d : Nat), .bool x.t] (by simp [Act.eval, Act.put]) rfl (World.news_of_block (heap_alloc_new _ _)) (by simp [Value.oneCell']) (by omega) (by unfold maxLen; omega) (by omega) (by simp; omega) _ rfl ?_
               intro g6 cap6 w6 hown6 hgr6 hat6 hlt6
               have hB6 : w6.heap[M]? = some (.cells #[.slice ao' i cap'] 50 (0, 0)) := (hgr6.block M (by simp; omega) (fun e => HNE.out e.symm)).trans (block_alloc HM.out.blk)
               have k6 : w6.frozen? ⟨M, 0, none⟩ = false := block_free hB6
               have k7 : w6.cell? ⟨M, 0, none⟩ = some (.slice ao' i cap') := block_cell hB6 rfl
               have hb6 : Below base w w6 := by
                 refine Below.grown ?_ hgr6 (by simp; omega) (fun k hk => (HO.out.lt k hk).1)
                 first | exact below_drewN (HB.out.alloc hbw _) 1 | exact (below_drewN HB.out 1).alloc hbw _ | fail
               have HX6 := Lib.hid (And.intro hown6 (And.intro hb6 hB6))
               clear hown6 hgr6 hat6 hlt6 hB6 hb6)
            | fail)
          all_goals
            go_wp2_with fail
            go_end0
            obtain ⟨hown6, hb6, hB6⟩ := HX6.out
            have hadd : add S x = A ++ [x] := by
              have := HF.out
              simp only [List.filter_nil, List.append_nil] at this
              unfold add
              rw [if_neg (fun hh => by
                obtain ⟨s, m, e⟩ := List.any_eq_true.mp hh
                rw [h2 s m] at e
                cases e), this]
            rw [hadd]
            have e1 : (A ++ [x]).length = i + 1 := by have := HL.out; simp; omega
            have hne6 := ownsRow_ne_block hown6 hB6 (by decide)
            refine ⟨rfl, ⟨.slice (some ⟨g6, 0, none⟩) (i + 1) cap6, block_set hB6, ?_, HM.out.ge⟩, hb6.setCell HM.out.ge _⟩
            rw [e1, List.flatMap_append]
            refine ownsRow_setCell_ne ?_ (fun e => hne6 e.symm) _
            simpa [pC] using hown6
        | cons y R =>
          have hin : i < n := by have := HL.out; simp at this; omega
          have hm : R.length = n - i - 1 := by have := HL.out; simp at this; omega
          obtain ⟨g, cap2, e, q1, q2, q3, q4, c0, c1, c2⟩ := HM.out.at (k := i) (y := y) (by rw [HL.out.1, List.getElem?_append_right (Nat.le_refl _)]; simp)
          simp only [Value.slice.injEq] at e
          obtain ⟨rfl, e2, rfl⟩ := e
          have hq1 : n ≤ cap' := by omega
          clear e2 q1
          have X0 := block_cell (i := 0) (u := .int .u32 (x.o : Nat)) HX.out rfl
          have X1 := block_cell (i := 1) (u := .int .u8 (x.d : Nat)) HX.out rfl
          have X2 := block_cell (i := 2) (u := .bool x.t) HX.out rfl
          have HI := Lib.hid (imply_any w.heap.size 0 x y wr hx (hs y (HS.out y (by simp))) X0 X1 X2)
          clear X0 X1 X2
          go_wp2_with fail
          refine HI.out.mono ?_
          rintro e w2 ⟨rfl, hb2⟩
          have HM2 := Lib.hid (HM.out.below hb2)
          have HX2 := Lib.hid (block_below HX.out hb2 (block_lt HX.out))
          have HB2 := Lib.hid (HB.out.trans (hb2.mono (by have := HB.out.size; have := HGE.out; omega)))
          clear hb2 cq fq c0 c1 c2
          cases hq : imp x y with
          | false =>
            go_wp2_with fail
            go_roundg (n - (i + 1))
            case measure => omega
            case rel =>
              refine ⟨A ++ [y], R, i + 1, n, some ⟨g, 0, none⟩, cap', by go_num, by omega, g2, Nat.le_refl _, Lib.hid ⟨by have := HL.out; simp; omega, by have := HL.out; simp at this ⊢; omega⟩, Lib.hid ?_, Lib.hid ?_, ?_, HN, HX2, HB2⟩
              · have := HF.out
                rw [List.filter_cons, hq] at this
                simpa using this
              · simpa using HS.out
              · simpa using HM2
          | true =>
            have cq := block_cell (i := 0) (u := .slice (some ⟨g, 0, none⟩) n cap') HM2.out.blk rfl
            have fq : w2.frozen? ⟨M, 0, none⟩ = false := block_free HM2.out.blk
            have hwi : IntKind.i64.wrap ((i : Int) + 1) = (i : Int) + 1 := by simp [IntKind.wrap, IntKind.bits, IntKind.signed]; omega
            have htn : ((i : Int) + 1).toNat = i + 1 := by omega
            have hi2 : (0 : Int) ≤ (i : Int) + 1 := by omega
            have hi3 : (i : Int) + 1 ≤ (n : Int) := by omega
            have hi4 : (i : Int) ≤ (cap' : Int) := by omega
            have hi5 : (0 : Int) ≤ (i : Int) := by omega
            have hAl : (A.flatMap pC).length = i * 3 := by rw [flatMap_len pC 3 pC_len]; rw [HL.out.1]
            have hRl : (R.flatMap pC).length = (n - (i + 1)) * 3 := by rw [flatMap_len pC 3 pC_len, hm]; congr 1
            have hLn : (A ++ y :: R).length = n := by have := HL.out; simp at this ⊢; omega
            have hrow := HM2.out.row
            rw [hLn] at hrow
            have HO := Lib.hid (show w2.ownsRow base 71 3 (.slice (some ⟨g, 0, none⟩) i cap') i (A.flatMap pC) by
              have h1 := ownsRow_cut hrow (Nat.le_of_lt hin)
              rw [List.flatMap_append, ← hAl, List.take_left] at h1
              exact h1)
            have hcell : ∀ j u, (R.flatMap pC)[j]? = some u → w2.cell? ⟨g, (i + 1) * 3 + j, none⟩ = some u := by
              intro j u hj
              obtain ⟨g', cap3, e3, _, _, _, r4⟩ := ownsRow_at hrow (by rw [List.flatMap_append, List.length_append, hAl, List.flatMap_cons, List.length_append, pC_len]; omega)
              simp only [Value.slice.injEq, Option.some.injEq, Addr.mk.injEq, and_true, true_and] at e3
              obtain ⟨rfl, rfl⟩ := e3
              refine (r4 _ u ?_).1
              rw [List.flatMap_append, List.getElem?_append_right (by omega), hAl, List.flatMap_cons, List.getElem?_append_right (by rw [pC_len]; omega), pC_len]
              rw [show (i + 1) * 3 + j - i * 3 - 3 = j by omega]
              exact hj
            have HRD := Lib.hid (show Reads w2 (.slice (if cap' = i + 1 then some ⟨g, 0, none⟩ else some ⟨g, (i + 1) * 3, none⟩) (n - (i + 1)) (cap' - (i + 1))) (n - (i + 1)) 3 (R.flatMap pC) by
              refine ⟨_, _, rfl, by omega, by omega, fun h => ?_, hRl, fun hp => ?_⟩
              · split at h <;> cases h
              · rw [if_neg (by omega)]
                exact ⟨g, (i + 1) * 3, rfl, hcell⟩)
            have HONE : Hid (∀ u ∈ R.flatMap pC, u.oneCell' = true) := Lib.hid (fun u hu => by
              obtain ⟨z, _, hz⟩ := List.mem_flatMap.1 hu
              simp only [pC, List.mem_cons, List.not_mem_nil, or_false] at hz
              rcases hz with rfl | rfl | rfl <;> rfl)
            have hMlt := block_lt HM2.out.blk
            have hbw : base ≤ w2.heap.size := by have := HM2.out.ge; omega
            have HNE2 := Lib.hid HM2.out.ne
            clear hrow hcell hAl hRl hLn
            obtain ⟨pX, hpX⟩ : ∃ pX : Option Addr, (if cap' = i + 1 then some (⟨g, 0, none⟩ : Addr) else some ⟨g, (i + 1) * 3, none⟩) = pX := ⟨_, rfl⟩
            obtain ⟨m, hmm⟩ : ∃ m : Nat, n - (i + 1) = m := ⟨_, rfl⟩
            rw [hpX, hmm] at HRD
            go_wp2_with fail
            go_region_law (first
              | (refine step_append_reads (by rfl) (.tmp 40) (.tmp 47) 48 (by rfl) base 71 i1 (.agg #[.int .u32 0, .int .u8 0, .bool false]) 3 8 Tryd.underlying48 hi1 hy0 hy1 hy2 rfl (by decide) (.slice (some ⟨g, 0, none⟩) i cap') i (A.flatMap pC) (by rfl) HO.out (.slice pX m (cap' - (i + 1))) m (R.flatMap pC) (by rfl) (HRD.out.drewN 1) HONE.out (by unfold maxLen; omega) (by omega) hbw ?_
                 intro ao1 cap1 w1 hown1 hgr1 hat1
                 have hB6 : w1.heap[M]? = some (.cells #[.slice (some ⟨g, 0, none⟩) n cap'] 50 (0, 0)) := (hgr1.block M hMlt (fun e => HNE2.out e.symm)).trans HM2.out.blk
                 have hX6 : w1.heap[w.heap.size]? = some (.cells #[.int .u32 (x.o : Nat), .int .u8 (x.d : Nat), .bool x.t] 71 (0, 0)) := (hgr1.block w.heap.size (block_lt HX2.out) (fun e => HN.out e.symm)).trans HX2.out
                 have k6 : w1.frozen? ⟨M, 0, none⟩ = false := block_free hB6
                 have k7 : w1.cell? ⟨M, 0, none⟩ = some (.slice (some ⟨g, 0, none⟩) n cap') := block_cell hB6 rfl
                 have hb6 : Below base w w1 := Below.grown (w := w2.drew) HB2.out.drew hgr1 hbw (fun k hk => (HO.out.lt k hk).1)
                 have HX6 := Lib.hid (And.intro hown1 (And.intro hb6 (And.intro hB6 (And.intro hX6 hat1))))
                 clear hown1 hgr1 hat1 hB6 hb6 hX6)
              | fail)
            all_goals
              go_wp2_with fail
              go_roundg (n - 1 - i)
              case measure => omega
              case rel =>
                obtain ⟨hown1, hb6, hB6, hX6, hat1⟩ := HX6.out
                have hne6 := ownsRow_ne_block hown1 hB6 (by decide)
                have eim : i + m = n - 1 := by omega
                refine ⟨A, R, i, i + m, ao1, cap1, rfl, by omega, by omega, by omega, Lib.hid ⟨HL.out.1, by have := HL.out; simp at this; omega⟩, Lib.hid ?_, Lib.hid ?_, Lib.hid ⟨block_set hB6, ?_, HM2.out.ge⟩, Lib.hid ?_, Lib.hid ?_, Lib.hid (hb6.setCell HM2.out.ge _)⟩
                · have := HF.out
                  rw [List.filter_cons, hq] at this
                  simpa using this
                · intro s hs'
                  refine HS.out s ?_
                  rcases List.mem_append.mp hs' with h | h
                  · exact List.mem_append_left _ h
                  · exact List.mem_append_right _ (List.mem_cons_of_mem _ h)
                · rw [show (A ++ R).length = i + m by have := HL.out; simp at this ⊢; omega, List.flatMap_append]
                  exact ownsRow_setCell_ne hown1 (fun e => hne6 e.symm) _
                · rcases hat1 with h | h
                  · rw [h]; exact HN.out
                  · rw [h]
                    have := block_lt HX2.out
                    simp; omega
                · rw [block_set_ne hX6 (by have := block_lt HH.out.blk; simp; omega)]
end Go.Proofs.YtnfagjemhbgfkaaDoor.Nfa
