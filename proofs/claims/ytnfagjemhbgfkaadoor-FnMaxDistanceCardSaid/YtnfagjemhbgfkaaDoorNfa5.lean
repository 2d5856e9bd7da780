/- Places: normalize. -/
import Derived.Test.YtnfagjemhbgfkaaDoorNfa2
namespace Go.Proofs.YtnfagjemhbgfkaaDoor.Nfa
open Go.ChangeShapes Go.WideShapes Go.ChangeAt Go.RowKit Go.Trav Go.Nor Go.Proofs.YtnfagjemhbgfkaaDoor.Srt
set_option linter.unusedVariables false
set_option linter.unusedSimpArgs false
set_option maxRecDepth 100000
theorem own_to_row {w : World} {base g n cap : Nat} {S : List Plc} (h : w.ownsRow base 71 3 (.slice (some ⟨g, 0, none⟩) n cap) n (S.flatMap pC)) (hS : S.length = n) (hn : 0 < n) :
    ∃ rest : List Value, w.heap[g]? = some (.cells (S.flatMap pC ++ rest).toArray 71 (0, 0)) ∧ base ≤ g ∧ n ≤ cap ∧ cap ≤ maxLen ∧ (S.flatMap pC ++ rest).length = cap * 3 := by
  obtain ⟨h1, h2⟩ := h
  rcases h2 with ⟨e1, rfl⟩ | ⟨g', cap', cur, e1, hb, hg, hn', hc, hs, ht⟩
  · omega
  · simp only [Value.slice.injEq, Option.some.injEq, Addr.mk.injEq, and_true, true_and] at e1
    obtain ⟨rfl, rfl⟩ := e1
    refine ⟨cur.toList.drop (n * 3), ?_, hb, hn', hc, ?_⟩
    · rw [← ht, List.take_append_drop]; exact hg
    · rw [← ht, List.take_append_drop]; simpa using hs
theorem row_to_own {w : World} {base g n cap : Nat} {S : List Plc} {rest : List Value} (h : w.heap[g]? = some (.cells (S.flatMap pC ++ rest).toArray 71 (0, 0))) (hS : S.length = n) (hb : base ≤ g) (hn : n ≤ cap) (hc : cap ≤ maxLen) (hl : (S.flatMap pC ++ rest).length = cap * 3) :
    w.ownsRow base 71 3 (.slice (some ⟨g, 0, none⟩) n cap) n (S.flatMap pC) := by
  have hlen : (S.flatMap pC).length = n * 3 := by rw [flatMap_len pC 3 pC_len, hS]
  refine ⟨hlen, .inr ⟨g, cap, _, rfl, hb, h, hn, hc, by simpa using hl, ?_⟩⟩
  simp only [← hlen]
  rw [List.take_left]
theorem pC_set1 (S : List Plc) (k z : Nat) (y : Plc) (hk : S[k]? = some y) (rest : List Value) :
    (S.flatMap pC ++ rest).set (k * 3) (.int .u32 (z : Nat)) = (S.set k ⟨z, y.d, y.t⟩).flatMap pC ++ rest := by
  induction S generalizing k with
  | nil => simp at hk
  | cons x r ih =>
    cases k with
    | zero => simp at hk; subst hk; simp [pC]
    | succ k =>
      have := ih k (by simpa using hk)
      have e : (k + 1) * 3 = k * 3 + 3 := by omega
      rw [e]
      show Value.int .u32 (x.o : Nat) :: Value.int .u8 (x.d : Nat) :: Value.bool x.t :: ((r.flatMap pC ++ rest).set (k * 3) _) = _
      rw [this]
      rfl
theorem row_set1 {w : World} {B : Nat} {T : TypeId} {S : List Plc} {rest : List Value} (h : w.heap[B]? = some (.cells (S.flatMap pC ++ rest).toArray T (0, 0))) {k : Nat} {y : Plc} (hk : S[k]? = some y) (z : Nat) :
    (w.setCell ⟨B, k * 3, none⟩ (.int .u32 (z : Nat))).heap[B]? = some (.cells ((S.set k ⟨z, y.d, y.t⟩).flatMap pC ++ rest).toArray T (0, 0)) := by
  rw [block_set (i := k * 3) (u := .int .u32 (z : Nat)) h]
  simp only [List.setIfInBounds_toArray]
  rw [pC_set1 S k z y hk rest]
/-- The first k places moved back. -/
def bk (m k : Nat) (S : List Plc) : List Plc := (S.take k).map (back m) ++ S.drop k
theorem bk_len (m k : Nat) (S : List Plc) : (bk m k S).length = S.length := by simp [bk]; omega
theorem bk_at {m k : Nat} {S : List Plc} {y : Plc} (h : S[k]? = some y) : (bk m k S)[k]? = some y := by
  have hk := (List.getElem?_eq_some_iff.1 h).1
  unfold bk
  rw [List.getElem?_append_right (by simp; omega)]
  simp only [List.length_map, List.length_take, List.getElem?_drop]
  rw [show k + (k - min k S.length) = k by omega]
  exact h
theorem bk_set {m k : Nat} {S : List Plc} {y : Plc} (h : S[k]? = some y) : (bk m k S).set k ⟨y.o - m, y.d, y.t⟩ = bk m (k + 1) S := by
  have hk := (List.getElem?_eq_some_iff.1 h).1
  unfold bk
  rw [take_snoc' S k y h, List.map_append]
  have e : S.drop k = y :: S.drop (k + 1) := by rw [List.drop_eq_getElem_cons hk, (List.getElem?_eq_some_iff.1 h).2]
  rw [e, List.set_append_right _ _ (by simp; omega)]
  simp only [List.length_map, List.length_take]
  rw [show k - min k S.length = 0 by omega]
  simp [back]
set_option maxHeartbeats 8000000 in
theorem norm_any (base M : Nat) (v : Value) (S : List Plc) (w : World) (h : MsAt w base M v S) (hs : ∀ s ∈ S, Sm s) (hne : S ≠ []) (hl : S.length ≤ 100000) :
    Calls Tryd.prog 17 #[.pointer (some ⟨M, 0, none⟩)] w fun e w' => e = .returned (.int .u32 (least S : Nat)) ∧ (∃ S', S'.Perm (S.map (back (least S))) ∧ MsAt w' base M v S') ∧ Below base w w' := by
  have hpos : 0 < S.length := List.length_pos_iff.2 hne
  obtain ⟨x0, hx0⟩ : ∃ x, S[0]? = some x := ⟨_, List.getElem?_eq_getElem hpos⟩
  obtain ⟨g, cap, rfl, _, _, _, hg, _⟩ := h.at hx0
  obtain ⟨rest, r1, r2, r3, r4, r5⟩ := own_to_row h.row rfl hpos
  obtain ⟨l1, l2⟩ := least_says S
  have hm : least S ≤ 1000000 := by
    have h1 := l1 x0 (List.mem_of_getElem? hx0)
    have h2 := (hs x0 (List.mem_of_getElem? hx0)).1
    omega
  have hge : base ≤ w.heap.size := by omega
  have hMg : M ≠ g := fun e => h.ne (by rw [e]; rfl)
  have HL := Lib.hid l1
  have HS := Lib.hid hs
  have HH := Lib.hid h
  have HR := Lib.hid r1
  have HR5 := Lib.hid r5
  clear l1 l2 r1 r5 hne hx0 h
  generalize hmm : least S = m at hm
  have HMM := Lib.hid hmm
  clear hmm
  have cM := block_cell (i := 0) (u := .slice (some ⟨g, 0, none⟩) S.length cap) HH.out.blk rfl
  go_enter Tryd.func17, Tryd.ntmps17
  go_wp2_with fail
  go_loopw [3, 12] (fun mv iv wr => ∃ k q : Nat, iv = .int .i64 k ∧ k ≤ S.length ∧ mv = .int .u32 q ∧ q ≤ 4294967295 ∧ Hid (q = least (S.take k)) ∧ Hid (Below w.heap.size w wr)) (fun _ iv _ => S.length - (intOf iv).toNat)
  case atStart => exact ⟨0, 4294967295, rfl, Nat.zero_le _, rfl, Nat.le_refl _, Lib.hid (by simp [least]), Lib.hid (Below.refl _ _)⟩
  case round =>
    obtain ⟨k, q, rfl, h1, rfl, hq, HQ, HB⟩ := hrel
    rename World => wr
    by_cases hk : k < S.length
    · obtain ⟨y, hy⟩ : ∃ y, S[k]? = some y := ⟨_, List.getElem?_eq_getElem hk⟩
      have hrr := block_below HR.out HB.out hg
      obtain ⟨⟨c0, c1, c2⟩, -⟩ := row_at hrr hy
      have hsy := (HS.out y (List.mem_of_getElem? hy)).1
      have hnb : (wr.alloc (.cells #[.int .u32 (y.o : Nat), .int .u8 (y.d : Nat), .bool y.t] 71)).heap[wr.heap.size]? = some (.cells #[.int .u32 (y.o : Nat), .int .u8 (y.d : Nat), .bool y.t] 71 (0, 0)) := heap_alloc_new wr _
      have D0 := block_cell (i := 0) (u := .int .u32 (y.o : Nat)) hnb rfl
      have HBa := Lib.hid (HB.out.alloc HB.out.size (.cells #[.int .u32 (y.o : Nat), .int .u8 (y.d : Nat), .bool y.t] 71))
      have HY := Lib.hid hy
      clear hrr hnb hy
      by_cases hlt : y.o < q
      · have hz : (y.o : Int) < (q : Int) := by omega
        go_wp2_with fail
        go_roundw
        case rel => exact ⟨k + 1, y.o, by go_num, by omega, rfl, by omega, Lib.hid (by rw [least_take HY.out, ← HQ.out, if_pos hlt]), HBa⟩
        case measure => simp [intOf] <;> omega
      · have hz : ¬ (y.o : Int) < (q : Int) := by omega
        go_wp2_with fail
        go_roundw
        case rel => exact ⟨k + 1, q, by go_num, by omega, rfl, hq, Lib.hid (by rw [least_take HY.out, ← HQ.out, if_neg hlt]), HBa⟩
        case measure => simp [intOf] <;> omega
    · obtain rfl : k = S.length := by omega
      obtain rfl : q = m := by have := HQ.out; rw [List.take_length, HMM.out] at this; exact this
      have hz : ((q : Int) == 4294967295) = false := beq_eq_false_iff_ne.2 (by omega)
      have HB0 : Hid (Below base w wr) := Lib.hid (HB.out.mono hge)
      have hM0 := block_below HH.out.blk HB.out (block_lt HH.out.blk)
      have hR0 := block_below HR.out HB.out hg
      have HM0 := Lib.hid hM0
      have HR0 := Lib.hid hR0
      clear hM0 hR0
      go_wp2_with fail
      go_loopw [6] (fun iv wq => ∃ k : Nat, iv = .int .i64 k ∧ k ≤ S.length ∧ Hid (Below base w wq) ∧ Hid (wq.heap[M]? = some (.cells #[.slice (some ⟨g, 0, none⟩) S.length cap] 50 (0, 0))) ∧ Hid (wq.heap[g]? = some (.cells ((bk q k S).flatMap pC ++ rest).toArray 71 (0, 0)))) (fun iv _ => S.length - (intOf iv).toNat)
      case atStart => exact ⟨0, rfl, Nat.zero_le _, HB0, HM0, by simpa [bk] using HR0⟩
      case round =>
        clear HB0 HM0 HR0
        obtain ⟨k, rfl, h2, HB1, HM1, HR1⟩ := hrel
        rename World => wq
        have cq := block_cell (i := 0) (u := .slice (some ⟨g, 0, none⟩) S.length cap) HM1.out rfl
        by_cases hk2 : k < S.length
        · obtain ⟨y, hy⟩ : ∃ y, S[k]? = some y := ⟨_, List.getElem?_eq_getElem hk2⟩
          obtain ⟨⟨c0, c1, c2⟩, f0, f1, f2⟩ := row_at HR1.out (bk_at hy)
          have hsy := (HS.out y (List.mem_of_getElem? hy)).1
          have hle := HL.out y (List.mem_of_getElem? hy)
          rw [HMM.out] at hle
          obtain ⟨z, hz1⟩ : ∃ z : Nat, z = y.o - q := ⟨_, rfl⟩
          have hzz : ((y.o : Int) - (q : Int)) = (z : Int) := by omega
          have hw : IntKind.u32.wrap (z : Int) = z := by simp [IntKind.wrap, IntKind.bits, IntKind.signed]; omega
          have HY := Lib.hid hy
          have HZ := Lib.hid hz1
          clear hy hz1
          go_wp2_with fail
          go_roundw
          case rel =>
            refine ⟨k + 1, by go_num, by omega, Lib.hid (HB1.out.setCell r2 _), Lib.hid ?_, Lib.hid ?_⟩
            · rw [block_set_ne HM1.out (fun e => hMg e.symm)]
            · have := row_set1 HR1.out (bk_at (m := q) HY.out) z
              rw [HZ.out, bk_set HY.out, ← HZ.out] at this
              exact this
          case measure => simp [intOf] <;> omega
        · obtain rfl : k = S.length := by omega
          have eb : bk q S.length S = S.map (back q) := by unfold bk; rw [List.take_length, List.drop_length, List.append_nil]
          have HC := Lib.hid (sort_row g S.length cap (S.map (back q)) rest wq (by rw [← eb]; exact HR1.out) (by simp) (by omega))
          go_wp2_with fail
          refine HC.out.mono ?_
          rintro e w3 ⟨rfl, S', hp, hr3, hm3⟩
          have hB3 : Below base w w3 := HB1.out.trans (hm3.toBelow (Nat.le_trans hge HB1.out.size) (fun k _ hk => by omega)) 
          have hM3 := hm3.heap HM1.out (fun e => hMg e)
          have HX := Lib.hid (And.intro hp (And.intro hr3 (And.intro hB3 hM3)))
          clear hp hr3 hm3 hB3 hM3
          go_wp2_with fail
          go_ret
          obtain ⟨hp, hr3, hB3, hM3⟩ := HX.out
          have hl3 : S'.length = S.length := by rw [hp.length_eq]; simp
          refine ⟨rfl, ⟨S', hp, hM3, ?_, HH.out.ge⟩, hB3⟩
          rw [hl3]
          refine row_to_own hr3 hl3 r2 r3 r4 ?_
          have := HR5.out
          rw [List.length_append, flatMap_len pC 3 pC_len] at this ⊢
          rw [hl3]; exact this
end Go.Proofs.YtnfagjemhbgfkaaDoor.Nfa
