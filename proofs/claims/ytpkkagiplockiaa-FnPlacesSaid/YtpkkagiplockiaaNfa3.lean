/- Places: in and out (the same places at another type); newMultiState; moved; Implies. -/
import Derived.Test.YtpkkagiplockiaaNfa2
namespace Go.Proofs.Ytpkkagiplockiaa.Nfa
open Go.ChangeShapes Go.WideShapes Go.ChangeAt Go.RowKit Go.Trav Go.Nor Go.Proofs.Ytpkkagiplockiaa.Srt
set_option linter.unusedVariables false
set_option linter.unusedSimpArgs false
set_option maxRecDepth 100000
theorem Try.info25 : (Try.prog.info? 25).map (fun i => (i.zero, i.size, i.bytes)) = some (some (.agg #[.int .u32 0, .int .u8 0, .bool false]), 3, 8) := by kernel_rfl
/-- Place k of a row that reads. -/
theorem reads_at {w : World} {v : Value} {n : Nat} {S : List Plc} (h : Reads w v n 3 (S.flatMap pC)) {k : Nat} (hk : k < n) :
    ∃ b off cap x, v = .slice (some ⟨b, off, none⟩) n cap ∧ S[k]? = some x ∧ w.cell? ⟨b, off + k * 3, none⟩ = some (.int .u32 (x.o : Nat)) ∧ w.cell? ⟨b, off + k * 3 + 1, none⟩ = some (.int .u8 (x.d : Nat)) ∧ w.cell? ⟨b, off + k * 3 + 2, none⟩ = some (.bool x.t) := by
  obtain ⟨b, off, cap, x, e, hx, hc⟩ := Reads.rec pC pC_len h (by omega) hk
  exact ⟨b, off, cap, x, e, hx, hc 0 _ rfl, hc 1 _ rfl, hc 2 _ rfl⟩
theorem reads_new (w : World) (x : Plc) (T : TypeId) : Reads (w.alloc (.cells #[.int .u32 (x.o : Nat), .int .u8 (x.d : Nat), .bool x.t] T)) (.slice (some ⟨w.heap.size, 0, none⟩) 1 1) 1 3 (pC x) := by
  refine ⟨_, 1, rfl, Nat.le_refl _, by unfold maxLen; omega, fun h => (by cases h), rfl, fun _ => ⟨_, _, rfl, fun j u hj => ?_⟩⟩
  refine block_cell (heap_alloc_new w _) ?_
  rw [Nat.zero_add]
  simpa [pC] using hj
set_option maxHeartbeats 4000000 in
theorem in_any (v : Value) (n : Nat) (S : List Plc) (w : World) (h : Reads w v n 3 (S.flatMap pC)) (hn : n ≤ 1000000) :
    Calls Try.prog 16 #[v] w fun e w' => ∃ v', e = .returned v' ∧ w'.ownsRow w.heap.size 50 3 v' n (S.flatMap pC) ∧ Below w.heap.size w w' := by
  obtain ⟨ao, cap, rfl⟩ := h.form
  have hS : S.length = n := h.recs pC pC_len (by omega)
  have HR := Lib.hid h
  have HN := Lib.hid hS
  clear h hS
  go_enter Try.func16, Try.ntmps16
  go_wp2_with fail
  go_loopw [3, 8] (fun ov iv wr => ∃ k : Nat, iv = .int .i64 k ∧ k ≤ n ∧ Hid (Below w.heap.size w wr) ∧ Hid (wr.ownsRow w.heap.size 50 3 ov k ((S.take k).flatMap pC))) (fun _ iv _ => n - (intOf iv).toNat)
  case atStart => exact ⟨0, rfl, Nat.zero_le _, Lib.hid (Below.refl _ _), Lib.hid (World.ownsRow_nil _ _ _ _)⟩
  case round =>
    obtain ⟨k, rfl, h1, HB, HO⟩ := hrel
    rename World => wr
    obtain ⟨ov, oc, rfl⟩ := ownsRow_form HO.out
    by_cases hk : k < n
    · obtain ⟨b, off, cap', x, e, hx, c0, c1, c2⟩ := reads_at (HR.out.below HB.out) hk
      simp only [Value.slice.injEq] at e
      obtain ⟨rfl, -, rfl⟩ := e
      have HX := Lib.hid hx
      have hnb : (wr.alloc (.cells #[.int .u32 (x.o : Nat), .int .u8 (x.d : Nat), .bool x.t] 25)).heap[wr.heap.size]? = some (.cells #[.int .u32 (x.o : Nat), .int .u8 (x.d : Nat), .bool x.t] 25 (0, 0)) := heap_alloc_new wr _
      have D0 := block_cell (i := 0) (u := .int .u32 (x.o : Nat)) hnb rfl
      have D1 := block_cell (i := 1) (u := .int .u8 (x.d : Nat)) hnb rfl
      have D2 := block_cell (i := 2) (u := .bool x.t) hnb rfl
      clear hx hnb
      go_wp2_with (first
        | (at_builtin; (refine wpList_append_reads rfl (.tmp 12) (.tmp 20) 43 rfl w.heap.size 50 (.agg #[.int .u32 0, .int .u8 0, .bool false]) 3 8 Try.underlying43 Try.info50 rfl (by decide) (by decide) (.slice ov k oc) k ((S.take k).flatMap pC) rfl ((HO.out.alloc _).alloc _) (.slice (some ⟨wr.heap.size + 1, 0, none⟩) 1 1) 1 (pC x) rfl (by have := reads_new (wr.alloc (.cells #[.int .u32 (x.o : Nat), .int .u8 (x.d : Nat), .bool x.t] 25)) x 50; simpa using this) (by simp [pC, Value.oneCell']) (by omega) (by simp; have := HB.out.size; omega) ?_; intro ao6 cap6 w6 hown6 hgr6 hat6; have HX6 := Lib.hid (And.intro hown6 (And.intro hgr6 hat6)); clear hown6 hgr6 hat6))
        | fail)
      go_roundw
      case rel =>
        obtain ⟨x1, x2, x3⟩ := HX6.out
        refine ⟨k + 1, by go_num, by omega, Lib.hid ?_, Lib.hid ?_⟩
        · exact ((HB.out.alloc HB.out.size _).alloc (by have := HB.out.size; simp; omega) _).grown x2 (by have := HB.out.size; simp; omega) fun k hk => (HO.out.lt k hk).1
        · rw [take_snoc' S k x HX.out, List.flatMap_append]
          simpa using x1
      case measure => simp [intOf] <;> omega
    · obtain rfl : k = n := by omega
      go_wp2_with fail
      go_ret
      refine ⟨_, rfl, ?_, HB.out⟩
      have h2 := HO.out
      rw [show S.take k = S from List.take_of_length_le (by have := HN.out; omega)] at h2
      exact h2
set_option maxHeartbeats 4000000 in
theorem out_any (v : Value) (n : Nat) (S : List Plc) (w : World) (h : Reads w v n 3 (S.flatMap pC)) (hn : n ≤ 1000000) :
    Calls Try.prog 17 #[v] w fun e w' => ∃ v', e = .returned v' ∧ w'.ownsRow w.heap.size 25 3 v' n (S.flatMap pC) ∧ Below w.heap.size w w' := by
  obtain ⟨ao, cap, rfl⟩ := h.form
  have hS : S.length = n := h.recs pC pC_len (by omega)
  have HR := Lib.hid h
  have HN := Lib.hid hS
  clear h hS
  go_enter Try.func17, Try.ntmps17
  go_wp2_with fail
  go_loopw [3, 8] (fun ov iv wr => ∃ k : Nat, iv = .int .i64 k ∧ k ≤ n ∧ Hid (Below w.heap.size w wr) ∧ Hid (wr.ownsRow w.heap.size 25 3 ov k ((S.take k).flatMap pC))) (fun _ iv _ => n - (intOf iv).toNat)
  case atStart => exact ⟨0, rfl, Nat.zero_le _, Lib.hid (Below.refl _ _), Lib.hid (World.ownsRow_nil _ _ _ _)⟩
  case round =>
    obtain ⟨k, rfl, h1, HB, HO⟩ := hrel
    rename World => wr
    obtain ⟨ov, oc, rfl⟩ := ownsRow_form HO.out
    by_cases hk : k < n
    · obtain ⟨b, off, cap', x, e, hx, c0, c1, c2⟩ := reads_at (HR.out.below HB.out) hk
      simp only [Value.slice.injEq] at e
      obtain ⟨rfl, -, rfl⟩ := e
      have HX := Lib.hid hx
      have hnb : (wr.alloc (.cells #[.int .u32 (x.o : Nat), .int .u8 (x.d : Nat), .bool x.t] 50)).heap[wr.heap.size]? = some (.cells #[.int .u32 (x.o : Nat), .int .u8 (x.d : Nat), .bool x.t] 50 (0, 0)) := heap_alloc_new wr _
      have D0 := block_cell (i := 0) (u := .int .u32 (x.o : Nat)) hnb rfl
      have D1 := block_cell (i := 1) (u := .int .u8 (x.d : Nat)) hnb rfl
      have D2 := block_cell (i := 2) (u := .bool x.t) hnb rfl
      clear hx hnb
      go_wp2_with (first
        | (at_builtin; (refine wpList_append_reads rfl (.tmp 12) (.tmp 20) 22 rfl w.heap.size 25 (.agg #[.int .u32 0, .int .u8 0, .bool false]) 3 8 Try.underlying22 Try.info25 rfl (by decide) (by decide) (.slice ov k oc) k ((S.take k).flatMap pC) rfl ((HO.out.alloc _).alloc _) (.slice (some ⟨wr.heap.size + 1, 0, none⟩) 1 1) 1 (pC x) rfl (by have := reads_new (wr.alloc (.cells #[.int .u32 (x.o : Nat), .int .u8 (x.d : Nat), .bool x.t] 50)) x 25; simpa using this) (by simp [pC, Value.oneCell']) (by omega) (by simp; have := HB.out.size; omega) ?_; intro ao6 cap6 w6 hown6 hgr6 hat6; have HX6 := Lib.hid (And.intro hown6 (And.intro hgr6 hat6)); clear hown6 hgr6 hat6))
        | fail)
      go_roundw
      case rel =>
        obtain ⟨x1, x2, x3⟩ := HX6.out
        refine ⟨k + 1, by go_num, by omega, Lib.hid ?_, Lib.hid ?_⟩
        · exact ((HB.out.alloc HB.out.size _).alloc (by have := HB.out.size; simp; omega) _).grown x2 (by have := HB.out.size; simp; omega) fun k hk => (HO.out.lt k hk).1
        · rw [take_snoc' S k x HX.out, List.flatMap_append]
          simpa using x1
      case measure => simp [intOf] <;> omega
    · obtain rfl : k = n := by omega
      go_wp2_with fail
      go_ret
      refine ⟨_, rfl, ?_, HB.out⟩
      have h2 := HO.out
      rw [show S.take k = S from List.take_of_length_le (by have := HN.out; omega)] at h2
      exact h2
/-- A new set, without a place. -/
theorem newms_any (w : World) : Calls Try.prog 26 #[] w fun e w' => ∃ M v, e = .returned (.pointer (some ⟨M, 0, none⟩)) ∧ MsAt w' w.heap.size M v [] ∧ Below w.heap.size w w' := by
  have hmk : ∀ w, (Instr.makeSlice 43 (.int .i64 0) (.int .i64 0)).run Try.prog w = .ok (.slice (some ⟨w.heap.size, 0, none⟩) 0 0) (w.alloc (.cells #[] 50)) := fun w => by kernel_rfl
  go_enter Try.func26, Try.ntmps26
  go_wp2
  go_ret
  refine ⟨w.heap.size + 1, _, rfl, ⟨by have := heap_alloc_new (w.alloc (.cells #[] 50)) (.cells #[.slice (some ⟨w.heap.size, 0, none⟩) 0 0] 66); simpa using this, ?_, by omega⟩, ((Below.refl _ _).alloc (Nat.le_refl _) _).alloc (by simp) _⟩
  exact (owns_new w 50 3 w.heap.size (Nat.le_refl _)).alloc _
set_option maxHeartbeats 2000000 in
theorem moved_any (x : Plc) (m : Nat) (w : World) (hx : Sm x) (hm : m ≤ 1000000) :
    Calls Try.prog 6 #[pV x, .int .u32 (m : Nat)] w fun e w' => e = .returned (pV (fwd m x)) ∧ Below w.heap.size w w' := by
  obtain ⟨xo, xd, xt⟩ := x
  obtain ⟨h1, h2⟩ := hx
  simp only at h1 h2
  have hw : IntKind.u32.wrap ((xo : Int) + (m : Int)) = (xo : Int) + (m : Int) := by simp [IntKind.wrap, IntKind.bits, IntKind.signed]; omega
  unfold pV fwd
  go_enter Try.func6, Try.ntmps6
  go_wp2
  refine bodyPost_ret (results_cell_row rfl _ _ (w.heap.size + 1) 25 _ (0, 0) _ rfl (by have := heap_alloc_new (w.alloc (.cells #[.int .u32 ((xo : Int) + (m : Int)), .int .u8 (xd : Nat), .bool xt] 25)) (.cells #[.int .u32 ((xo : Int) + (m : Int)), .int .u8 (xd : Nat), .bool xt] 25); simpa using this) Try.underlying25 rfl (by kernel_rfl)) rfl ?_
  exact ⟨rfl, ((Below.refl _ _).alloc (Nat.le_refl _) _).alloc (by simp) _⟩
end Go.Proofs.Ytpkkagiplockiaa.Nfa
