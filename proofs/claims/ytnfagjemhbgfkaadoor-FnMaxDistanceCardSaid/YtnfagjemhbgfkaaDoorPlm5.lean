/- Places: multistateDistance, PlacesDistance. -/
import Derived.Test.YtnfagjemhbgfkaaDoorPlm3
namespace Go.Proofs.YtnfagjemhbgfkaaDoor.Nfa
open Go.ChangeShapes Go.WideShapes Go.ChangeAt Go.RowKit Go.Trav Go.Nor Go.Proofs.YtnfagjemhbgfkaaDoor.Srt
set_option linter.unusedVariables false
set_option linter.unusedSimpArgs false
set_option maxRecDepth 100000
def atV (d : Nat) : Value := .iface 77 (.agg #[.int .u8 d])
theorem atd_any (d : Int) (w : World) : Calls Tryd.prog 25 #[.agg #[.int .u8 d]] w fun e w' => e = .returned (.int .u8 d) ∧ Below w.heap.size w w' := by
  go_enter Tryd.func25, Tryd.ntmps25
  go_wp2
  go_ret
  exact ⟨rfl, (Below.refl _ _).alloc (Nat.le_refl _) _⟩
set_option maxHeartbeats 8000000 in
theorem msd_any (C co L m q n : Nat) (cs : Array Value) (sw : Bool) (lv : Value) (S : List Plc) (w : World) (hL : LaAt w L m sw) (hC : w.heap[C]? = some (.cells cs 50 (0, 0))) (hco : cs[co]? = some lv) (hR : Reads w lv n 3 (S.flatMap pC)) (hS : ∀ s ∈ S, s.o ≤ 60 ∧ s.d ≤ m) (hn : n ≤ 20000) (hm : m ≤ 8) (hq : q ≤ 60) :
    Calls Tryd.prog 18 #[.pointer (some ⟨L, 0, none⟩), .pointer (some ⟨C, co, none⟩), .int .u32 q] w fun e w' => e = .returned (atV (told m q S)) ∧ Below w.heap.size w w' := by
  obtain ⟨ao, cap, rfl⟩ := hR.form
  have hSl : S.length = n := hR.recs pC pC_len (by omega)
  have l0 := block_cell (i := 0) (u := .int .u8 m) hL rfl
  have w1 : IntKind.u8.wrap ((m : Int) + 1) = (m : Int) + 1 := by simp [IntKind.wrap, IntKind.bits, IntKind.signed]; omega
  have HL := Lib.hid hL
  have HC := Lib.hid hC
  have HR := Lib.hid hR
  have HS := Lib.hid hS
  have HSL := Lib.hid hSl
  clear hL hC hR hS hSl
  have hA : (w.alloc (.cells #[.int .u8 ((m : Int) + 1)] 77)).heap[w.heap.size]? = some (.cells #[.int .u8 ((m : Int) + 1)] 77 (0, 0)) := heap_alloc_new w _
  have hBA := (Below.refl w.heap.size w).alloc (Nat.le_refl _) (.cells #[.int .u8 ((m : Int) + 1)] 77)
  go_enter Tryd.func18, Tryd.ntmps18
  go_upto_region 2 with (fail)
  generalize w.alloc (.cells #[.int .u8 ((m : Int) + 1)] 77) = W1 at hA hBA ⊢
  have cC := block_cell (i := co) (u := .slice ao n cap) (block_below HC.out hBA (block_lt HC.out)) hco
  clear hco
  have HA : Hid (W1.heap[w.heap.size]? = some (.cells #[.int .u8 (told m q (S.take 0) : Nat)] 77 (0, 0))) := Lib.hid hA
  have HB := Lib.hid hBA
  clear hA hBA
  go_wp2_with fail
  go_loopw [22] (fun kv wr => ∃ k : Nat, kv = .int .i64 k ∧ k ≤ n ∧ Hid (Below w.heap.size w wr) ∧ Hid (wr.heap[w.heap.size]? = some (.cells #[.int .u8 (told m q (S.take k) : Nat)] 77 (0, 0)))) (fun kv _ => n - (intOf kv).toNat)
  case atStart => exact ⟨0, rfl, Nat.zero_le _, HB, HA⟩
  case round =>
    clear HB HA cC l0
    obtain ⟨k, rfl, hk, HB, HA⟩ := hrel
    rename World => wr
    have hl := block_below HL.out HB.out (block_lt HL.out)
    have l0 := block_cell (i := 0) (u := .int .u8 m) hl rfl
    obtain ⟨tk, htk⟩ : ∃ tk, tk = told m q (S.take k) := ⟨_, rfl⟩
    have htm : tk ≤ m + 1 := by rw [htk]; exact (told_says m q (S.take k)).1
    rw [← htk] at HA
    have HT := Lib.hid htk
    clear htk hl
    have a0 := block_cell (i := 0) (u := .int .u8 tk) HA.out rfl
    have f0 : wr.frozen? ⟨w.heap.size, 0, none⟩ = false := block_free HA.out
    by_cases hkn : k < n
    · obtain ⟨b, off, cap', x, e, hx, c0, c1, c2⟩ := reads_at (HR.out.below HB.out) hkn
      simp only [Value.slice.injEq] at e
      obtain ⟨rfl, -, rfl⟩ := e
      have hsx := HS.out x (List.mem_of_getElem? hx)
      have hnb : (wr.alloc (.cells #[.int .u32 (x.o : Nat), .int .u8 (x.d : Nat), .bool x.t] 71)).heap[wr.heap.size]? = some (.cells #[.int .u32 (x.o : Nat), .int .u8 (x.d : Nat), .bool x.t] 71 (0, 0)) := heap_alloc_new wr _
      have hA2 : (wr.alloc (.cells #[.int .u32 (x.o : Nat), .int .u8 (x.d : Nat), .bool x.t] 71)).heap[w.heap.size]? = some (.cells #[.int .u8 tk] 77 (0, 0)) := block_alloc HA.out
      have hL2 : (wr.alloc (.cells #[.int .u32 (x.o : Nat), .int .u8 (x.d : Nat), .bool x.t] 71)).heap[L]? = some (.cells #[.int .u8 m, .bool sw] 44 (0, 0)) := block_alloc (block_below HL.out HB.out (block_lt HL.out))
      have hB2 := HB.out.alloc HB.out.size (.cells #[.int .u32 (x.o : Nat), .int .u8 (x.d : Nat), .bool x.t] 71)
      have hfle : far q x.o ≤ 120 := by unfold far; split <;> omega
      have HX := Lib.hid hx
      have w2 : IntKind.u8.wrap ((far q x.o : Nat) : Int) = ((far q x.o : Nat) : Int) := by simp [IntKind.wrap, IntKind.bits, IntKind.signed]; omega
      have w3 : IntKind.u8.wrap ((x.d : Int) + ((far q x.o : Nat) : Int)) = (x.d : Int) + ((far q x.o : Nat) : Int) := by simp [IntKind.wrap, IntKind.bits, IntKind.signed]; omega
      have hsx1 := hsx.1
      clear hx
      go_wp2_with fail
      go_upto_region 5 with (fail)
      generalize wr.alloc (.cells #[.int .u32 (x.o : Nat), .int .u8 (x.d : Nat), .bool x.t] 71) = W2 at hnb hA2 hL2 hB2 ⊢
      have D0 := block_cell (i := 0) (u := .int .u32 (x.o : Nat)) hnb rfl
      have D1 := block_cell (i := 1) (u := .int .u8 (x.d : Nat)) hnb rfl
      have a0 := block_cell (i := 0) (u := .int .u8 tk) hA2 rfl
      have f0 : W2.frozen? ⟨w.heap.size, 0, none⟩ = false := block_free hA2
      have l0 := block_cell (i := 0) (u := .int .u8 m) hL2 rfl
      have HA2 := Lib.hid hA2
      have HB2 := Lib.hid hB2
      clear hnb hA2 hL2 hB2
      go_quiet ((exact (dist_any _ _ _ (by omega) (by omega)).mono fun _ _ h => ⟨h.1, _, h.2⟩))
      obtain ⟨f, hf⟩ : ∃ f, f = far q x.o := ⟨_, rfl⟩
      rw [← hf] at w2 w3 hfle
      rw [← hf]
      have HF := Lib.hid hf
      clear hf
      by_cases h1 : x.d + f ≤ m
      · have h1z : (x.d : Int) + (f : Int) ≤ (m : Int) := by omega
        have HAT := Lib.hid (fun W => atd_any (tk : Int) W)
        go_wp2_with fail
        refine (HAT.out _).mono ?_
        rintro e w4 ⟨rfl, h4⟩
        have hA4 := block_below HA2.out (below_draws W2 nq |>.trans h4) (block_lt HA2.out)
        have hB4 := HB2.out.trans ((below_draws W2 nq |>.trans h4).mono HB2.out.size)
        have a0 := block_cell (i := 0) (u := .int .u8 tk) hA4 rfl
        have f0 : w4.frozen? ⟨w.heap.size, 0, none⟩ = false := block_free hA4
        have HA4 := Lib.hid hA4
        have HB4 := Lib.hid hB4
        clear hA4 hB4 h4
        by_cases h2 : x.d + f < tk
        · have h2z : (x.d : Int) + (f : Int) < (tk : Int) := by omega
          go_wp2_with fail
          go_roundw
          case rel =>
            refine ⟨k + 1, by go_num, by omega, Lib.hid (HB4.out.setCell (Nat.le_refl _) _), Lib.hid ?_⟩
            rw [told_take HX.out, ← HT.out, ← HF.out, if_pos ⟨h1, h2⟩]
            exact block_set HA4.out
          case measure => simp [intOf] <;> omega
        · have h2z : ¬ (x.d : Int) + (f : Int) < (tk : Int) := by omega
          go_wp2_with fail
          go_roundw
          case rel =>
            refine ⟨k + 1, by go_num, by omega, HB4, ?_⟩
            rw [told_take HX.out, ← HT.out, ← HF.out, if_neg (fun h => h2 h.2)]
            exact HA4
          case measure => simp [intOf] <;> omega
      · have h1z : ¬ (x.d : Int) + (f : Int) ≤ (m : Int) := by omega
        go_wp2_with fail
        go_roundw
        case rel =>
          refine ⟨k + 1, by go_num, by omega, Lib.hid (below_drewN HB2.out _), ?_⟩
          rw [told_take HX.out, ← HT.out, ← HF.out, if_neg (fun h => h1 h.1)]
          exact HA2
        case measure => simp [intOf] <;> omega
    · obtain rfl : k = n := by omega
      have eS : S.take k = S := List.take_of_length_le (by have := HSL.out; omega)
      have hT := HT.out
      rw [eS] at hT
      have HT2 := Lib.hid hT
      have L0 := cell_regrown l0
      clear eS hT
      by_cases h3 : tk = m + 1
      · subst h3
        have a1 : wr.cell? ⟨w.heap.size, 0, none⟩ = some (.int .u8 ((m : Int) + 1)) := a0
        have A0 := cell_regrown a1
        have HAT := Lib.hid (fun W => atd_any ((m : Int) + 1) W)
        clear a0 htm
        go_wp2_with fail
        refine wp_region_quiet_below (by kernel_rfl) (by kernel_rfl) ?_
        repeat (first | go_big_quiet_step ((go_at_call 25; exact Calls.regrown_of (HAT.out _))) | quiet_step ((go_at_call 25; exact Calls.regrown_of (HAT.out _))))
        refine wpQuiet_nil ?_
        intro _ hw'
        obtain ⟨⟨dq, osq⟩, hw''⟩ := hw'
        subst hw''
        go_wp2_with fail
        go_ret
        rw [← HT2.out]
        exact ⟨rfl, HB.out.trans ((below_regrown _ _ _).mono HB.out.size)⟩
      · have h3z : ((tk : Int) == (m : Int) + 1) = false := beq_eq_false_iff_ne.2 (by omega)
        have A0 := cell_regrown a0
        have HAT := Lib.hid (fun W => atd_any (tk : Int) W)
        go_wp2_with fail
        refine wp_region_quiet_below (by kernel_rfl) (by kernel_rfl) ?_
        repeat (first | go_big_quiet_step ((go_at_call 25; exact Calls.regrown_of (HAT.out _))) | quiet_step ((go_at_call 25; exact Calls.regrown_of (HAT.out _))))
        refine wpQuiet_nil ?_
        intro _ hw'
        obtain ⟨⟨dq, osq⟩, hw''⟩ := hw'
        subst hw''
        go_wp2_with fail
        go_ret
        rw [← HT2.out]
        exact ⟨rfl, HB.out.trans ((below_regrown _ _ _).mono HB.out.size)⟩
end Go.Proofs.YtnfagjemhbgfkaaDoor.Nfa
