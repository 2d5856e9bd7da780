/- Places: multistateDistance, PlacesDistance. -/
import Derived.Test.YtpkkagiplockiaaPlc3
namespace Go.Proofs.Ytpkkagiplockiaa.Nfa
open Go.ChangeShapes Go.WideShapes Go.ChangeAt Go.RowKit Go.Trav Go.Nor Go.Proofs.Ytpkkagiplockiaa.Srt
set_option linter.unusedVariables false
set_option linter.unusedSimpArgs false
set_option maxRecDepth 100000
def atV (d : Nat) : Value := .iface 80 (.agg #[.int .u8 d])
theorem atd_any (d : Int) (w : World) : Calls Try.prog 40 #[.agg #[.int .u8 d]] w fun e w' => e = .returned (.int .u8 d) ∧ Below w.heap.size w w' := by
  go_enter Try.func40, Try.ntmps40
  go_wp2
  go_ret
  exact ⟨rfl, (Below.refl _ _).alloc (Nat.le_refl _) _⟩
set_option maxHeartbeats 8000000 in
theorem msd_any (C L m q n : Nat) (sw : Bool) (lv : Value) (S : List Plc) (w : World) (hL : LaAt w L m sw) (hC : w.heap[C]? = some (.cells #[lv] 66 (0, 0))) (hR : Reads w lv n 3 (S.flatMap pC)) (hS : ∀ s ∈ S, s.o ≤ 60 ∧ s.d ≤ m) (hn : n ≤ 20000) (hm : m ≤ 8) (hq : q ≤ 60) :
    Calls Try.prog 34 #[.pointer (some ⟨L, 0, none⟩), .pointer (some ⟨C, 0, none⟩), .int .u32 q] w fun e w' => e = .returned (atV (told m q S)) ∧ Below w.heap.size w w' := by
  obtain ⟨ao, cap, rfl⟩ := hR.form
  have hSl : S.length = n := hR.recs pC pC_len (by omega)
  have l0 := block_cell (i := 0) (u := .int .u8 m) hL rfl
  have w1 : IntKind.u8.wrap ((m : Int) + 1) = (m : Int) + 1 := by simp [IntKind.wrap, IntKind.bits, IntKind.signed]; omega
  have HL := Lib.hid hL
  have HC := Lib.hid hC
  have HR := Lib.hid hR
  have HS := Lib.hid hS
  have HSL := Lib.hid hSl
  clear hL hC hR hS hSl
  have hA : (w.alloc (.cells #[.int .u8 ((m : Int) + 1)] 80)).heap[w.heap.size]? = some (.cells #[.int .u8 ((m : Int) + 1)] 80 (0, 0)) := heap_alloc_new w _
  have hBA := (Below.refl w.heap.size w).alloc (Nat.le_refl _) (.cells #[.int .u8 ((m : Int) + 1)] 80)
  go_enter Try.func34, Try.ntmps34
  go_upto_region 2 with (fail)
  generalize w.alloc (.cells #[.int .u8 ((m : Int) + 1)] 80) = W1 at hA hBA ⊢
  have cC := block_cell (i := 0) (u := .slice ao n cap) (block_below HC.out hBA (block_lt HC.out)) rfl
  have HA : Hid (W1.heap[w.heap.size]? = some (.cells #[.int .u8 (told m q (S.take 0) : Nat)] 80 (0, 0))) := Lib.hid hA
  have HB := Lib.hid hBA
  clear hA hBA
  go_wp2_with fail
  go_loopw [22] (fun kv wr => ∃ k : Nat, kv = .int .i64 k ∧ k ≤ n ∧ Hid (Below w.heap.size w wr) ∧ Hid (wr.heap[w.heap.size]? = some (.cells #[.int .u8 (told m q (S.take k) : Nat)] 80 (0, 0)))) (fun kv _ => n - (intOf kv).toNat)
  case atStart => exact ⟨0, rfl, Nat.zero_le _, HB, HA⟩
  case round =>
    clear HB HA cC l0
    obtain ⟨k, rfl, hk, HB, HA⟩ := hrel
    rename World => wr
    have hl := block_below HL.out HB.out (block_lt HL.out)
    have l0 := block_cell (i := 0) (u := .int .u8 m) hl rfl
    obtain ⟨tk, htk⟩ : ∃ tk, tk = told m q (S.take k) := ⟨_, rfl⟩
    have htm : tk ≤ m + 1 := by rw [htk]; exact (told_says m q (S.take k)).1
    rw [← htk] at HA
    have HT := Lib.hid htk
    clear htk hl
    have a0 := block_cell (i := 0) (u := .int .u8 tk) HA.out rfl
    have f0 : wr.frozen? ⟨w.heap.size, 0, none⟩ = false := block_free HA.out
    by_cases hkn : k < n
    · obtain ⟨b, off, cap', x, e, hx, c0, c1, c2⟩ := reads_at (HR.out.below HB.out) hkn
      simp only [Value.slice.injEq] at e
      obtain ⟨rfl, -, rfl⟩ := e
      have hsx := HS.out x (List.mem_of_getElem? hx)
      have hnb : (wr.alloc (.cells #[.int .u32 (x.o : Nat), .int .u8 (x.d : Nat), .bool x.t] 50)).heap[wr.heap.size]? = some (.cells #[.int .u32 (x.o : Nat), .int .u8 (x.d : Nat), .bool x.t] 50 (0, 0)) := heap_alloc_new wr _
      have hA2 : (wr.alloc (.cells #[.int .u32 (x.o : Nat), .int .u8 (x.d : Nat), .bool x.t] 50)).heap[w.heap.size]? = some (.cells #[.int .u8 tk] 80 (0, 0)) := block_alloc HA.out
      have hL2 : (wr.alloc (.cells #[.int .u32 (x.o : Nat), .int .u8 (x.d : Nat), .bool x.t] 50)).heap[L]? = some (.cells #[.int .u8 m, .bool sw] 76 (0, 0)) := block_alloc (block_below HL.out HB.out (block_lt HL.out))
      have hB2 := HB.out.alloc HB.out.size (.cells #[.int .u32 (x.o : Nat), .int .u8 (x.d : Nat), .bool x.t] 50)
      have hfle : far q x.o ≤ 120 := by unfold far; split <;> omega
      have HX := Lib.hid hx
      have w2 : IntKind.u8.wrap ((far q x.o : Nat) : Int) = ((far q x.o : Nat) : Int) := by simp [IntKind.wrap, IntKind.bits, IntKind.signed]; omega
      have w3 : IntKind.u8.wrap ((x.d : Int) + ((far q x.o : Nat) : Int)) = (x.d : Int) + ((far q x.o : Nat) : Int) := by simp [IntKind.wrap, IntKind.bits, IntKind.signed]; omega
      have hsx1 := hsx.1
      clear hx
      go_wp2_with fail
      go_upto_region 5 with (fail)
      generalize wr.alloc (.cells #[.int .u32 (x.o : Nat), .int .u8 (x.d : Nat), .bool x.t] 50) = W2 at hnb hA2 hL2 hB2 ⊢
      have D0 := block_cell (i := 0) (u := .int .u32 (x.o : Nat)) hnb rfl
      have D1 := block_cell (i := 1) (u := .int .u8 (x.d : Nat)) hnb rfl
      have a0 := block_cell (i := 0) (u := .int .u8 tk) hA2 rfl
      have f0 : W2.frozen? ⟨w.heap.size, 0, none⟩ = false := block_free hA2
      have l0 := block_cell (i := 0) (u := .int .u8 m) hL2 rfl
      have HA2 := Lib.hid hA2
      have HB2 := Lib.hid hB2
      clear hnb hA2 hL2 hB2
      go_quiet ((exact (dist_any _ _ _ (by omega) (by omega)).mono fun _ _ h => ⟨h.1, _, h.2⟩))
      obtain ⟨f, hf⟩ : ∃ f, f = far q x.o := ⟨_, rfl⟩
      rw [← hf] at w2 w3 hfle
      rw [← hf]
      have HF := Lib.hid hf
      clear hf
      by_cases h1 : x.d + f ≤ m
      · have h1z : (x.d : Int) + (f : Int) ≤ (m : Int) := by omega
        have HAT := Lib.hid (fun W => atd_any (tk : Int) W)
        go_wp2_with fail
        refine (HAT.out _).mono ?_
        rintro e w4 ⟨rfl, h4⟩
        have hA4 := block_below HA2.out (below_draws W2 nq |>.trans h4) (block_lt HA2.out)
        have hB4 := HB2.out.trans ((below_draws W2 nq |>.trans h4).mono HB2.out.size)
        have a0 := block_cell (i := 0) (u := .int .u8 tk) hA4 rfl
        have f0 : w4.frozen? ⟨w.heap.size, 0, none⟩ = false := block_free hA4
        have HA4 := Lib.hid hA4
        have HB4 := Lib.hid hB4
        clear hA4 hB4 h4
        by_cases h2 : x.d + f < tk
        · have h2z : (x.d : Int) + (f : Int) < (tk : Int) := by omega
          go_wp2_with fail
          go_roundw
          case rel =>
            refine ⟨k + 1, by go_num, by omega, Lib.hid (HB4.out.setCell (Nat.le_refl _) _), Lib.hid ?_⟩
            rw [told_take HX.out, ← HT.out, ← HF.out, if_pos ⟨h1, h2⟩]
            exact block_set HA4.out
          case measure => simp [intOf] <;> omega
        · have h2z : ¬ (x.d : Int) + (f : Int) < (tk : Int) := by omega
          go_wp2_with fail
          go_roundw
          case rel =>
            refine ⟨k + 1, by go_num, by omega, HB4, ?_⟩
            rw [told_take HX.out, ← HT.out, ← HF.out, if_neg (fun h => h2 h.2)]
            exact HA4
          case measure => simp [intOf] <;> omega
      · have h1z : ¬ (x.d : Int) + (f : Int) ≤ (m : Int) := by omega
        go_wp2_with fail
        go_roundw
        case rel =>
          refine ⟨k + 1, by go_num, by omega, Lib.hid (below_drewN HB2.out _), ?_⟩
          rw [told_take HX.out, ← HT.out, ← HF.out, if_neg (fun h => h1 h.1)]
          exact HA2
        case measure => simp [intOf] <;> omega
    · obtain rfl : k = n := by omega
      have eS : S.take k = S := List.take_of_length_le (by have := HSL.out; omega)
      have hT := HT.out
      rw [eS] at hT
      have HT2 := Lib.hid hT
      have L0 := cell_regrown l0
      clear eS hT
      by_cases h3 : tk = m + 1
      · subst h3
        have a1 : wr.cell? ⟨w.heap.size, 0, none⟩ = some (.int .u8 ((m : Int) + 1)) := a0
        have A0 := cell_regrown a1
        have HAT := Lib.hid (fun W => atd_any ((m : Int) + 1) W)
        clear a0 htm
        go_wp2_with fail
        refine wp_region_quiet_below (by kernel_rfl) (by kernel_rfl) ?_
        repeat (first | go_big_quiet_step ((go_at_call 40; exact Calls.regrown_of (HAT.out _))) | quiet_step ((go_at_call 40; exact Calls.regrown_of (HAT.out _))))
        refine wpQuiet_nil ?_
        intro _ hw'
        obtain ⟨⟨dq, osq⟩, hw''⟩ := hw'
        subst hw''
        go_wp2_with fail
        go_ret
        rw [← HT2.out]
        exact ⟨rfl, HB.out.trans ((below_regrown _ _ _).mono HB.out.size)⟩
      · have h3z : ((tk : Int) == (m : Int) + 1) = false := beq_eq_false_iff_ne.2 (by omega)
        have A0 := cell_regrown a0
        have HAT := Lib.hid (fun W => atd_any (tk : Int) W)
        go_wp2_with fail
        refine wp_region_quiet_below (by kernel_rfl) (by kernel_rfl) ?_
        repeat (first | go_big_quiet_step ((go_at_call 40; exact Calls.regrown_of (HAT.out _))) | quiet_step ((go_at_call 40; exact Calls.regrown_of (HAT.out _))))
        refine wpQuiet_nil ?_
        intro _ hw'
        obtain ⟨⟨dq, osq⟩, hw''⟩ := hw'
        subst hw''
        go_wp2_with fail
        go_ret
        rw [← HT2.out]
        exact ⟨rfl, HB.out.trans ((below_regrown _ _ _).mono HB.out.size)⟩
theorem zzkind_any (d : Nat) (w : World) : Calls Try.prog 33 #[atV d] w fun e w' => e = .returned (.tuple #[.bool false, .int .u8 d]) ∧ Below w.heap.size w w' := by
  have mD : ∀ w, (method 225 80 (.agg #[.int .u8 d]) "pub-traverser/pub/vellum/levenshtein.distance").run Try.prog w = .ok (40, .agg #[.int .u8 d]) w := fun w => by kernel_rfl
  have nD : ∀ w, (nilAhead 225 80 (.agg #[.int .u8 d]) "pub-traverser/pub/vellum/levenshtein.distance").run Try.prog w = .ok (some false) w := fun w => by kernel_rfl
  have hta : ∀ w, (Instr.typeAssert (.iface 80 (.agg #[.int .u8 d])) 57 78 true).run Try.prog w = .ok (.tuple #[.agg #[.int .u8 0], .bool false]) w := fun w => by kernel_rfl
  have HAT := Lib.hid (fun W => atd_any (d : Int) W)
  unfold atV
  go_enter Try.func33, Try.ntmps33
  go_wp2_with fail
  refine (HAT.out _).mono ?_
  rintro e w2 ⟨rfl, h2⟩
  go_wp2_with fail
  go_ret2
  exact ⟨rfl, ((Below.refl _ _).alloc (Nat.le_refl _) _).trans (h2.mono (by simp))⟩
theorem kind_any (d : Nat) (w : World) : Calls Try.prog 23 #[atV d] w fun e w' => e = .returned (.tuple #[.bool false, .int .u8 d]) ∧ Below w.heap.size w w' := by
  have H := Lib.hid (zzkind_any d w)
  unfold atV at H ⊢
  go_enter Try.func23, Try.ntmps23
  go_wp2_with fail
  refine H.out.mono ?_
  rintro e w2 ⟨rfl, h2⟩
  go_wp2_with fail
  go_ret2
  exact ⟨rfl, h2⟩
set_option maxHeartbeats 4000000 in
theorem pd_any (m q n : Nat) (v : Value) (S : List Plc) (w : World) (hR : Reads w v n 3 (S.flatMap pC)) (hS : ∀ s ∈ S, s.o ≤ 60 ∧ s.d ≤ m) (hn : n ≤ 20000) (hm : m ≤ 8) (hq : q ≤ 60) :
    Calls Try.prog 12 #[v, .int .u32 q, .int .u8 m] w fun e w' => e = .returned (.tuple #[.bool false, .int .u8 (told m q S : Nat)]) ∧ Below w.heap.size w w' := by
  obtain ⟨ao, cap, rfl⟩ := hR.form
  have HR := Lib.hid hR
  have HS := Lib.hid hS
  clear hR hS
  go_enter Try.func12, Try.ntmps12
  go_wp2_with fail
  refine (znfa_any m false w).mono ?_
  rintro e w1 ⟨L, rfl, hL, hb⟩
  have HI := Lib.hid (in_any (.slice ao n cap) n S w1 (HR.out.below hb) (by omega))
  have HL := Lib.hid hL
  have HB := Lib.hid hb
  clear hL hb
  go_wp2_with fail
  refine HI.out.mono ?_
  rintro e w2 ⟨v2, rfl, ho, hb2⟩
  obtain ⟨a2, c2, rfl⟩ := ownsRow_form ho
  have hbx := (Below.refl w2.heap.size w2).alloc (Nat.le_refl _) (.cells #[.slice a2 n c2] 66)
  have hm0 := msd_any w2.heap.size L m q n false (.slice a2 n c2) S (w2.alloc (.cells #[.slice a2 n c2] 66)) (((HL.out.below hb2)).below hbx) (heap_alloc_new w2 _) ((reads_of_owns ho).below hbx) HS.out hn hm hq
  have HM := Lib.hid hm0
  have HB2 := Lib.hid (HB.out.trans (hb2.mono HB.out.size))
  have HBX := Lib.hid hbx
  have HZ : Hid (Calls Try.prog 24 #[.pointer (some ⟨L, 0, none⟩), .slice a2 n c2, .int .u32 q] w2 fun e w' => e = .returned (atV (told m q S)) ∧ Below w2.heap.size w2 w') := by
    clear ho hb2 hbx hm0
    apply Lib.hid
    go_enter Try.func24, Try.ntmps24
    go_wp2_with fail
    refine HM.out.mono ?_
    rintro e w3 ⟨rfl, h3⟩
    unfold atV
    go_wp2_with fail
    go_ret
    exact ⟨rfl, HBX.out.trans (h3.mono HBX.out.size)⟩
  clear ho hb2 hbx hm0 HM
  go_wp2_with fail
  refine HZ.out.mono ?_
  rintro e w3 ⟨rfl, h3⟩
  have HB3 := Lib.hid (HB2.out.trans (h3.mono HB2.out.size))
  have HK := Lib.hid (kind_any (told m q S) w3)
  clear h3
  unfold atV at HK ⊢
  go_wp2_with fail
  refine HK.out.mono ?_
  rintro e w4 ⟨rfl, h4⟩
  go_wp2_with fail
  go_ret2
  exact ⟨rfl, HB3.out.trans (h4.mono HB3.out.size)⟩
end Go.Proofs.Ytpkkagiplockiaa.Nfa
