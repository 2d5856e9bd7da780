/- Places: simpleTransition. -/
import Derived.Test.YtnfagjemhbgfkaaDoorPlc2
import Derived.Test.YtnfagjemhbgfkaaDoorPlm1
import Derived.Test.YtnfagjemhbgfkaaDoorPlcB
import Derived.Deep.DeepCutAuto
namespace Go.Proofs.YtnfagjemhbgfkaaDoor.Nfa
open Go.ChangeShapes Go.WideShapes Go.ChangeAt Go.RowKit Go.Trav Go.Nor Go.Proofs.YtnfagjemhbgfkaaDoor.Srt
set_option linter.unusedVariables false
set_option linter.unusedSimpArgs false
set_option maxRecDepth 100000
/-- A set that grows, since the world W. -/
structure SI (W : World) (base M : Nat) (v0 : Value) (K : Nat) (w : World) (v : Value) (G : List Plc) : Prop where
  ms : MsAt w base M v G
  mod : Mod (Fr M v0) W w
  own : Own W v0 v
  bnd : Bnd K G
theorem SI.draw {W : World} {base M K : Nat} {v0 v : Value} {w : World} {G : List Plc} (h : SI W base M v0 K w v G) (k : Nat) : SI W base M v0 K (w.drewN k) v G :=
  ⟨h.ms.drewN k, h.mod.drewN k, h.own, h.bnd⟩
theorem SI.next {W : World} {base M K : Nat} {v0 v v' : Value} {w w' : World} {G G' : List Plc} (h : SI W base M v0 K w v G) (hm : MsAt w' base M v' G') (ho : Own w v v') (hmod : Mod (Fr M v) w w') (hb : Bnd K G') : SI W base M v0 K w' v' G' := by
  refine ⟨hm, h.mod.step hmod (fun i hi hf => ?_), ?_, hb⟩
  · rcases hf with hf | hf
    · exact Or.inl hf
    · exact own_fr h.own i hf hi
  · rcases ho with ho | ho
    · rcases h.own with h1 | h1
      · exact Or.inl (ho.trans h1)
      · exact Or.inr fun g hg => h1 g (ho ▸ hg)
    · exact Or.inr fun g hg => Nat.le_trans h.mod.size (ho g hg)
theorem SI.keep {W : World} {base M K : Nat} {v0 v : Value} {w : World} {G : List Plc} (h : SI W base M v0 K w v G) {b : Nat} {o : Obj} (ho : W.heap[b]? = some o) (hf : ¬ Fr M v0 b) : w.heap[b]? = some o := h.mod.heap ho hf
theorem bnd_sm {K : Nat} {G : List Plc} (h : Bnd K G) (hK : K ≤ 1000) : ∀ s ∈ G, Sm s := fun s hs => ⟨by have := (h.2 s hs).1; omega, by have := (h.2 s hs).2; omega⟩
/-- addStates, at numbers as they come. -/
theorem add3 {W : World} {base M K : Nat} {v0 v : Value} {w : World} {G : List Plc} (h : SI W base M v0 K w v G) (hK : K ≤ 1000) (x : Plc) (o' d' : Int) (ho : o' = (x.o : Nat)) (hd : d' = (x.d : Nat)) (hx : x.o ≤ K ∧ x.d ≤ 8) :
    Calls Tryd.prog 20 #[.pointer (some ⟨M, 0, none⟩), .agg #[.int .u32 o', .int .u8 d', .bool x.t]] w fun e w' => e = .returned (.tuple #[]) ∧ ∃ v', SI W base M v0 K w' v' (add G x) := by
  subst ho hd
  refine (add2_any base M v G x w h.ms (bnd_sm h.bnd hK) ⟨by omega, by omega⟩ (by have := h.bnd.len hK; omega)).mono ?_
  rintro e w' ⟨rfl, ⟨v', h1, h2⟩, h3⟩
  exact ⟨rfl, v', h.next h1 h2 h3 (h.bnd.add hx)⟩
theorem ext3 (X p : Nat) (p' : Int) (hp' : p' = (p : Nat)) (w : World) (hX : X < 18446744073709551616) (hp : p < 64) :
    Calls Tryd.prog 29 #[.int .u64 X, .int .u8 p'] w fun e w' => e = .returned (.bool (X.testBit p)) ∧ w' = w := by
  subst hp'
  exact ext_any X p w hX hp
/-- What stays in sight: the automaton's struct and the place's. -/
structure Sees (w : World) (L B m : Nat) (sw : Bool) (s : Plc) : Prop where
  l0 : w.cell? ⟨L, 0, none⟩ = some (.int .u8 m)
  l1 : w.cell? ⟨L, 1, none⟩ = some (.bool sw)
  b0 : w.cell? ⟨B, 0, none⟩ = some (.int .u32 (s.o : Nat))
  b1 : w.cell? ⟨B, 1, none⟩ = some (.int .u8 (s.d : Nat))
  b2 : w.cell? ⟨B, 2, none⟩ = some (.bool s.t)
set_option maxHeartbeats 16000000 in
theorem simple_any (base M L m K X : Nat) (sw : Bool) (v : Value) (G : List Plc) (s : Plc) (w : World) (h : MsAt w base M v G) (hL : LaAt w L m sw) (hb : Bnd K G) (hs : s.o + 10 ≤ K ∧ s.d ≤ m) (hm : m ≤ 8) (hK : K ≤ 1000) (hX : X < 18446744073709551616) :
    Calls Tryd.prog 22 #[.pointer (some ⟨L, 0, none⟩), pV s, .int .u64 X, .pointer (some ⟨M, 0, none⟩)] w fun e w' => e = .returned (.tuple #[]) ∧ ∃ v', SI w base M v K w' v' (adds G (outs m sw X.testBit s)) := by
  obtain ⟨so, sd, st⟩ := s
  simp only at hs
  have HLM : ¬ Fr M v L := by
    rintro (e | e)
    · rw [e] at hL
      have := h.blk.symm.trans hL
      cases this
    · exact ownsRow_ne_block h.row hL (by decide) e
  have HBM : ¬ Fr M v w.heap.size := by
    rintro (e | e)
    · have := block_lt h.blk; omega
    · exact absurd (h.lt _ e) (Nat.lt_irrefl _)
  obtain ⟨W1, hW1⟩ : ∃ W1, W1 = w.alloc (.cells #[.int .u32 (so : Nat), .int .u8 (sd : Nat), .bool st] 71) := ⟨_, rfl⟩
  have hB1 : W1.heap[w.heap.size]? = some (.cells #[.int .u32 (so : Nat), .int .u8 (sd : Nat), .bool st] 71 (0, 0)) := by rw [hW1]; exact heap_alloc_new w _
  have hL1 : W1.heap[L]? = some (.cells #[.int .u8 m, .bool sw] 44 (0, 0)) := by rw [hW1]; exact block_alloc hL
  have hS1 : SI w base M v K W1 v G := by rw [hW1]; exact ⟨h.alloc _, (Mod.refl _ _).alloc _, Own.refl _ _, hb⟩
  have hsee : ∀ (w' : World) (v' : Value) (G' : List Plc), SI W1 base M v K w' v' G' → Sees w' L w.heap.size m sw ⟨so, sd, st⟩ := fun w' v' G' hh => by
    have h1 := hh.keep hL1 HLM
    have h2 := hh.keep hB1 HBM
    exact ⟨block_cell h1 rfl, block_cell h1 rfl, block_cell h2 rfl, block_cell h2 rfl, block_cell h2 rfl⟩
  have hsi : ∀ (w' : World) (v' : Value) (G' : List Plc), SI W1 base M v K w' v' G' → SI w base M v K w' v' G' := fun w' v' G' hh => by
    have hz : w.heap.size ≤ W1.heap.size := by rw [hW1]; simp
    refine ⟨hh.ms, ?_, ?_, hh.bnd⟩
    · have := hS1.mod
      exact this.trans hh.mod
    · rcases hh.own with h1 | h1
      · exact Or.inl h1
      · exact Or.inr fun g hg => Nat.le_trans hz (h1 g hg)
  have hS0 : SI W1 base M v K W1 v G := ⟨hS1.ms, Mod.refl _ _, Own.refl _ _, hb⟩
  have HSEE := Lib.hid hsee
  have HSI := Lib.hid hsi
  have HS := Lib.hid hS0
  have hs0 := hsee W1 v G hS0
  obtain ⟨l0, l1, b0, b1, b2⟩ := hs0
  clear hsee hsi hS0 hS1 hL1 hB1 HLM HBM h hL hb
  unfold pV
  go_enter Tryd.func22, Tryd.ntmps22
  go_upto_region 1 with (fail)
  simp only at *
  rw [← hW1]
  have HW1 := Lib.hid hW1
  clear hW1
  go_quiet (fail)
  have HS0 := Lib.hid (HS.out.draw nq)
  clear HS
  go_upto_if 16 with fail
  go_cut [8, 9, 16] from 17 (fun s8 s9 s16 wc => ∃ v', Hid (SI W1 base M v K wc v' (adds G (outs1 m sw X.testBit ⟨so, sd, st⟩))))
  case first =>
    by_cases hd : sd < m
    · have hz : (sd : Int) < (m : Int) := by omega
      obtain ⟨nn, hnn⟩ : ∃ nn : Nat, nn = m - sd := ⟨_, rfl⟩
      have w1 : IntKind.u8.wrap ((sd : Int) + 1) = (sd : Int) + 1 := by simp [IntKind.wrap, IntKind.bits, IntKind.signed]; omega
      have w2 : IntKind.u8.wrap ((m : Int) + 1) = (m : Int) + 1 := by simp [IntKind.wrap, IntKind.bits, IntKind.signed]; omega
      have w3 : ((m : Int) + 1 - (sd : Int)) = (nn : Int) + 1 := by omega
      have w4 : IntKind.u8.wrap ((nn : Int) + 1) = (nn : Int) + 1 := by simp [IntKind.wrap, IntKind.bits, IntKind.signed]; omega
      have w5 : IntKind.u32.wrap ((so : Int) + 1) = (so : Int) + 1 := by simp [IntKind.wrap, IntKind.bits, IntKind.signed]; omega
      go_wp2_with fail
      refine (add3 HS0.out hK ⟨so, sd + 1, false⟩ _ _ rfl (by push_cast; rfl) (by simp only; omega)).mono ?_
      rintro e w2' ⟨rfl, v2, hs2⟩
      have HS2 := Lib.hid hs2
      obtain ⟨l0, l1, b0, b1, b2⟩ := HSEE.out _ _ _ hs2
      clear hs2
      go_wp2_with fail
      refine (add3 HS2.out hK ⟨so + 1, sd + 1, false⟩ _ _ (by push_cast; rfl) (by push_cast; rfl) (by simp only; omega)).mono ?_
      rintro e w3' ⟨rfl, v3, hs3⟩
      obtain ⟨l0, l1, b0, b1, b2⟩ := HSEE.out _ _ _ hs3
      have HS3 : Hid (SI W1 base M v K w3' v3 (adds G ([⟨so, sd + 1, false⟩, ⟨so + 1, sd + 1, false⟩] ++ dels X.testBit ⟨so, sd, st⟩ 0))) := Lib.hid hs3
      clear hs3
      go_wp2_with fail
      go_quiet (fail)
      have HS4 := Lib.hid (HS3.out.draw nq)
      go_wp2_with fail
      go_loopw [9] (fun dv wr => ∃ (j : Nat) (vj : Value), dv = .int .u8 ((j : Int) + 1) ∧ j ≤ nn ∧ Hid (SI W1 base M v K wr vj (adds G ([⟨so, sd + 1, false⟩, ⟨so + 1, sd + 1, false⟩] ++ dels X.testBit ⟨so, sd, st⟩ j)))) (fun dv _ => nn + 1 - (intOf dv).toNat)
      case atStart => exact ⟨0, v3, rfl, Nat.zero_le _, HS4⟩
      case round =>
        clear HS4 HS3 HS2 HS0 l0 l1 b0 b1 b2
        obtain ⟨j, vj, rfl, hj, HJ⟩ := hrel
        rename World => wr
        obtain ⟨l0, l1, b0, b1, b2⟩ := HSEE.out _ _ _ HJ.out
        by_cases hjn : j < nn
        · have t1 : (j : Int) + 1 < (nn : Int) + 1 := by omega
          have w6 : IntKind.u8.wrap ((j : Int) + 1) = (j : Int) + 1 := by simp [IntKind.wrap, IntKind.bits, IntKind.signed]; omega
          have w7 : IntKind.u8.wrap ((j : Int) + 1 + 1) = (j : Int) + 1 + 1 := by simp [IntKind.wrap, IntKind.bits, IntKind.signed]; omega
          have HE := Lib.hid (fun W => ext3 X (j + 1) ((j : Int) + 1) (by push_cast; rfl) W hX (by omega))
          go_wp2_with fail
          refine (HE.out _).mono ?_
          rintro e w5' ⟨rfl, rfl⟩
          cases hbit : X.testBit (j + 1) with
          | true =>
            have w8 : IntKind.u32.wrap ((so : Int) + 1 + ((j : Int) + 1)) = (so : Int) + 1 + ((j : Int) + 1) := by simp [IntKind.wrap, IntKind.bits, IntKind.signed]; omega
            have w9 : IntKind.u8.wrap ((sd : Int) + ((j : Int) + 1)) = (sd : Int) + ((j : Int) + 1) := by simp [IntKind.wrap, IntKind.bits, IntKind.signed]; omega
            go_wp2_with fail
            refine (add3 HJ.out hK ⟨so + 1 + (j + 1), sd + (j + 1), false⟩ _ _ (by push_cast; rfl) (by push_cast; rfl) (by simp only; omega)).mono ?_
            rintro e w6' ⟨rfl, v6, hs6⟩
            have HS6 := Lib.hid hs6
            clear hs6
            go_wp2_with fail
            go_roundw
            case rel =>
              refine ⟨j + 1, v6, by push_cast; rfl, by omega, ?_⟩
              rw [dels_yes hbit, ← List.append_assoc, adds_append]
              exact HS6
            case measure => simp [intOf] <;> omega
          | false =>
            go_wp2_with fail
            go_roundw
            case rel =>
              refine ⟨j + 1, vj, by push_cast; rfl, by omega, ?_⟩
              rw [dels_no hbit]
              exact HJ
            case measure => simp [intOf] <;> omega
        · obtain rfl : j = nn := by omega
          have ho1 : outs1 m sw X.testBit ⟨so, sd, st⟩ = [⟨so, sd + 1, false⟩, ⟨so + 1, sd + 1, false⟩] ++ dels X.testBit ⟨so, sd, st⟩ j ++ (if sw && X.testBit 1 then [⟨so, sd + 1, true⟩] else []) := by
            unfold outs1
            rw [if_pos hd, hnn]
          have HO1 := Lib.hid ho1
          have HE := Lib.hid (fun W => ext3 X 1 1 rfl W hX (by omega))
          clear ho1
          cases sw with
          | false =>
            go_wp2_with fail
            go_meet
            case rel =>
              refine ⟨vj, ?_⟩
              rw [HO1.out]
              simpa using HJ
          | true =>
            go_wp2_with fail
            refine (HE.out _).mono ?_
            rintro e w5' ⟨rfl, rfl⟩
            cases hbit : X.testBit 1 with
            | false =>
              go_wp2_with fail
              go_meet
              case rel =>
                refine ⟨vj, ?_⟩
                rw [HO1.out, hbit]
                simpa using HJ
            | true =>
              go_wp2_with fail
              refine (add3 HJ.out hK ⟨so, sd + 1, true⟩ _ _ rfl (by push_cast; rfl) (by simp only; omega)).mono ?_
              rintro e w6' ⟨rfl, v6, hs6⟩
              have HS6 := Lib.hid hs6
              clear hs6
              go_wp2_with fail
              go_meet
              case rel =>
                refine ⟨v6, ?_⟩
                rw [HO1.out, hbit, adds_append]
                exact HS6
    · have hz : ¬ (sd : Int) < (m : Int) := by omega
      go_wp2_with fail
      go_meet
      case rel =>
        refine ⟨v, ?_⟩
        unfold outs1
        rw [if_neg hd]
        exact HS0
  case rest =>
    clear HS0 l0 l1 b0 b1 b2
    obtain ⟨vc, HC⟩ := hcut
    obtain ⟨l0, l1, b0, b1, b2⟩ := HSEE.out _ _ _ HC.out
    have w1 : IntKind.u32.wrap ((so : Int) + 1) = (so : Int) + 1 := by simp [IntKind.wrap, IntKind.bits, IntKind.signed]; omega
    have w2 : IntKind.u32.wrap ((so : Int) + 2) = (so : Int) + 2 := by simp [IntKind.wrap, IntKind.bits, IntKind.signed]; omega
    have HE := Lib.hid (fun W => ext3 X 0 0 rfl W hX (by omega))
    have ho := outs_eq m sw X.testBit ⟨so, sd, st⟩
    have HO := Lib.hid ho
    clear ho
    go_wp2_with fail
    refine (HE.out _).mono ?_
    rintro e w5' ⟨rfl, rfl⟩
    cases hbit : X.testBit 0 with
    | false =>
      have hfin : adds G (outs m sw X.testBit ⟨so, sd, st⟩) = adds G (outs1 m sw X.testBit ⟨so, sd, st⟩) := by
        rw [HO.out]; simp [outs2, outs3, hbit]
      have HF := Lib.hid hfin
      clear hfin
      cases st with
      | false =>
        go_wp2_with fail
        go_end0
        exact ⟨rfl, vc, by rw [HF.out]; exact HSI.out _ _ _ HC.out⟩
      | true =>
        go_wp2_with fail
        refine (HE.out _).mono ?_
        rintro e w6' ⟨rfl, rfl⟩
        rw [hbit]
        go_wp2_with fail
        go_end0
        exact ⟨rfl, vc, by rw [HF.out]; exact HSI.out _ _ _ HC.out⟩
    | true =>
      go_wp2_with fail
      refine (add3 HC.out hK ⟨so + 1, sd, false⟩ _ _ (by push_cast; rfl) rfl (by simp only; omega)).mono ?_
      rintro e w6' ⟨rfl, v6, hs6⟩
      have HS6 := Lib.hid hs6
      obtain ⟨l0, l1, b0, b1, b2⟩ := HSEE.out _ _ _ hs6
      clear hs6
      cases st with
      | false =>
        go_wp2_with fail
        go_end0
        refine ⟨rfl, v6, ?_⟩
        rw [HO.out]
        simp only [outs2, outs3, hbit, Bool.false_and, if_true, List.append_nil, adds_append]
        exact HSI.out _ _ _ HS6.out
      | true =>
        go_wp2_with fail
        refine (HE.out _).mono ?_
        rintro e w7' ⟨rfl, rfl⟩
        rw [hbit]
        go_wp2_with fail
        refine (add3 HS6.out hK ⟨so + 2, sd, false⟩ _ _ (by push_cast; rfl) rfl (by simp only; omega)).mono ?_
        rintro e w8' ⟨rfl, v8, hs8⟩
        have HS8 := Lib.hid hs8
        clear hs8
        go_wp2_with fail
        go_end0
        refine ⟨rfl, v8, ?_⟩
        rw [HO.out]
        simp only [outs2, outs3, hbit, Bool.and_self, if_true, adds_append]
        exact HSI.out _ _ _ HS8.out
end Go.Proofs.YtnfagjemhbgfkaaDoor.Nfa
