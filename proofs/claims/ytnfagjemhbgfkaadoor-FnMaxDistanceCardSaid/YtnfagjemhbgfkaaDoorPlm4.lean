/- Places: transition, ZzTransition, StepPlaces. -/
import Derived.Test.YtnfagjemhbgfkaaDoorPlm3
import Derived.Test.YtnfagjemhbgfkaaDoorNfa5
namespace Go.Proofs.YtnfagjemhbgfkaaDoor.Nfa
open Go.ChangeShapes Go.WideShapes Go.ChangeAt Go.RowKit Go.Trav Go.Nor Go.Proofs.YtnfagjemhbgfkaaDoor.Srt
set_option linter.unusedVariables false
set_option linter.unusedSimpArgs false
set_option maxRecDepth 100000
/-- The bits that one place sees. -/
def cvN (chi m o : Nat) : Nat := (chi / 2 ^ o) &&& (2 ^ (2 * m + 1) - 1)
theorem cvN_bit (chi m o d : Nat) : (cvN chi m o).testBit d = (decide (d < 2 * m + 1) && chi.testBit (o + d)) := by
  unfold cvN
  rw [Nat.testBit_and, Nat.testBit_two_pow_sub_one, Nat.testBit_div_two_pow, Bool.and_comm, Nat.add_comm d o]
theorem cvN_lt (chi m o : Nat) (h : chi < 18446744073709551616) : cvN chi m o < 18446744073709551616 :=
  Nat.lt_of_le_of_lt (Nat.and_le_left) (Nat.lt_of_le_of_lt (Nat.div_le_self _ _) h)
theorem clear2_any (base M : Nat) (g cap : Nat) (w : World) (h : MsAt w base M (.slice (some ⟨g, 0, none⟩) 0 cap) []) :
    Calls Tryd.prog 21 #[.pointer (some ⟨M, 0, none⟩)] w fun e w' => e = .returned (.tuple #[]) ∧ SI w base M (.slice (some ⟨g, 0, none⟩) 0 cap) 0 w' (.slice (some ⟨g, 0, none⟩) 0 cap) [] := by
  have c0 := block_cell (i := 0) (u := .slice (some ⟨g, 0, none⟩) 0 cap) h.blk rfl
  have f0 : w.frozen? ⟨M, 0, none⟩ = false := block_free h.blk
  have H := Lib.hid h
  clear h
  go_enter Tryd.func21, Tryd.ntmps21
  go_wp2
  go_end0
  refine ⟨rfl, ⟨block_set H.out.blk, ?_, H.out.ge⟩, (Mod.refl _ _).setCell (fun _ => Or.inl rfl) _, Own.refl _ _, Bnd.nil _⟩
  exact ownsRow_setCell_ne H.out.row (fun e => H.out.ne e.symm) _
theorem cv_eq (chi m o mk : Nat) (hX : chi < 18446744073709551616) (hmk : mk = 2 ^ (2 * m + 1) - 1) (hm : mk ≤ 131072) : bits .and .u64 ((chi : Int) / 2 ^ min o 64) (mk : Int) = ((cvN chi m o : Nat) : Int) := by
  have e1 : ((chi : Int) / 2 ^ min o 64) = ((chi / 2 ^ min o 64 : Nat) : Int) := by
    rw [Int.natCast_ediv]; simp
  have e2 : chi / 2 ^ min o 64 = chi / 2 ^ o := by
    by_cases h : o ≤ 64
    · rw [Nat.min_eq_left h]
    · rw [Nat.min_eq_right (by omega)]
      have h1 : (2 : Nat) ^ 64 ≤ 2 ^ o := Nat.pow_le_pow_right (by omega) (by omega)
      have h2 : (2 : Nat) ^ 64 = 18446744073709551616 := by decide
      rw [Nat.div_eq_of_lt (by omega), Nat.div_eq_of_lt (by omega)]
  rw [e1, e2, u64_and_nat _ _ (Nat.lt_of_le_of_lt (Nat.div_le_self _ _) hX) (by omega)]
  unfold cvN
  rw [hmk]
theorem moves_snoc (m : Nat) (sw : Bool) (bit : Nat → Nat → Bool) (S : List Plc) (x : Plc) : moves m sw bit (S ++ [x]) = moves m sw bit S ++ outs m sw (bit x.o) x := by
  unfold moves; rw [List.flatMap_append]; simp
theorem SI.bd {W : World} {base M K K' : Nat} {v0 v : Value} {w : World} {G : List Plc} (h : SI W base M v0 K w v G) (hb : Bnd K' G) : SI W base M v0 K' w v G := ⟨h.ms, h.mod, h.own, hb⟩
set_option maxHeartbeats 16000000 in
theorem trans_any (base C co M L m K chi n : Nat) (cs : Array Value) (sw : Bool) (lv : Value) (S : List Plc) (g0 c0' : Nat) (w : World) (hM : MsAt w base M (.slice (some ⟨g0, 0, none⟩) 0 c0') []) (hL : LaAt w L m sw) (hC : w.heap[C]? = some (.cells cs 50 (0, 0))) (hco : cs[co]? = some lv) (hCM : C ≠ M)
    (hR : Reads w lv n 3 (S.flatMap pC)) (hlv : ∀ g, lv.ownBlock = some g → g ≠ M ∧ g ≠ g0) (hS : ∀ s ∈ S, s.o + 10 ≤ K ∧ s.d ≤ m) (hn : n ≤ 20000) (hm : m ≤ 8) (hK : K ≤ 1000) (hX : chi < 18446744073709551616) :
    Calls Tryd.prog 16 #[.pointer (some ⟨L, 0, none⟩), .pointer (some ⟨C, co, none⟩), .pointer (some ⟨M, 0, none⟩), .int .u64 chi] w fun e w' => e = .returned (.tuple #[]) ∧ (∃ v' S', S'.Perm (all (moves m sw (fun o => (cvN chi m o).testBit) S)) ∧ MsAt w' base M v' S') ∧ Below base w w' := by
  obtain ⟨ao, cap, rfl⟩ := hR.form
  have hSl : S.length = n := hR.recs pC pC_len (by omega)
  have HM := Lib.hid hM
  have HL := Lib.hid hL
  have HC := Lib.hid hC
  have HR := Lib.hid hR
  have HS := Lib.hid hS
  have HSL := Lib.hid hSl
  have HLV := Lib.hid hlv
  clear hM hL hC hR hS hSl hlv
  go_enter Tryd.func16, Tryd.ntmps16
  go_wp2_with fail
  refine (clear2_any base M g0 c0' w HM.out).mono ?_
  rintro e w1 ⟨rfl, h1⟩
  have hLM : ¬ Fr M (.slice (some ⟨g0, 0, none⟩) 0 c0') L := by
    rintro (e | e)
    · have h2 := HL.out
      unfold LaAt at h2
      rw [e] at h2
      have := HM.out.blk.symm.trans h2
      cases this
    · exact ownsRow_ne_block HM.out.row HL.out (by decide) e
  have hCMf : ¬ Fr M (.slice (some ⟨g0, 0, none⟩) 0 c0') C := by
    rintro (e | e)
    · exact hCM e
    · exact ownsRow_ne_block HM.out.row HC.out (by decide) e
  have HLM := Lib.hid hLM
  have HCM := Lib.hid hCMf
  have HS1 := Lib.hid (h1.bd (Bnd.nil K))
  have HD := Lib.hid (dia_any L m sw w1 (h1.keep HL.out hLM) hm)
  clear h1 hLM hCMf
  go_wp2_with fail
  refine HD.out.mono ?_
  rintro e w1' ⟨rfl, rfl⟩
  go_upto_region 2 with (fail)
  obtain ⟨mk, hmk⟩ : ∃ mk : Nat, mk = 2 ^ (2 * m + 1) - 1 := ⟨_, rfl⟩
  have hp : (2 : Nat) ^ (2 * m + 1) ≤ 2 ^ 17 := Nat.pow_le_pow_right (by omega) (by omega)
  have hp1 : 1 ≤ (2 : Nat) ^ (2 * m + 1) := Nat.one_le_two_pow
  have hp2 : (2 : Nat) ^ 17 = 131072 := by decide
  have e1 : ((2 : Int) ^ (2 * m + 1)) = ((2 ^ (2 * m + 1) : Nat) : Int) := by simp
  have hmask : IntKind.u64.wrap (IntKind.u64.wrap ((2 : Int) ^ (2 * m + 1)) - 1) = (mk : Int) := by
    rw [e1, IntKind.wrap_u64, IntKind.wrap_u64, hmk]
    omega
  have hmk2 : mk ≤ 131072 := by omega
  have hc1 : IntKind.u64.wrap ((2 : Int) ^ (2 * m + 1)) = (mk : Int) + 1 := by
    rw [e1, IntKind.wrap_u64, hmk]
    omega
  rw [hmask, hc1]
  have HMK := Lib.hid hmk
  clear hmk hp hp1 hp2 e1 hmask hc1
  have cC := block_cell (i := co) (u := .slice ao n cap) (HS1.out.keep HC.out HCM.out) hco
  clear hco
  go_wp2_with fail
  go_loopw [23] (fun kv wr => ∃ (k : Nat) (vk : Value), kv = .int .i64 k ∧ k ≤ n ∧ Hid (SI w base M (.slice (some ⟨g0, 0, none⟩) 0 c0') K wr vk (adds [] (moves m sw (fun o => (cvN chi m o).testBit) (S.take k))))) (fun kv _ => n - (intOf kv).toNat)
  case atStart => exact ⟨0, _, rfl, Nat.zero_le _, HS1⟩
  case round =>
    clear HS1 cC HD
    obtain ⟨k, vk, rfl, hk, HK⟩ := hrel
    rename World => wr
    by_cases hkn : k < n
    · have hrd : Reads wr (.slice ao n cap) n 3 (S.flatMap pC) := HR.out.mod HK.out.mod (fun g hg hf => by
        have := HLV.out g hg
        rcases hf with hf | hf
        · exact this.1 hf
        · exact this.2 (by simpa [Value.ownBlock] using hf.symm))
      obtain ⟨b, off, cap', x, e, hx, c0, c1, c2⟩ := reads_at hrd hkn
      simp only [Value.slice.injEq] at e
      obtain ⟨rfl, -, rfl⟩ := e
      have hsx := HS.out x (List.mem_of_getElem? hx)
      have hnb : (wr.alloc (.cells #[.int .u32 (x.o : Nat), .int .u8 (x.d : Nat), .bool x.t] 71)).heap[wr.heap.size]? = some (.cells #[.int .u32 (x.o : Nat), .int .u8 (x.d : Nat), .bool x.t] 71 (0, 0)) := heap_alloc_new wr _
      have D0 := block_cell (i := 0) (u := .int .u32 (x.o : Nat)) hnb rfl
      have D1 := block_cell (i := 1) (u := .int .u8 (x.d : Nat)) hnb rfl
      have D2 := block_cell (i := 2) (u := .bool x.t) hnb rfl
      have HX := Lib.hid hx
      clear hx hnb hrd
      have HCV := Lib.hid (cv_eq chi m x.o mk hX HMK.out hmk2)
      have hsi : SI w base M (.slice (some ⟨g0, 0, none⟩) 0 c0') K (wr.alloc (.cells #[.int .u32 (x.o : Nat), .int .u8 (x.d : Nat), .bool x.t] 71)) vk (adds [] (moves m sw (fun o => (cvN chi m o).testBit) (S.take k))) := ⟨HK.out.ms.alloc _, HK.out.mod.alloc _, HK.out.own, HK.out.bnd⟩
      have HSIM := Lib.hid (simple_any base M L m K (cvN chi m x.o) sw vk _ x _ hsi.ms (hsi.keep HL.out HLM.out) hsi.bnd hsx hm hK (cvN_lt chi m x.o hX))
      have HSI := Lib.hid hsi
      clear hsi
      unfold pV at HSIM
      go_wp2_with fail
      rw [HCV.out]
      refine HSIM.out.mono ?_
      rintro e w4 ⟨rfl, v4, h4⟩
      have HS4 := Lib.hid (HSI.out.next h4.ms h4.own h4.mod h4.bnd)
      clear h4
      go_wp2_with fail
      go_roundw
      case rel =>
        refine ⟨k + 1, v4, by go_num, by omega, ?_⟩
        rw [take_snoc' S k x HX.out, moves_snoc, adds_append]
        exact HS4
      case measure => simp [intOf] <;> omega
    · obtain rfl : k = n := by omega
      have eS : S.take k = S := List.take_of_length_le (by have := HSL.out; omega)
      rw [eS] at HK
      have hall : adds [] (moves m sw (fun o => (cvN chi m o).testBit) S) = all (moves m sw (fun o => (cvN chi m o).testBit) S) := rfl
      rw [hall] at HK
      obtain ⟨G, hGG⟩ : ∃ G, G = all (moves m sw (fun o => (cvN chi m o).testBit) S) := ⟨_, rfl⟩
      rw [← hGG] at HK
      have HGG := Lib.hid hGG
      clear hGG
      have hbl : Below base w wr := HK.out.mod.toBelow (by have := block_lt HM.out.blk; have := HM.out.ge; omega) (fun i hi hf => by
        rcases hf with hf | hf
        · rw [hf]; exact HM.out.ge
        · exact (HM.out.row.lt i hf).1)
      have HBL := Lib.hid hbl
      obtain ⟨av, cv, rfl⟩ := ownsRow_form HK.out.ms.row
      have cM := block_cell (i := 0) (u := .slice av G.length cv) HK.out.ms.blk rfl
      have hGl := HK.out.bnd.len hK
      have hge : base ≤ wr.heap.size := by have := block_lt HK.out.ms.blk; have := HM.out.ge; omega
      clear hbl eS hall
      by_cases hG : G.length = 0
      · have HC := Lib.hid (sort_none av cv wr)
        rw [hG] at cM
        have HG := Lib.hid hG
        go_wp2_with fail
        refine HC.out.mono ?_
        rintro e w5 ⟨rfl, h5⟩
        go_wp2_with fail
        go_end0
        exact ⟨rfl, ⟨_, G, by rw [← HGG.out], HK.out.ms.below h5⟩, HBL.out.trans (h5.mono hge)⟩
      · obtain ⟨x0, hx0⟩ : ∃ x, G[0]? = some x := ⟨_, List.getElem?_eq_getElem (by omega)⟩
        obtain ⟨g, cap2, e, q1, q2, q3, q4, -⟩ := HK.out.ms.at hx0
        simp only [Value.slice.injEq] at e
        obtain ⟨rfl, -, rfl⟩ := e
        obtain ⟨rest, r1, r2, r3, r4, r5⟩ := own_to_row HK.out.ms.row rfl (by omega)
        have HC := Lib.hid (sort_row g G.length cv G rest wr r1 rfl (by omega))
        have HR5 := Lib.hid r5
        have hMg : M ≠ g := fun e => HK.out.ms.ne (by rw [e]; rfl)
        clear hx0 r1 r5
        go_wp2_with fail
        refine HC.out.mono ?_
        rintro e w5 ⟨rfl, S', hp, hr5, hm5⟩
        have HX5 := Lib.hid (And.intro hp (And.intro hr5 hm5))
        clear hp hr5 hm5
        go_wp2_with fail
        go_end0
        obtain ⟨hp, hr5, hm5⟩ := HX5.out
        have hl5 : S'.length = G.length := hp.length_eq
        refine ⟨rfl, ⟨.slice (some ⟨g, 0, none⟩) G.length cv, S', by rw [← HGG.out]; exact hp, hm5.heap HK.out.ms.blk (fun e => hMg e), ?_, HM.out.ge⟩, HBL.out.trans (hm5.toBelow hge (fun k _ hk => by omega))⟩
        rw [hl5]
        refine row_to_own hr5 hl5 r2 r3 r4 ?_
        have := HR5.out
        rw [List.length_append, flatMap_len pC 3 pC_len] at this ⊢
        rw [hl5]; exact this
theorem newms2_any (w : World) : Calls Tryd.prog 11 #[] w fun e w' => ∃ M g c, e = .returned (.pointer (some ⟨M, 0, none⟩)) ∧ MsAt w' w.heap.size M (.slice (some ⟨g, 0, none⟩) 0 c) [] ∧ Below w.heap.size w w' := by
  have hmk : ∀ w, (Instr.makeSlice 48 (.int .i64 0) (.int .i64 0)).run Tryd.prog w = .ok (.slice (some ⟨w.heap.size, 0, none⟩) 0 0) (w.alloc (.cells #[] 71)) := fun w => by kernel_rfl
  go_enter Tryd.func11, Tryd.ntmps11
  go_wp2
  go_ret
  refine ⟨w.heap.size + 1, w.heap.size, 0, rfl, ⟨by have := heap_alloc_new (w.alloc (.cells #[] 71)) (.cells #[.slice (some ⟨w.heap.size, 0, none⟩) 0 0] 50); simpa using this, ?_, by omega⟩, ((Below.refl _ _).alloc (Nat.le_refl _) _).alloc (by simp) _⟩
  exact (owns_new w 71 3 w.heap.size (Nat.le_refl _)).alloc _
end Go.Proofs.YtnfagjemhbgfkaaDoor.Nfa
