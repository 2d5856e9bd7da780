/- getHash. -/
import Derived.Test.YtnfagjemhbgfkaaDoorJsn0
import Derived.Test.YtnfagjemhbgfkaaDoorNfa0
namespace Go.Proofs.YtnfagjemhbgfkaaDoor.Jsn
open Go.ChangeShapes Go.WideShapes Go.ChangeAt Go.RowKit Go.Trav Go.Nor Go.Proofs.YtnfagjemhbgfkaaDoor.Sha Go.Proofs.YtnfagjemhbgfkaaDoor.Nfa Go.Proofs.YtnfagjemhbgfkaaDoor.Srt
set_option linter.unusedVariables false
set_option linter.unusedSimpArgs false
set_option maxRecDepth 100000
def setText (S : List Plc) : List Int := S.flatMap jtext
def hashOf (K : Nat → Int) (S : List Plc) : List Int := sha K (setText S)
theorem jtext_len (p : Plc) : (jtext p).length ≤ 60 := by
  have := digs_len p.o
  have := digs_len p.d
  unfold jtext
  split <;> simp only [List.length_append, show j1.length = 10 from rfl, show j2.length = 12 from rfl, show j3.length = 20 from rfl, show j4.length = 21 from rfl] <;> omega
theorem setText_len : ∀ S : List Plc, (setText S).length ≤ 60 * S.length
  | [] => Nat.le_refl _
  | p :: S => by
    have := jtext_len p
    have := setText_len S
    rw [setText, List.flatMap_cons, List.length_append, List.length_cons]
    rw [setText] at this
    omega
theorem at_lt {w : World} {a : Addr} {v : Value} (h : w.cell? a = some v) : a.block < w.heap.size := by
  rcases Nat.lt_or_ge a.block w.heap.size with hl | hg
  · exact hl
  · rw [World.cell?, Array.getElem?_eq_none hg] at h
    cases h
theorem setText_snoc (S : List Plc) {i : Nat} {p : Plc} (h : S[i]? = some p) : setText (S.take (i + 1)) = setText (S.take i) ++ jtext p := by
  rw [List.take_add_one, h]
  simp [setText]
set_option maxHeartbeats 4000000 in
theorem gh_any (M mo n : Nat) (lv : Value) (S : List Plc) (K : Nat → Int) (w : World) (hc : w.cell? ⟨M, mo, none⟩ = some lv) (hR : Reads w lv n 3 (S.flatMap pC)) (hS : ∀ p ∈ S, p.o < 100 ∧ p.d < 100) (hn : n ≤ 200) (hK : KAt w K) :
    Calls Tryd.prog 19 #[.pointer (some ⟨M, mo, none⟩)] w fun e w' => e = .returned (.agg ((hashOf K S).map u8V).toArray) ∧ Below w.heap.size w w' := by
  obtain ⟨ao, cap, rfl⟩ := hR.form
  have hl : S.length = n := hR.recs pC pC_len (by decide)
  obtain ⟨i0, hi, hz, hz1, hz2⟩ := info_parts Tryd.info5
  obtain ⟨W1, hW1, hBR, hBl, hsz⟩ := alloc1 w
  have hM : M < w.heap.size := at_lt hc
  have c0 : W1.cell? ⟨M, mo, none⟩ = some (.slice ao n cap) := by rw [hBl.cell (p := ⟨M, mo, none⟩) hM]; exact hc
  have HI := Lib.hid hi
  have HR := Lib.hid hR
  have HS := Lib.hid hS
  have HK := Lib.hid hK
  have HL := Lib.hid hl
  have HBR := Lib.hid hBR
  have HBL := Lib.hid hBl
  have HSZ := Lib.hid hsz
  have HJ0 : Hid (JS (w.heap.size + 1) W1 (W1.alloc (.cells #[] 5)) (.slice (some ⟨W1.heap.size, 0, none⟩) 0 0) []) := Lib.hid ⟨(Below.refl _ _).alloc (by omega) _, owns_new W1 5 1 (w.heap.size + 1) (by omega), by simp; omega⟩
  clear hi hR hS hK hl hBR hBl hsz hc
  go_enter Tryd.func19, Tryd.ntmps19
  go_upto_region 1 with fail
  rw [← hW1]
  clear hW1
  have c1 : (W1.alloc (.cells #[] 5)).cell? ⟨M, mo, none⟩ = some (.slice ao n cap) := by rw [HJ0.out.bel.cell (p := ⟨M, mo, none⟩) (by show M < _; omega)]; exact c0
  go_wp2_with fail
  clear c0 c1
  go_loopw [3, 13] (fun bv iv wr => ∃ i : Nat, iv = .int .i64 i ∧ i ≤ n ∧ (i = 0 → bv = .slice (some ⟨W1.heap.size, 0, none⟩) 0 0) ∧ Hid (JS (w.heap.size + 1) W1 wr bv (setText (S.take i)))) (fun _ iv _ => n - (intOf iv).toNat)
  case atStart => exact ⟨0, rfl, Nat.zero_le _, fun _ => rfl, by simpa [setText] using HJ0⟩
  case round =>
    obtain ⟨i, rfl, hin, h0, HJ⟩ := hrel
    have H0 := Lib.hid h0
    clear h0
    rename World => wr
    by_cases hlt : i < n
    · have hlz : (i : Int) < (n : Int) := by omega
      obtain ⟨b, off, cap', x, e1, hx, hcx⟩ := HR.out.rec pC pC_len (by decide) hlt
      simp only [Value.slice.injEq] at e1
      obtain ⟨rfl, -, rfl⟩ := e1
      have hwr : Below w.heap.size w wr := HBL.out.trans (HJ.out.bel.mono (Nat.le_succ _))
      have hcx' : ∀ j u, (pC x)[j]? = some u → wr.cell? ⟨b, off + i * 3 + j, none⟩ = some u := fun j u hj => by rw [hwr.cell (p := ⟨b, off + i * 3 + j, none⟩) (at_lt (hcx j u hj))]; exact hcx j u hj
      have d0 := hcx' 0 _ rfl
      have d1 := hcx' 1 _ rfl
      have d2 := hcx' 2 _ rfl
      simp only [Nat.add_zero] at d0
      have HX := Lib.hid hx
      have HWR := Lib.hid hwr
      obtain ⟨ho, hd⟩ := HS.out x (List.mem_of_getElem? HX.out)
      have hj := js_any x (wr.alloc (.cells #[.int .u32 x.o, .int .u8 x.d, .bool x.t] 71)) ho hd
      have HJC := Lib.hid hj
      have hlen : (setText (S.take i)).length ≤ 12000 := Nat.le_trans (setText_len _) (by have := List.length_take_le i S; have := HL.out; omega)
      have hjl := jtext_len x
      have HLEN := Lib.hid hlen
      have HJL := Lib.hid hjl
      clear hx hcx hcx' hwr hj hlen hjl ho hd
      go_wp2_with fail
      refine HJC.out.mono ?_
      rintro e w2 ⟨v2, rfl, hO, hB⟩
      have HJ2 := Lib.hid ((HJ.out.below ((Below.refl _ _).alloc (Nat.le_refl _) _)).below hB)
      have HR2 := Lib.hid (owns_reads hO)
      have hq1 : (setText (S.take i)).length + (jtext x).length ≤ maxLen := by have := HLEN.out; have := HJL.out; unfold maxLen; omega
      have hq2 : ((setText (S.take i)).length + (jtext x).length) * 1 ≤ 140737488355328 := by have := HLEN.out; have := HJL.out; omega
      have HQ1 := Lib.hid hq1
      have HQ2 := Lib.hid hq2
      clear hO hB d0 d1 d2 hq1 hq2
      go_wp2_with (refine wpList_append_readsV rfl (.tmp 19) (.tmp 20) 38 rfl (w.heap.size + 1) 5 i0 _ 1 1 Tryd.underlying38 HI.out hz hz1 hz2 rfl (by decide) u3 _ _ rfl HJ2.out.own v2 _ _ rfl HR2.out (u8V_one _) HQ1.out HQ2.out HJ2.out.le ?_; intro v3 w3 h1 h2)
      go_roundw
      case rel => exact ⟨i + 1, by push_cast; rfl, by omega, fun h => by omega, Lib.hid (by rw [setText_snoc S HX.out]; exact HJ2.out.grow (m := jtext x) h1 h2)⟩
      case measure => simp [intOf] <;> omega
    · obtain rfl : i = n := by omega
      have ht : S.take i = S := List.take_of_length_le (by rw [HL.out]; exact Nat.le_refl _)
      rw [ht] at HJ
      have hwr : Below w.heap.size w wr := HBL.out.trans (HJ.out.bel.mono (Nat.le_succ _))
      have hlen : (setText S).length ≤ 65536 := Nat.le_trans (setText_len _) (by have := HL.out; omega)
      obtain ⟨g, cv, hv, hg⟩ : ∃ g cv, u3 = .slice (some ⟨g, 0, none⟩) (setText S).length cv ∧ g < wr.heap.size := by
        obtain ⟨hx, hy⟩ := HJ.out.own
        rcases hy with ⟨h1, h2⟩ | ⟨g, cap', cur, h1, hb, hg, hr⟩
        · exfalso
          cases S with
          | nil =>
            have := H0.out HL.out.symm
            rw [h1] at this
            cases this
          | cons p S' =>
            have h3 : 0 < (jtext p).length := by
              unfold jtext
              simp only [List.length_append, show j1.length = 10 from rfl]
              omega
            rw [setText, List.flatMap_cons, List.length_append] at h2
            omega
        · exact ⟨g, cap', h1, block_lt hg⟩
      subst hv
      have hK2 := HK.out.mod (Mod.of_below (F := fun _ => False) hwr) (fun h => h)
      have HSUM := Lib.hid (sum256_any g 0 _ cv (setText S) K wr (owns_reads HJ.out.own) hg hK2 hlen)
      have HWR := Lib.hid hwr
      have hlw : w.heap.size ≤ wr.heap.size := hwr.size
      have HR0 : Hid (BAt wr w.heap.size 67 (List.replicate 32 0)) := Lib.hid ⟨by rw [HJ.out.bel.block _ (Nat.lt_succ_self _)]; exact HBR.out.blk⟩
      clear hwr hK2 hlen H0
      go_wp2_with fail
      refine HSUM.out.mono ?_
      rintro e w2 ⟨rfl, hB⟩
      have hlw2 : w.heap.size < wr.heap.size := block_lt HR0.out.blk
      have hR2 : BAt w2 w.heap.size 67 (List.replicate 32 0) := ⟨by rw [hB.block _ hlw2]; exact HR0.out.blk⟩
      have hll : (hashOf K S).length = 32 := rfl
      have hs8 : (((hashOf K S).map u8V).toArray).size = 32 := by simpa using hll
      have hi8 : (Tryd.prog.info? 67).map (·.size) = some (((hashOf K S).map u8V).toArray).size := by
        rw [hs8]
        obtain ⟨i1, hi1, -, hy1, -⟩ := info_parts Tryd.info67
        rw [hi1]
        simp [hy1]
      have HI8 := Lib.hid hi8
      have HO8 : Hid (((List.replicate 32 (0 : Int)).map u8V).toArray.size = (((hashOf K S).map u8V).toArray).size) := Lib.hid (by rw [hs8]; simp)
      have H18 : Hid ((((hashOf K S).map u8V).toArray).all (·.oneCell') = true) := Lib.hid (Array.all_eq_true_iff_forall_mem.2 (fun v hv => u8V_one (hashOf K S) v (by simpa using hv)))
      have HR2 := Lib.hid hR2
      have HF := Lib.hid (below_setRow (HWR.out.trans (hB.mono HWR.out.size)) (g := w.heap.size) (Nat.le_refl _) ((hashOf K S).map u8V).toArray)
      clear hR2 hll hs8 hi8 hB
      rw [show sha K (setText S) = hashOf K S from rfl]
      go_wp2_with (refine wpList_store_row rfl 67 (.tmp 2) (.tmp 24) rfl w.heap.size _ rfl rfl 67 _ HR2.out.blk HI8.out HO8.out H18.out ?_)
      refine bodyPost_ret (v := .agg ((hashOf K S).map u8V).toArray) ?_ rfl ⟨rfl, HF.out⟩
      exact results_cell_row rfl _ _ w.heap.size 67 _ (0, 0) _ rfl (setRow_heap _ _ _ _ _ _ HR2.out.blk) Tryd.underlying67 rfl HI8.out
end Go.Proofs.YtnfagjemhbgfkaaDoor.Jsn
