/- The compiler of expressions: c at a repeat. -/
import Derived.Test.YtnpchkohfomagaaDoorRgW11
namespace Go.Proofs.YtnpchkohfomagaaDoor.Rgw
open Go.ChangeShapes Go.WideShapes Go.ChangeAt Go.RowKit Go.Trav Go.Rg Go.Proofs.YtnpchkohfomagaaDoor.Seq Go.Utf Go.Proofs.YtnpchkohfomagaaDoor.Sparse
set_option linter.unusedVariables false
set_option linter.unusedSimpArgs false
set_option maxRecDepth 100000
section
variable {base C gs ge : Nat} {ad : Nat → Addr} {d tb : Nat} {t : Tr} {l : List In} {qv sv : Value} {w : World}
theorem own_row_two {W : World} {B : Nat} {v1 v2 : Value} {n1 : Nat} {x1 : List Value} {W' : World} {o : Obj} (h : W.ownsRow B 54 1 v1 n1 x1) (hg : (W.alloc o).grownBy W' v2.ownBlock) (hne : ∀ k, v1.ownBlock = some k → v2.ownBlock ≠ some k) : W'.ownsRow B 54 1 v1 n1 x1 :=
  ownsRow_mod h (((Mod.refl (fun k => v2.ownBlock = some k) W).alloc o).grown hg fun k hk _ => hk) fun g hg hf => hne g hg hf
theorem csOk_len {L : List Nat → Prop} {n z q : Nat} : ∀ (cs : List (List In)), CsOk L n z q cs → olen cs ≤ cs.length * (z + 1) := by
  intro cs h
  have hc : ∀ c ∈ cs, c.length ≤ z := fun c hc => by
    obtain ⟨i, hi, e⟩ := List.getElem_of_mem hc
    exact (h i c (by rw [List.getElem?_eq_getElem hi, e])).len
  clear h
  induction cs with
  | nil => simp [olen]
  | cons c r ih =>
    rw [olen_cons, List.length_cons, Nat.add_mul, Nat.one_mul]
    have := hc c (by simp)
    have := ih fun x hx => hc x (by simp [hx])
    omega
set_option maxHeartbeats 8000000 in
theorem c_rep (IH : CSpec base C gs ge ad d) (hW : WF (d + 1) t) (hE : Env w base ad) (hM : CI w base C gs ge qv sv l) (hA : AstAt w (d + 1) t tb) (hl : l.length + size (d + 1) t ≤ 40000000000) (hz : t.lazy = false) (ho : t.op = 17) (hx1 : t.mx ≠ -1) :
    Calls Tryd.prog 64 #[.pointer (some ⟨C, 0, none⟩), .pointer (some ⟨tb, 0, none⟩)] w (CPost base C gs ge ad (d + 1) t l w) := by
  have hf : flg t = 0 := by simp [flg, hz]
  obtain ⟨x, hs, hx⟩ := hW.2.2.2.2.2.1 (by omega) (by omega)
  obtain ⟨hm0, hm1, hm2, hm3⟩ := hW.2.2.2.2.2.2.1 ho
  obtain ⟨n, hn⟩ := Int.eq_ofNat_of_zero_le hm0
  obtain ⟨m, hm⟩ := Int.eq_ofNat_of_zero_le (show 0 ≤ t.mx by omega)
  obtain ⟨r, hr⟩ : ∃ r, m = n + r := ⟨m - n, by omega⟩
  have hm1' : 1 ≤ m := by omega
  have hsz : size (d + 1) t = m * (size d x + 1) := by simp [size, ho, Tr.sub, hs, hm]
  have hpl : places (d + 1) t = (m + 1) * places d x := by
    have : (max t.mn t.mx).toNat = m := by rw [hn, hm]; omega
    simp [places, ho, hs, this, Nat.mul_comm]
  have hbs := bad_sub (d := d) (by omega) (by omega) hz hs
  have hla : ∀ s, lang (d + 1) t s ↔ ∃ b c, s = b ++ c ∧ Pow (lang d x) n b ∧ Opt (lang d x) r c := fun s => by
    have e1 : t.mx.toNat - n = r := by rw [hm]; omega
    simp [lang, ho, Tr.sub, hs, hx1, hn, e1]
  obtain ⟨sv0, rv, cp, nm, bs, r0, r1, hblk, hrr, hS⟩ := hA.all
  obtain ⟨sb, so, cap, b, rfl, rfl⟩ := hS.one hs
  rw [hs] at hS
  rw [ho, hf, hm, hn] at hblk
  have hn1000 : n ≤ 1000 := by omega
  have hmn1000 : m ≤ 1000 := by omega
  have hblkall : ∀ W, Mod (TF cA base w) w W → W.heap[tb]? = some (.cells #[.int .u8 ((17 : Nat) : Int), .int .u16 0, .slice (some ⟨sb, so, none⟩) 1 cap, .pointer none, rv, .int .i32 r0, .int .i32 r1, .int .i64 (n : Int), .int .i64 (m : Int), cp, nm] 77 (0, 0)) := fun W m => m.heap hblk (TF.not (T := 77) ⟨_, _, hblk⟩ (by decide))
  have c0 : w.cell? ⟨tb, 0, none⟩ = some (.int .u8 17) := block_cell hblk rfl
  have c1 : w.cell? ⟨tb, 1, none⟩ = some (.int .u16 0) := block_cell hblk rfl
  have c7 : w.cell? ⟨tb, 8, none⟩ = some (.int .i64 (m : Int)) := block_cell hblk rfl
  have hne1 : ((m : Int) == -1) = false := beq_eq_false_iff_ne.2 (by omega)
  have HB := Lib.hid (And.intro hs (And.intro hx (And.intro hsz (And.intro hpl (And.intro hbs (And.intro hla (And.intro hl (And.intro hz (And.intro hr hm1')))))))))
  have HBL := Lib.hid hblkall
  have HE := Lib.hid hE
  have HM := Lib.hid hM
  have HS := Lib.hid hS
  have HI := Lib.hid IH
  clear IH hW hE hM hA hz ho hf hs hx hsz hpl hbs hla hS hblk hblkall hrr hm0 hm1 hm2 hm3 hn hx1 hm hr hm1'
  go_enter Tryd.func64, Tryd.ntmps64
  go_wp2_with fail
  go_loopw [4, 44, 45] (fun ev ix _ wr => ∃ (k : Nat) (c : List In) (q1 s1 : Value), ev = .nilIface ∧ ix = .int .i64 (k : Int) ∧ k ≤ n ∧ Hid (CI wr base C gs ge q1 s1 (l ++ c)) ∧ Hid (Ok (Pow (lang d x) k) (k * places d x) (k * size d x) l.length c) ∧ Hid (0 < k → bad d x = none) ∧ Hid (Mod (TF cA base w) w wr)) (fun _ ix _ _ => n - (intOf ix).toNat)
  case atStart => exact ⟨0, [], qv, sv, rfl, rfl, Nat.zero_le _, Lib.hid (by simpa using HM.out), Lib.hid (((Ok.empty l.length).congr fun s => Iff.rfl).more (Nat.zero_le _) (Nat.zero_le _)), Lib.hid (fun h => absurd h (Nat.lt_irrefl 0)), Lib.hid (Mod.refl _ _)⟩
  case round =>
    obtain ⟨k, c, q1, s1, rfl, rfl, hk, HC, HO, HN, HW⟩ := hrel
    have hbk := HBL.out wr HW.out
    have d7 : wr.cell? ⟨tb, 7, none⟩ = some (.int .i64 (n : Int)) := block_cell hbk rfl
    by_cases hlt : k < n
    · obtain ⟨d2, d3, hast⟩ := (HS.out.mod HW.out).cell
      have hol := HO.out.len
      have hsz := HB.out.2.2.1
      have hmul : (k + 1) * size d x ≤ m * (size d x + 1) := Nat.mul_le_mul (by have := HB.out.2.2.2.2.2.2.2.2.1; omega) (by omega)
      rw [Nat.add_mul, Nat.one_mul] at hmul
      have hcall := HI.out x b (l ++ c) q1 s1 wr HB.out.2.1 (HE.out.mod HW.out) HC.out hast (by rw [List.length_append]; omega)
      have HCC := Lib.hid hcall
      have HS1 := Lib.hid (And.intro hmul hol)
      clear hast hol hsz hcall hmul hbk
      go_wp2_with fail
      refine HCC.out.mono ?_
      rintro e w2 ⟨⟨rfl, hbad, q2, s2, c', hC2, hok2⟩ | ⟨kk, rfl, hkk⟩, hm2⟩
      · have HX := Lib.hid (And.intro hbad (And.intro hC2 (And.intro hok2 hm2)))
        clear hbad hC2 hok2 hm2 HCC
        go_wp2_with fail
        go_roundw
        case rel =>
          obtain ⟨hbad, hC2, hok2, hm2⟩ := HX.out
          rw [List.length_append] at hok2
          exact ⟨k + 1, c ++ c', q2, s2, rfl, by go_num, by omega, Lib.hid (by rw [← List.append_assoc]; exact hC2), Lib.hid (HO.out.pow hok2), Lib.hid (fun _ => hbad), Lib.hid (TF.trans HW.out hm2)⟩
        case measure => simp [intOf]; omega
      · have HF := Lib.hid (show CPost base C gs ge ad (d + 1) t l w (.returned (.iface 211 (.pointer (some (ad kk))))) w2 from .fail (by
          obtain ⟨hs, hx, hsz, hpl, hbs, hla, hl, hz, hr, hm1'⟩ := HB.out
          obtain ⟨hmul, hol⟩ := HS1.out
          rw [hbs, hsz]
          rcases hkk with h | ⟨h1, h2⟩
          · exact Or.inl h
          · exact Or.inr ⟨h1, by rw [List.length_append] at h2; omega⟩) (TF.trans HW.out hm2))
        clear hkk hm2
        go_wp2_with fail
        go_ret
        exact HF.out
    · obtain rfl : k = n := by omega
      have d8 : wr.cell? ⟨tb, 8, none⟩ = some (.int .i64 (m : Int)) := block_cell hbk rfl
      have hr := HB.out.2.2.2.2.2.2.2.2.1
      have hmk := fun W => make_uints r (by omega) W
      have hw1 : (m : Int) - (k : Int) = (r : Int) := by omega
      have hw2 : IntKind.i64.wrap (r : Int) = (r : Int) := IntWalk.i64_in _ (by omega)
      have hr1000 : r ≤ 1000 := by omega
      have HBK := Lib.hid hbk
      obtain ⟨q0, hq0⟩ : ∃ q0, (l ++ c).length = q0 := ⟨_, rfl⟩
      have HQ := Lib.hid hq0
      have hkn := HO.out.len
      have hsz := HB.out.2.2.1
      have hmul : m * (size d x + 1) = k * (size d x + 1) + r * (size d x + 1) := by rw [hr, Nat.add_mul]
      have hmul2 : k * (size d x + 1) = k * size d x + k := by rw [Nat.mul_add, Nat.mul_one]
      have HZ : Hid (q0 + r * (size d x + 1) ≤ 40000000000) := Lib.hid (by rw [← hq0, List.length_append]; omega)
      clear hbk hr hq0 hkn hsz hmul hmul2
      go_wp2_with fail
      go_still_tail 9, (by kernel_rfl)
      change wpList _ _ _ _ _ wr.drew
      go_wp2_with fail
      obtain ⟨wA, hwA⟩ : ∃ W, W = (wr.alloc (.cells (madeCells #[.int .u64 0] r) 54)).drew := ⟨_, rfl⟩
      rw [← hwA]
      have hrA : wA.ownsRow wr.heap.size 54 1 (.slice (some ⟨wr.heap.size, 0, none⟩) 0 r) 0 [] := by
        refine ⟨by simp, Or.inr ⟨wr.heap.size, r, madeCells #[.int .u64 0] r, rfl, Nat.le_refl _, ?_, Nat.zero_le _, by unfold maxLen; omega, by simp [size_madeCells], by simp⟩⟩
        rw [hwA]; exact heap_alloc_at wr _ _ rfl
      have hsA : wA.heap.size = wr.heap.size + 1 := by rw [hwA]; show (wr.alloc _).heap.size = _; simp
      have hmA : Below wr.heap.size wr wA := by rw [hwA]; exact ((Below.refl _ _).alloc (Nat.le_refl _) _).drew
      have g7 : wA.cell? ⟨tb, 7, none⟩ = some (.int .i64 (k : Int)) := by rw [hwA]; exact block_cell (block_alloc HBK.out) rfl
      have g8 : wA.cell? ⟨tb, 8, none⟩ = some (.int .i64 (m : Int)) := by rw [hwA]; exact block_cell (block_alloc HBK.out) rfl
      have hbA : ∃ cc fr, wA.heap[tb]? = some (.cells cc 77 fr) ∧ cc[7]? = some (.int .i64 (k : Int)) := ⟨_, _, by rw [hwA]; exact block_alloc HBK.out, rfl⟩
      have gA7 : ∀ o, (wA.alloc o).cell? ⟨tb, 7, none⟩ = some (.int .i64 (k : Int)) := fun o => by obtain ⟨cc, fr, h1, h2⟩ := hbA; exact block_cell (block_alloc h1) h2
      have HA1 := Lib.hid (And.intro hrA (And.intro hsA hmA))
      clear hwA hrA hsA hmA hbA
      go_still_tail 9, (by kernel_rfl)
      change wpList _ _ _ _ _ wA.drew
      go_wp2_with fail
      obtain ⟨w5, hw5⟩ : ∃ W, W = (wA.alloc (.cells (madeCells #[.int .u64 0] r) 54)).drew := ⟨_, rfl⟩
      rw [← hw5]
      obtain ⟨hrA, hsA, hmA⟩ := HA1.out
      have hr1 : w5.ownsRow wr.heap.size 54 1 (.slice (some ⟨wr.heap.size, 0, none⟩) 0 r) 0 [] := by rw [hw5]; exact hrA.alloc _
      have hr2 : w5.ownsRow wr.heap.size 54 1 (.slice (some ⟨wA.heap.size, 0, none⟩) 0 r) 0 [] := by
        refine ⟨by simp, Or.inr ⟨wA.heap.size, r, madeCells #[.int .u64 0] r, rfl, by omega, ?_, Nat.zero_le _, by unfold maxLen; omega, by simp [size_madeCells], by simp⟩⟩
        rw [hw5]; exact heap_alloc_at wA _ _ rfl
      have hb5 : Below wr.heap.size wr w5 := by rw [hw5]; exact (hmA.alloc (by omega) _).drew
      have hap : ∀ z, (Value.slice (some ⟨wr.heap.size, 0, none⟩) 0 r).ownBlock = some z → (Value.slice (some ⟨wA.heap.size, 0, none⟩) 0 r).ownBlock ≠ some z := fun z h1 h2 => by
        simp [Value.ownBlock] at h1 h2; omega
      have HC5 := Lib.hid (HC.out.below hb5)
      have HM5 := Lib.hid (show Mod (TF cA base w) w w5 from TF.trans HW.out (Mod.of_below hb5))
      have HR1 := Lib.hid hr1
      have HR2 := Lib.hid hr2
      have HAP := Lib.hid hap
      have HSZ := Lib.hid hb5.size
      clear hw5 hrA hsA hmA hr1 hr2 hb5 hap gA7 g7 g8
      go_loopw [4, 46, 47, 48, 49] (fun ev jv tv ix _ w6 => ∃ (j i : Nat) (cs : List (List In)) (q2 s2 : Value), ev = .nilIface ∧ ix = .int .i64 (i : Int) ∧ Hid (i = k + j) ∧ j ≤ r ∧ Hid (cs.length = j) ∧ Hid (CI w6 base C gs ge q2 s2 (l ++ c ++ opts (fun _ => In.spl 0 0) q0 cs)) ∧ Hid (CsOk (lang d x) (places d x) (size d x) q0 cs) ∧ Hid (w6.ownsRow wr.heap.size 54 1 jv j ((spos q0 cs).map uV)) ∧ Hid (w6.ownsRow wr.heap.size 54 1 tv j (((spos q0 cs).map (· + 1)).map uV)) ∧ Hid (∀ z, jv.ownBlock = some z → tv.ownBlock ≠ some z) ∧ Hid (0 < k + j → bad d x = none) ∧ Hid (wr.heap.size ≤ w6.heap.size) ∧ Hid (Mod (TF cA base w) w w6)) (fun _ _ _ ix _ _ => m - (intOf ix).toNat)
      case atStart => exact ⟨0, k, [], q1, s1, rfl, rfl, Lib.hid rfl, Nat.zero_le _, Lib.hid rfl, Lib.hid (by simpa [opts] using HC5.out), Lib.hid (csOk_nil _ _ _ _), Lib.hid (by simpa [spos] using HR1.out), Lib.hid (by simpa [spos] using HR2.out), HAP, HN, HSZ, HM5⟩
      case round =>
        clear HC5 HM5 HR1 HR2 HAP
        rename World => w6
        obtain ⟨j, i, cs, q2, s2, rfl, rfl, HIJ, hj, HCL, HC6, HCS, HR1, HR2, HAP, HN6, HSZ6, HW6⟩ := hrel
        have hbk6 := HBL.out w6 HW6.out
        have g8 : w6.cell? ⟨tb, 8, none⟩ = some (.int .i64 (m : Int)) := block_cell hbk6 rfl
        have hij := HIJ.out
        have hrr := HB.out.2.2.2.2.2.2.2.2.1
        by_cases hlt2 : j < r
        · have him : i < m := by omega
          have hi1000 : i ≤ 1000 := by omega
          have holen := csOk_len cs HCS.out
          rw [HCL.out] at holen
          have hmul : (j + 1) * (size d x + 1) ≤ r * (size d x + 1) := Nat.mul_le_mul_right _ (by omega)
          rw [Nat.add_mul, Nat.one_mul] at hmul
          have hz := HZ.out
          obtain ⟨p0, hp0⟩ : ∃ p0, (l ++ c ++ opts (fun _ => In.spl 0 0) q0 cs).length = p0 := ⟨_, rfl⟩
          obtain ⟨p1, hp1⟩ : ∃ p1, p1 = p0 + 1 := ⟨_, rfl⟩
          have e0 : p0 = q0 + olen cs := by rw [← hp0, List.length_append, opts_len, HQ.out]
          have e1 : (l ++ c ++ opts (fun _ => In.spl 0 0) q0 cs ++ [In.spl 0 0]).length = p1 := by rw [List.length_append, hp0, hp1]; rfl
          have hb1 : p1 + size d x ≤ 40000000000 := by omega
          have hwp : IntKind.u64.wrap (p1 : Int) = (p1 : Int) := IntWalk.u64_in _ (by omega)
          have HPS := Lib.hid (And.intro hp0 (And.intro hp1 (And.intro e0 (And.intro e1 hb1))))
          clear holen hmul hz hp0 hp1 e0 e1 hbk6 hrr hij
          go_wp2_with fail
          refine (split_at HC6.out HPS.out.1 (by have := HPS.out.1; have := HPS.out.2.1; omega)).mono ?_
          rintro e w7 ⟨rfl, hC7, hm7⟩
          have hR17 := own_tf HR1.out hm7 (by decide)
          have hR27 := own_tf HR2.out hm7 (by decide)
          have hb7 : wr.heap.size ≤ w7.heap.size := Nat.le_trans HSZ6.out hm7.size
          have hbw : w.heap.size ≤ wr.heap.size := HW.out.size
          have HR17 := Lib.hid hR17
          have HR27 := Lib.hid hR27
          have HC7 := Lib.hid hC7
          have HM7 := Lib.hid (TF.trans HW6.out (TF.mono hm7 cE_cA))
          clear hC7 hm7 hR17 hR27 HC6 HR1 HR2
          go_wp2_with (first
            | (at_builtin; (refine wpList_append_one rfl (.tmp 499) (.tmp 502) 116 rfl wr.heap.size 54 _ 1 8 Tryd.underlying116 Tryd.infoUint rfl (by decide) (by decide) _ _ _ rfl HR17.out #[.int .u64 (p0 : Int)] _ _ rfl (by simp) rfl (by simp [Value.oneCell']) (by omega) hb7 ?_; intro ao5 cap5 w8 hown hgr hat; have hC8 := HC7.out.own HR17.out hgr; have hm8 : Mod (TF cA base w) w w8 := HM7.out.step ((((Mod.refl (fun z => u46.ownBlock = some z) w7).alloc _).grown hgr fun z hz _ => hz)) (fun z hz e => by have := (HR17.out.lt z e).1; omega); have hR28 := own_row_two HR27.out hgr (fun z h1 h2 => HAP.out z h2 h1); have hap8 : ∀ z, (Value.slice ao5 (j + 1) cap5).ownBlock = some z → u47.ownBlock ≠ some z := (fun z h1 h2 => by
                rcases hat with h | h
                · rw [h] at h1; exact HAP.out z h1 h2
                · rw [h] at h1; have := (HR27.out.lt z h2).2; simp at h1; omega); have hb8 : wr.heap.size ≤ w8.heap.size := (by have := hgr.size; simp at this; omega); obtain ⟨ap, cp1, k4⟩ := hC8.c1; rw [HPS.out.2.2.2.1] at k4; have HC8 := Lib.hid hC8; have HM8 := Lib.hid hm8; have HJ8 := Lib.hid hown; have HT8 := Lib.hid hR28; have HAP8 := Lib.hid hap8; clear hC8 hm8 hown hgr hat hR28 hap8))
            | (at_builtin; (refine wpList_append_one rfl (.tmp 504) (.tmp 511) 116 rfl wr.heap.size 54 _ 1 8 Tryd.underlying116 Tryd.infoUint rfl (by decide) (by decide) _ _ _ rfl HT8.out #[.int .u64 (p1 : Int)] _ _ rfl (by simp) rfl (by simp [Value.oneCell']) (by omega) hb8 ?_; intro ao6 cap6 w9 hown hgr hat; have hC9 := HC8.out.own HT8.out hgr; have hm9 : Mod (TF cA base w) w w9 := HM8.out.step ((((Mod.refl (fun z => u47.ownBlock = some z) w8).alloc _).grown hgr fun z hz _ => hz)) (fun z hz e => by have := (HT8.out.lt z e).1; omega); have hJ9 := own_row_two HJ8.out hgr (fun z h1 h2 => HAP8.out z h1 h2); have hap9 : ∀ z, (Value.slice ao5 (j + 1) cap5).ownBlock = some z → (Value.slice ao6 (j + 1) cap6).ownBlock ≠ some z := (fun z h1 h2 => by
                rcases hat with h | h
                · rw [h] at h2; exact HAP8.out z h1 h2
                · rw [h] at h2; have := (HJ8.out.lt z h1).2; simp at h2; omega); have hb9 : wr.heap.size ≤ w9.heap.size := (by have := hgr.size; simp at this; omega); obtain ⟨d2, d3, hast⟩ := (HS.out.mod hm9).cell; have HC9 := Lib.hid hC9; have HM9 := Lib.hid hm9; have HJ9 := Lib.hid hJ9; have HT9 := Lib.hid hown; have HAP9 := Lib.hid hap9; have HAST := Lib.hid hast; clear hC9 hm9 hown hgr hat hJ9 hap9 hast)))
          refine (HI.out x b _ q2 s2 w9 HB.out.2.1 (HE.out.mod HM9.out) HC9.out HAST.out (by rw [HPS.out.2.2.2.1]; exact HPS.out.2.2.2.2)).mono ?_
          rintro e w10 ⟨⟨rfl, hbad, q3, s3, c', hC10, hok10⟩ | ⟨kk, rfl, hkk⟩, hm10⟩
          · have HX := Lib.hid (And.intro hbad (And.intro hC10 (And.intro hok10 hm10)))
            have HJ10 := Lib.hid (own_tf HJ9.out hm10 (by decide))
            have HT10 := Lib.hid (own_tf HT9.out hm10 (by decide))
            have HB10 := Lib.hid (Nat.le_trans hb9 hm10.size)
            have HM10 := Lib.hid (TF.trans HM9.out hm10)
            clear hbad hC10 hok10 hm10
            go_wp2_with fail
            go_roundw
            case rel =>
              obtain ⟨hbad, hC10, hok10, hm10⟩ := HX.out
              obtain ⟨hp0, hp1, e0, e1, hb1⟩ := HPS.out
              have hij := HIJ.out
              refine ⟨j + 1, i + 1, cs ++ [c'], q3, s3, rfl, by go_num, Lib.hid (by omega), by omega, Lib.hid (by rw [List.length_append, HCL.out]; rfl), Lib.hid ?_, Lib.hid ?_, Lib.hid ?_, Lib.hid ?_, HAP9, Lib.hid (fun _ => hbad), HB10, HM10⟩
              · rw [opts_snoc]
                have h9 := hC10
                rw [List.append_assoc, List.append_assoc, List.singleton_append, List.append_assoc] at h9
                rw [← List.append_assoc] at h9
                simpa using h9
              · refine HCS.out.snoc ?_
                rw [← e0, ← hp1, ← e1]
                exact hok10
              · rw [spos_snoc, List.map_append]
                have h9 := HJ10.out
                rw [e0] at h9
                exact h9
              · rw [spos_snoc, List.map_append, List.map_append]
                have h9 := HT10.out
                rw [hp1, e0] at h9
                exact h9
            case measure => simp [intOf]; omega
          · have HF := Lib.hid (show CPost base C gs ge ad (d + 1) t l w (.returned (.iface 211 (.pointer (some (ad kk))))) w10 from .fail (by
              obtain ⟨hs, hx, hsz, hpl, hbs, hla, hl, hz, hr, hm1'⟩ := HB.out
              obtain ⟨hp0, hp1, e0, e1, hb1⟩ := HPS.out
              rw [hbs, hsz]
              rcases hkk with h | ⟨h1, h2⟩
              · exact Or.inl h
              · refine Or.inr ⟨h1, ?_⟩
                rw [e1] at h2
                have holen := csOk_len cs HCS.out
                rw [HCL.out] at holen
                have hmul : (j + 1) * (size d x + 1) ≤ r * (size d x + 1) := Nat.mul_le_mul_right _ (by omega)
                rw [Nat.add_mul, Nat.one_mul] at hmul
                have hq := HQ.out
                rw [List.length_append] at hq
                have hcl := HO.out.len
                have hmul2 : m * (size d x + 1) = k * (size d x + 1) + r * (size d x + 1) := by rw [hr, Nat.add_mul]
                have hmul3 : k * (size d x + 1) = k * size d x + k := by rw [Nat.mul_add, Nat.mul_one]
                omega) (TF.trans HM9.out hm10))
            clear hkk hm10
            go_wp2_with fail
            go_ret
            exact HF.out
        · obtain rfl : j = r := by omega
          have him : i = m := by omega
          subst him
          clear hij HIJ hrr hbk6
          obtain ⟨p2, hp2⟩ : ∃ p2, p2 = q0 + olen cs := ⟨_, rfl⟩
          have e2 : (l ++ c ++ opts (fun _ => In.spl 0 0) q0 cs).length = p2 := by rw [List.length_append, opts_len, HQ.out, hp2]
          obtain ⟨ap, cp1, k4⟩ := HC6.out.c1
          rw [e2] at k4
          have holen := csOk_len cs HCS.out
          rw [HCL.out] at holen
          have hz := HZ.out
          have hwp : IntKind.u64.wrap (p2 : Int) = (p2 : Int) := IntWalk.u64_in _ (by omega)
          have hC9 : CI w6 base C gs ge q2 s2 (ohalf (l ++ c) p2 0 cs) := by rw [ohalf_zero, HQ.out]; exact HC6.out
          have HC9 := Lib.hid hC9
          have HPT := Lib.hid (And.intro hp2 e2)
          obtain ⟨ja, jc, hju⟩ := ownsRow_form HR1.out
          obtain ⟨ta, tc, htu⟩ := ownsRow_form HR2.out
          subst hju htu
          clear hp2 e2 holen hz hC9 HC6
          go_wp2_with fail
          go_loopw [51] (fun ix w11 => ∃ jj : Nat, ix = .int .i64 (jj : Int) ∧ jj ≤ j ∧ Hid (CI w11 base C gs ge q2 s2 (ohalf (l ++ c) p2 jj cs)) ∧ Hid (Mod (TF cE base w6) w6 w11)) (fun ix _ => j - (intOf ix).toNat)
          case atStart => exact ⟨0, rfl, Nat.zero_le _, HC9, Lib.hid (Mod.refl _ _)⟩
          case round =>
            clear HC9 k4
            rename World => w11
            obtain ⟨jj, rfl, hjj, HC, HW11⟩ := hrel
            by_cases hlt3 : jj < j
            · obtain ⟨c', hc'⟩ : ∃ c', cs[jj]? = some c' := ⟨_, List.getElem?_eq_getElem (by have := HCL.out; omega)⟩
              have hsp := spos_at cs q0 jj c' hc'
              obtain ⟨A, B, hA, hh1, hh2⟩ := ohalf_split (l ++ c) p2 jj cs c' hc'
              have hbd : Below w11.heap.size w11 w11.drew := (Below.refl _ _).drew
              have hrr1 := own_tf HR1.out HW11.out (by decide)
              have hrr2 := own_tf HR2.out HW11.out (by decide)
              obtain ⟨jb, joff, jcap, z, ejo, hz, hcz⟩ := Reads.one uV (reads_of_owns hrr1) hlt3
              cases ejo
              rw [hsp] at hz
              obtain rfl := Option.some.inj hz
              obtain ⟨tb', toff, tcap, z, eto, hz2, hcz2⟩ := Reads.one uV (reads_of_owns hrr2) hlt3
              cases eto
              rw [List.getElem?_map, hsp] at hz2
              simp only [Option.map_some, Option.some.injEq] at hz2
              subst hz2
              obtain ⟨pj, hpj⟩ : ∃ pj, pj = q0 + olen (cs.take jj) := ⟨_, rfl⟩
              obtain ⟨pk, hpk⟩ : ∃ pk, pk = pj + 1 := ⟨_, rfl⟩
              rw [← hpj] at hcz
              have hz2' : uV ((fun x => x + 1) (q0 + olen (cs.take jj))) = .int .u64 (pk : Int) := by rw [hpk, hpj]; rfl
              have hcz' : w11.cell? ⟨jb, joff + jj, none⟩ = some (.int .u64 (pj : Int)) := hcz
              have hcz2' : w11.cell? ⟨tb', toff + jj, none⟩ = some (.int .u64 (pk : Int)) := by rw [← hz2']; exact hcz2
              have hset := setS_ci base C gs ge pj pk p2 _ _ _ (In.spl 0 0) w11.drew (HC.out.below hbd) (by rw [hh1]; exact get_mid _ _ _ _ (by rw [hA, HQ.out, hpj]))
              have HST := Lib.hid hset
              have HHH := Lib.hid (And.intro hh1 (And.intro hh2 (And.intro hA (And.intro hpj hpk))))
              have hjlt : (jj : Int) < (j : Int) := by omega
              have hj0 : (0 : Int) ≤ (jj : Int) := by omega
              have hjj1000 : jj ≤ 1000 := by omega
              clear hc' hsp hA hh1 hh2 hrr1 hrr2 hz hpj hpk hcz hcz2 hset hz2'
              go_wp2_with fail
              go_still_tail 10, (by kernel_rfl)
              change wpList _ _ _ _ _ w11.drew
              go_wp2_with fail
              refine HST.out.mono ?_
              rintro e w12 ⟨rfl, hC12, hm12⟩
              have HC12 := Lib.hid hC12
              have HM12 := Lib.hid (TF.trans (TF.trans HW11.out (Mod.of_below hbd)) hm12)
              clear hC12 hm12 HST hbd
              go_wp2_with fail
              go_roundw
              case rel =>
                refine ⟨jj + 1, by go_num, by omega, Lib.hid ?_, HM12⟩
                obtain ⟨hh1, hh2, hA, hpj, hpk⟩ := HHH.out
                have h9 := HC12.out
                have hAl : A.length = pj := by rw [hA, HQ.out, hpj]
                rw [hh1, set_mid _ _ _ _ _ hAl.symm] at h9
                rw [hh2, hAl, ← hpk]
                exact h9
              case measure => simp [intOf]; omega
            · obtain rfl : jj = j := by omega
              have hck : Calls Tryd.prog 81 #[.pointer (some ⟨C, 0, none⟩)] w11 (CPost base C gs ge ad (d + 1) t l w) := by
                obtain ⟨hs, hx, hsz, hpl, hbs, hla, hl, hz, hr, hm1'⟩ := HB.out
                obtain ⟨hp2, e2⟩ := HPT.out
                have h9 := HC.out
                rw [← HCL.out, ohalf_all, List.append_assoc] at h9
                have hmm := TF.trans HW6.out (TF.mono HW11.out cE_cA)
                have hopt := Ok.opts (lang d x) (places d x) (size d x) cs q0 HCS.out
                rw [← hp2, HCL.out, ← HQ.out, List.length_append] at hopt
                have hall := HO.out.cat hopt
                rw [← List.length_append] at hall
                refine check_post (HE.out.mod hmm) ?_ h9 ?_ hmm hl
                · rw [hbs]; exact HN6.out (by omega)
                · refine (hall.congr fun z => (hla z).symm).more ?_ ?_
                  · rw [hpl, hr, show (k + jj + 1) = k + (jj + 1) by omega, Nat.add_mul, Nat.add_mul]; omega
                  · rw [hsz, hr, Nat.add_mul, Nat.mul_add k, Nat.mul_one]; omega
              have HCK := Lib.hid hck
              clear hck
              go_wp2_with fail
              refine HCK.out.mono ?_
              intro e w' hp
              obtain ⟨v, rfl⟩ := hp.ret
              have HPP := Lib.hid hp
              clear hp HCK
              go_wp2_with fail
              go_ret
              exact HPP.out
end
end Go.Proofs.YtnpchkohfomagaaDoor.Rgw
