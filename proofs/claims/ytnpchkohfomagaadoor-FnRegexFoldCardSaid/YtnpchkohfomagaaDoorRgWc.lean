/- The compiler of expressions: c at letters. (and what follows) -/
import Derived.Test.YtnpchkohfomagaaDoorRgWb
import Derived.Test.YtnpchkohfomagaaDoorRgW12
import Derived.Test.YtnpchkohfomagaaDoorRgAut
import Derived.Test.YtnpchkohfomagaaDoorRgZz
/-! The compiler of expressions: c at letters. -/
namespace Go.Proofs.YtnpchkohfomagaaDoor.Rgw
open Go.ChangeShapes Go.WideShapes Go.ChangeAt Go.RowKit Go.Trav Go.Rg Go.Proofs.YtnpchkohfomagaaDoor.Seq Go.Utf Go.Proofs.YtnpchkohfomagaaDoor.Sparse
set_option linter.unusedVariables false
set_option linter.unusedSimpArgs false
set_option maxRecDepth 100000
section
variable {base C gs ge : Nat} {ad : Nat → Addr} {d tb : Nat} {t : Tr} {l : List In} {qv sv : Value} {w : World}
set_option maxHeartbeats 8000000 in
theorem c_lit (hW : WF (d + 1) t) (hE : Env w base ad) (hM : CI w base C gs ge qv sv l) (hA : AstAt w (d + 1) t tb) (hl : l.length + size (d + 1) t ≤ 40000000000) (hz : t.lazy = false) (ho : t.op = 3) :
    Calls Tryd.prog 64 #[.pointer (some ⟨C, 0, none⟩), .pointer (some ⟨tb, 0, none⟩)] w (CPost base C gs ge ad (d + 1) t l w) := by
  obtain ⟨c0, c1⟩ := hA.cells
  have hf : flg t = 0 := by simp [flg, hz]
  rw [hf] at c1
  rw [ho] at c0
  have hlet := hW.2.2.2.1 ho
  obtain ⟨rv, hT, hR⟩ := hA.rune
  obtain ⟨ra, rcap, rfl⟩ := hR.rd.form
  have c4r := hT.cl
  have hsz : size (d + 1) t = (t.runes.map wid).sum := by simp [size, ho]
  have hpl : places (d + 1) t = (t.runes.map wid).sum := by simp [places, ho]
  have hla : ∀ s, lang (d + 1) t s ↔ s = word t.runes := fun s => by simp [lang, ho]
  have hb : bad (d + 1) t = none := by simp [bad, hz, ho]
  obtain ⟨n, hn⟩ : ∃ n, t.runes.length = n := ⟨_, rfl⟩
  rw [hn] at hR c4r
  have hnb : n ≤ 40000000000 := by
    have : ∀ l : List Int, l.length ≤ (l.map wid).sum := by
      intro l
      induction l with
      | nil => simp
      | cons x r ih => have := (wid_le4 x).1; simp; omega
    have := this t.runes
    omega
  have h01 : bits BinOp.and IntKind.u16 0 1 = 0 := by kernel_rfl
  have hbase := hM.base_le
  have hGb := hE.nb
  have HB := Lib.hid (And.intro hlet (And.intro hsz (And.intro hpl (And.intro hla (And.intro hb (And.intro hl hn))))))
  have HE := Lib.hid hE
  have HM0 := Lib.hid hM
  have HT := Lib.hid (hA.cells.2)
  have HTC := Lib.hid (CC.mk c1 (show ∃ T, T ∉ cA ∧ Ty w tb T from hT.off))
  have HR := Lib.hid hR
  clear hW hE hM hA hz ho hf hlet hsz hpl hla hb hT hR hn HT
  go_enter Tryd.func64, Tryd.ntmps64
  go_wp2_with fail
  go_loopw [4, 6, 7, 8, 10, 82] (fun ev _ _ _ _ ix wr => ∃ (k : Nat) (c : List In) (q1 s1 : Value), ev = .nilIface ∧ ix = .int .i64 (k : Int) ∧ k ≤ n ∧ Hid (CI wr base C gs ge q1 s1 (l ++ c)) ∧ Hid (Ok (fun s => s = word (t.runes.take k)) (((t.runes.take k).map wid).sum) (((t.runes.take k).map wid).sum) l.length c) ∧ Hid (Mod (TF cA base w) w wr)) (fun _ _ _ _ _ ix _ => n - (intOf ix).toNat)
  case atStart => exact ⟨0, [], qv, sv, rfl, rfl, Nat.zero_le _, Lib.hid (by simpa using HM0.out), Lib.hid ((Ok.empty l.length).congr fun s => by simp [word]), Lib.hid (Mod.refl _ _)⟩
  case round =>
    obtain ⟨k, c, q1, s1, rfl, rfl, hk, HC, HO, HW⟩ := hrel
    by_cases hlt : k < n
    · obtain ⟨x, hx⟩ : ∃ x, t.runes[k]? = some x := ⟨_, List.getElem?_eq_getElem (by have := HB.out.2.2.2.2.2.2; omega)⟩
      have hxl := HB.out.1 x (List.mem_of_getElem? hx)
      have hR2 := HR.out.mod HW.out
      obtain ⟨rb, ro, rcap', y, eR, hy, hcx⟩ := Reads.one rV hR2.rd (k := k) (by have := HB.out.2.2.2.2.2.2; omega)
      rw [hx] at hy; cases hy
      cases eR
      have hcx' : wr.cell? ⟨rb, ro + k, none⟩ = some (.int .i32 x) := hcx
      have c1r := (HTC.out.mod HW.out).cl
      have hol := HO.out.len
      have hsl := sum_take_get (f := wid) _ _ _ hx
      have hb9 := HB.out.2.1
      have hl9 := HB.out.2.2.2.2.2.1
      have hlc : (l ++ c).length + 8 ≤ 40000000100 := by rw [List.length_append]; have := (wid_le4 x).1; omega
      have hbw0 : Below wr.heap.size wr wr.drew := (Below.refl _ _).drew
      have hmd : Mod (TF cA base w) w wr.drew := TF.trans HW.out (Mod.of_below hbw0)
      have hGd : Glob wr.drew := (HE.out.mod hmd).gl
      have hMd := HC.out.below hbw0
      obtain ⟨iv, pv, ps, hCM⟩ := hMd
      have hC := hCM.hC
      obtain ⟨qn, qx, hq⟩ := hCM.hq
      obtain ⟨zn, zx, hz⟩ := hCM.hs
      obtain ⟨qa, qc, rfl⟩ := ownsRow_form hq
      obtain ⟨za, zc, rfl⟩ := ownsRow_form hz
      have c3 : wr.cell? ⟨C, 3, none⟩ = some (.slice qa qn qc) := block_cell hC rfl
      have c4 : wr.cell? ⟨C, 4, none⟩ = some (.slice za zn zc) := block_cell hC rfl
      have c5 : wr.cell? ⟨C, 5, none⟩ = some (.slice (some ⟨gs, 0, none⟩) 4 4) := block_cell hC rfl
      have c6 : wr.cell? ⟨C, 6, none⟩ = some (.slice (some ⟨ge, 0, none⟩) 4 4) := block_cell hC rfl
      have hbd : Bd (x, x) := by unfold Let at hxl; unfold Bd; simp only; omega
      have hpre := prealloc_any (TF cQ base wr.drew) x x gs ge za zn zc zx qa qn qc qx wr.drew hGd hbd ⟨fun h => by have := h.1; omega, fun h => by have := h.1; omega⟩ hCM.bs hCM.be hCM.ne
        ⟨⟨hCM.gb.1, _, by decide, ty_buf hCM.bs⟩, ⟨hCM.gb.2, _, by decide, ty_buf hCM.be⟩⟩ hz (fun k hk => ⟨hCM.gz k hk, _, by decide, ty_own hz hk⟩) hq (fun k hk => ⟨hCM.gq k hk, _, by decide, ty_own hq hk⟩)
      have hbase2 : base ≤ wr.drew.heap.size := by have := hCM.gC; have := block_lt hC; omega
      have HM := Lib.hid hCM
      have HP := Lib.hid hpre
      have HCC := Lib.hid hC
      have HMD := Lib.hid (And.intro hmd hbase2)
      have HX := Lib.hid (And.intro hx (And.intro hxl hsl))
      clear hCM hpre hC hq hz hbd hmd hbase2 hbw0 hGd hx hxl hR2 hcx hol hsl hb9 hl9
      go_upto_region 28 with (fail)
      go_cut [4] (fun v6 wc => ∃ (oa ya : Option Addr) (oc sn yc : Nat) (out : List (Int × Int)) (vs : List Value), v6 = .nilIface ∧ Hid (Done x x out ∧ CI wc base C gs ge (.slice oa out.length oc) (.slice ya sn yc) (l ++ c) ∧ wc.ownsRow 0 164 1 (.slice oa out.length oc) out.length vs ∧ (∀ (i : Nat) v q, vs[i]? = some v → out[i]? = some q → SeqAt wr.heap.size wc v q) ∧ Mod (TF cA base w) w wc))
      case first =>
        have hs0 : wr.drew.cell? ⟨C, 3, none⟩ = some (.slice qa qn qc) ∧ wr.drew.cell? ⟨C, 4, none⟩ = some (.slice za zn zc) ∧ wr.drew.cell? ⟨C, 5, none⟩ = some (.slice (some ⟨gs, 0, none⟩) 4 4) ∧ wr.drew.cell? ⟨C, 6, none⟩ = some (.slice (some ⟨ge, 0, none⟩) 4 4) := ⟨c3, c4, c5, c6⟩
        have HS0 := Lib.hid hs0
        clear hs0
        refine wp_region_L (fun w' => w'.cell? ⟨C, 3, none⟩ = some (.slice qa qn qc) ∧ w'.cell? ⟨C, 4, none⟩ = some (.slice za zn zc) ∧ w'.cell? ⟨C, 5, none⟩ = some (.slice (some ⟨gs, 0, none⟩) 4 4) ∧ w'.cell? ⟨C, 6, none⟩ = some (.slice (some ⟨ge, 0, none⟩) 4 4)) 20 (by kernel_rfl) ?_
        refine wpAnyL_take0 (i := 0) (v := ?_) rfl rfl (by kernel_rfl) (by kernel_rfl) (by kernel_rfl) (fun _ _ _ h => h) HS0.out (Or.inl ⟨by rfl, ?_⟩) ?_
        rotate_left
        · (intro w9; go_simp; try with_reducible rfl)
        try simp only [Act.put, List.setIfInBounds_toArray, List.set_cons_zero, List.set_cons_succ]
        refine wpAnyL_take0 (i := 1) (v := ?_) rfl rfl (by kernel_rfl) (by kernel_rfl) (by kernel_rfl) (fun _ _ _ h => h) HS0.out (Or.inl ⟨by rfl, ?_⟩) ?_
        rotate_left
        · (intro w9; go_simp; try with_reducible rfl)
        try simp only [Act.put, List.setIfInBounds_toArray, List.set_cons_zero, List.set_cons_succ]
        refine wpAnyL_take0 (i := 2) (v := ?_) rfl rfl (by kernel_rfl) (by kernel_rfl) (by kernel_rfl) (fun _ _ _ h => h) HS0.out (Or.inl ⟨by rfl, ?_⟩) ?_
        rotate_left
        · (intro w9; go_simp; try with_reducible rfl)
        try simp only [Act.put, List.setIfInBounds_toArray, List.set_cons_zero, List.set_cons_succ]
        refine wpAnyL_take0 (i := 3) (v := ?_) rfl rfl (by kernel_rfl) (by kernel_rfl) (by kernel_rfl) (fun _ _ _ h => h) HS0.out (Or.inl ⟨by rfl, ?_⟩) ?_
        rotate_left
        · (intro w9; go_simp; try with_reducible rfl)
        try simp only [Act.put, List.setIfInBounds_toArray, List.set_cons_zero, List.set_cons_succ]
        refine wpAnyL_take0 (i := 4) (v := ?_) rfl rfl (by kernel_rfl) (by kernel_rfl) (by kernel_rfl) (fun _ _ _ h => h) HS0.out (Or.inl ⟨by rfl, ?_⟩) ?_
        rotate_left
        · (intro w9; go_simp; try with_reducible rfl)
        try simp only [Act.put, List.setIfInBounds_toArray, List.set_cons_zero, List.set_cons_succ]
        refine wpAnyL_take0 (i := 5) (v := ?_) rfl rfl (by kernel_rfl) (by kernel_rfl) (by kernel_rfl) (fun _ _ _ h => h) HS0.out (Or.inl ⟨by rfl, ?_⟩) ?_
        rotate_left
        · (intro w9; go_simp; try with_reducible rfl)
        try simp only [Act.put, List.setIfInBounds_toArray, List.set_cons_zero, List.set_cons_succ]
        refine wpAnyL_take0 (i := 6) (v := ?_) rfl rfl (by kernel_rfl) (by kernel_rfl) (by kernel_rfl) (fun _ _ _ h => h) HS0.out (Or.inl ⟨by rfl, ?_⟩) ?_
        rotate_left
        · (intro w9; go_simp; try with_reducible rfl)
        try simp only [Act.put, List.setIfInBounds_toArray, List.set_cons_zero, List.set_cons_succ]
        refine wpAnyL_take (i := 7) (v := ?_) rfl rfl (by kernel_rfl) rfl (by kernel_rfl) (by kernel_rfl) (by kernel_rfl) (by kernel_rfl) (fun _ _ _ h => h) HS0.out (Or.inl ⟨by rfl, ?_⟩) ?_
        rotate_left
        · (intro w9 hw9; obtain ⟨g3, g4, g5, g6⟩ := hw9; go_simp; try with_reducible rfl)
        try simp only [Act.put, List.setIfInBounds_toArray, List.set_cons_zero, List.set_cons_succ]
        refine wpAnyL_take0 (i := 8) (v := ?_) rfl rfl (by kernel_rfl) (by kernel_rfl) (by kernel_rfl) (fun _ _ _ h => h) HS0.out (Or.inl ⟨by rfl, ?_⟩) ?_
        rotate_left
        · (intro w9; go_simp; try with_reducible rfl)
        try simp only [Act.put, List.setIfInBounds_toArray, List.set_cons_zero, List.set_cons_succ]
        refine wpAnyL_take0 (i := 9) (v := ?_) rfl rfl (by kernel_rfl) (by kernel_rfl) (by kernel_rfl) (fun _ _ _ h => h) HS0.out (Or.inl ⟨by rfl, ?_⟩) ?_
        rotate_left
        · (intro w9; go_simp; try with_reducible rfl)
        try simp only [Act.put, List.setIfInBounds_toArray, List.set_cons_zero, List.set_cons_succ]
        refine wpAnyL_take0 (i := 10) (v := ?_) rfl rfl (by kernel_rfl) (by kernel_rfl) (by kernel_rfl) (fun _ _ _ h => h) HS0.out (Or.inl ⟨by rfl, ?_⟩) ?_
        rotate_left
        · (intro w9; go_simp; try with_reducible rfl)
        try simp only [Act.put, List.setIfInBounds_toArray, List.set_cons_zero, List.set_cons_succ]
        refine wpAnyL_take (i := 11) (v := ?_) rfl rfl (by kernel_rfl) rfl (by kernel_rfl) (by kernel_rfl) (by kernel_rfl) (by kernel_rfl) (fun _ _ _ h => h) HS0.out (Or.inl ⟨by rfl, ?_⟩) ?_
        rotate_left
        · (intro w9 hw9; obtain ⟨g3, g4, g5, g6⟩ := hw9; go_simp; try with_reducible rfl)
        try simp only [Act.put, List.setIfInBounds_toArray, List.set_cons_zero, List.set_cons_succ]
        refine wpAnyL_take0 (i := 12) (v := ?_) rfl rfl (by kernel_rfl) (by kernel_rfl) (by kernel_rfl) (fun _ _ _ h => h) HS0.out (Or.inl ⟨by rfl, ?_⟩) ?_
        rotate_left
        · (intro w9; go_simp; try with_reducible rfl)
        try simp only [Act.put, List.setIfInBounds_toArray, List.set_cons_zero, List.set_cons_succ]
        refine wpAnyL_take0 (i := 13) (v := ?_) rfl rfl (by kernel_rfl) (by kernel_rfl) (by kernel_rfl) (fun _ _ _ h => h) HS0.out (Or.inl ⟨by rfl, ?_⟩) ?_
        rotate_left
        · (intro w9; go_simp; try with_reducible rfl)
        try simp only [Act.put, List.setIfInBounds_toArray, List.set_cons_zero, List.set_cons_succ]
        refine wpAnyL_take0 (i := 14) (v := ?_) rfl rfl (by kernel_rfl) (by kernel_rfl) (by kernel_rfl) (fun _ _ _ h => h) HS0.out (Or.inl ⟨by rfl, ?_⟩) ?_
        rotate_left
        · (intro w9; go_simp; try with_reducible rfl)
        try simp only [Act.put, List.setIfInBounds_toArray, List.set_cons_zero, List.set_cons_succ]
        refine wpAnyL_take (i := 15) (v := ?_) rfl rfl (by kernel_rfl) rfl (by kernel_rfl) (by kernel_rfl) (by kernel_rfl) (by kernel_rfl) (fun _ _ _ h => h) HS0.out (Or.inl ⟨by rfl, ?_⟩) ?_
        rotate_left
        · (intro w9 hw9; obtain ⟨g3, g4, g5, g6⟩ := hw9; go_simp; try with_reducible rfl)
        try simp only [Act.put, List.setIfInBounds_toArray, List.set_cons_zero, List.set_cons_succ]
        refine wpAnyL_take0 (i := 16) (v := ?_) rfl rfl (by kernel_rfl) (by kernel_rfl) (by kernel_rfl) (fun _ _ _ h => h) HS0.out (Or.inl ⟨by rfl, ?_⟩) ?_
        rotate_left
        · (intro w9; go_simp; try with_reducible rfl)
        try simp only [Act.put, List.setIfInBounds_toArray, List.set_cons_zero, List.set_cons_succ]
        refine wpAnyL_take0 (i := 17) (v := ?_) rfl rfl (by kernel_rfl) (by kernel_rfl) (by kernel_rfl) (fun _ _ _ h => h) HS0.out (Or.inl ⟨by rfl, ?_⟩) ?_
        rotate_left
        · (intro w9; go_simp; try with_reducible rfl)
        try simp only [Act.put, List.setIfInBounds_toArray, List.set_cons_zero, List.set_cons_succ]
        refine wpAnyL_take0 (i := 18) (v := ?_) rfl rfl (by kernel_rfl) (by kernel_rfl) (by kernel_rfl) (fun _ _ _ h => h) HS0.out (Or.inl ⟨by rfl, ?_⟩) ?_
        rotate_left
        · (intro w9; go_simp; try with_reducible rfl)
        try simp only [Act.put, List.setIfInBounds_toArray, List.set_cons_zero, List.set_cons_succ]
        refine wpAnyL_take (i := 19) (v := ?_) rfl rfl (by kernel_rfl) rfl (by kernel_rfl) (by kernel_rfl) (by kernel_rfl) (by kernel_rfl) (fun _ _ _ h => h) HS0.out (Or.inl ⟨by rfl, ?_⟩) ?_
        rotate_left
        · (intro w9 hw9; obtain ⟨g3, g4, g5, g6⟩ := hw9; go_simp; try with_reducible rfl)
        try simp only [Act.put, List.setIfInBounds_toArray, List.set_cons_zero, List.set_cons_succ]
        refine wpAnyL_call rfl (by kernel_rfl) (by kernel_rfl) (fun K hK => ?_)
        go_simp
        refine (HP.out).mono ?_; rintro e' w1 ⟨ov, zv, out, vs, rfl, hdone, hrow, hseq, hstk, hoF, hzF, hb0, hb1, hmod⟩; obtain ⟨sn, sl, hstk⟩ := hstk; obtain ⟨oa, oc, rfl⟩ := ownsRow_form hrow; obtain ⟨ya, yc, rfl⟩ := ownsRow_form hstk; have hC1 := hmod.heap HCC.out (TF.not (T := 135) ⟨_, _, HCC.out⟩ (by decide)); have k5 : w1.cell? ⟨C, 5, none⟩ = some (.slice (some ⟨gs, 0, none⟩) 4 4) := block_cell hC1 rfl; have k6 : w1.cell? ⟨C, 6, none⟩ = some (.slice (some ⟨ge, 0, none⟩) 4 4) := block_cell hC1 rfl; have k3 : w1.cell? ⟨C, 3, none⟩ = some (.slice qa qn qc) := block_cell hC1 rfl; have k3f : w1.frozen? ⟨C, 3, none⟩ = false := block_free hC1; have k4 : (w1.setCell ⟨C, 3, none⟩ (.slice oa out.length oc)).cell? ⟨C, 4, none⟩ = some (.slice za zn zc) := block_cell (block_set hC1) rfl; have k4f : (w1.setCell ⟨C, 3, none⟩ (.slice oa out.length oc)).frozen? ⟨C, 4, none⟩ = false := block_free (block_set hC1); have m35 : (w1.setCell ⟨C, 3, none⟩ (.slice oa out.length oc)).cell? ⟨C, 5, none⟩ = some (.slice (some ⟨gs, 0, none⟩) 4 4) := block_cell (block_set hC1) rfl; have m45 : ((w1.setCell ⟨C, 3, none⟩ (.slice oa out.length oc)).setCell ⟨C, 4, none⟩ (.slice ya sn yc)).cell? ⟨C, 5, none⟩ = some (.slice (some ⟨gs, 0, none⟩) 4 4) := block_cell (block_set (block_set hC1)) rfl; have m36 : (w1.setCell ⟨C, 3, none⟩ (.slice oa out.length oc)).cell? ⟨C, 6, none⟩ = some (.slice (some ⟨ge, 0, none⟩) 4 4) := block_cell (block_set hC1) rfl; have m46 : ((w1.setCell ⟨C, 3, none⟩ (.slice oa out.length oc)).setCell ⟨C, 4, none⟩ (.slice ya sn yc)).cell? ⟨C, 6, none⟩ = some (.slice (some ⟨ge, 0, none⟩) 4 4) := block_cell (block_set (block_set hC1)) rfl; have HH := Lib.hid (And.intro hdone (And.intro hrow (And.intro hseq (And.intro hstk (And.intro hoF (And.intro hzF (And.intro hb0 (And.intro hb1 hmod)))))))); clear hdone hrow hseq hstk hoF hzF hb0 hb1 hmod hC1
        go_simp
        refine hK _ _ ?_
        clear hK K
        try simp only [Act.put, List.setIfInBounds_toArray, List.set_cons_zero, List.set_cons_succ]
        refine wpAny_take (i := 21) (v := ?_) rfl (by kernel_rfl) (by kernel_rfl) (by kernel_rfl) (fun _ _ _ h => h) (Or.inl ⟨by rfl, ?_⟩) ?_
        rotate_left
        · (intro w9; go_simp; try with_reducible rfl)
        try simp only [Act.put, List.setIfInBounds_toArray, List.set_cons_zero, List.set_cons_succ]
        refine wpAny_take (i := 22) (v := ?_) rfl (by kernel_rfl) (by kernel_rfl) (by kernel_rfl) (fun _ _ _ h => h) (Or.inl ⟨by rfl, ?_⟩) ?_
        rotate_left
        · (intro w9; go_simp; try with_reducible rfl)
        try simp only [Act.put, List.setIfInBounds_toArray, List.set_cons_zero, List.set_cons_succ]
        refine wpAny_take (i := 23) (v := ?_) rfl (by kernel_rfl) (by kernel_rfl) (by kernel_rfl) (fun _ _ _ h => h) (Or.inl ⟨by rfl, ?_⟩) ?_
        rotate_left
        · (intro w9; go_simp; try with_reducible rfl)
        try simp only [Act.put, List.setIfInBounds_toArray, List.set_cons_zero, List.set_cons_succ]
        refine wpAny_take (i := 24) (v := ?_) rfl (by kernel_rfl) (by kernel_rfl) (by kernel_rfl) (fun _ _ _ h => h) (Or.inl ⟨by rfl, ?_⟩) ?_
        rotate_left
        · (intro w9; go_simp; try with_reducible rfl)
        try simp only [Act.put, List.setIfInBounds_toArray, List.set_cons_zero, List.set_cons_succ]
        refine wpAny_take (i := 25) (v := ?_) rfl (by kernel_rfl) (by kernel_rfl) (by kernel_rfl) (fun _ _ _ h => h) (Or.inl ⟨by rfl, ?_⟩) ?_
        rotate_left
        · (intro w9; go_simp; try with_reducible rfl)
        try simp only [Act.put, List.setIfInBounds_toArray, List.set_cons_zero, List.set_cons_succ]
        refine wpAny_take (i := 26) (v := ?_) rfl (by kernel_rfl) (by kernel_rfl) (by kernel_rfl) (fun _ _ _ h => h) (Or.inl ⟨by rfl, ?_⟩) ?_
        rotate_left
        · (intro w9; go_simp; try with_reducible rfl)
        try simp only [Act.put, List.setIfInBounds_toArray, List.set_cons_zero, List.set_cons_succ]
        refine wpAny_one (i := 27) rfl (by kernel_rfl) (fun K hK => ?_)
        go_simp
        refine hK _ _ ?_
        clear hK K
        try simp only [Act.put, List.setIfInBounds_toArray, List.set_cons_zero, List.set_cons_succ]
        refine wpAny_take (i := 28) (v := ?_) rfl (by kernel_rfl) (by kernel_rfl) (by kernel_rfl) (fun _ _ _ h => h) (Or.inl ⟨by rfl, ?_⟩) ?_
        rotate_left
        · (intro w9; go_simp; try with_reducible rfl)
        try simp only [Act.put, List.setIfInBounds_toArray, List.set_cons_zero, List.set_cons_succ]
        refine wpAny_take (i := 29) (v := ?_) rfl (by kernel_rfl) (by kernel_rfl) (by kernel_rfl) (fun _ _ _ h => h) (Or.inl ⟨by rfl, ?_⟩) ?_
        rotate_left
        · (intro w9; go_simp; try with_reducible rfl)
        try simp only [Act.put, List.setIfInBounds_toArray, List.set_cons_zero, List.set_cons_succ]
        refine wpAny_one (i := 30) rfl (by kernel_rfl) (fun K hK => ?_)
        go_simp
        refine hK _ _ ?_
        clear hK K
        try simp only [Act.put, List.setIfInBounds_toArray, List.set_cons_zero, List.set_cons_succ]
        refine wpAny_one (i := 31) rfl (by kernel_rfl) (fun K hK => ?_)
        go_simp
        refine hK _ _ ?_
        clear hK K
        try simp only [Act.put, List.setIfInBounds_toArray, List.set_cons_zero, List.set_cons_succ]
        refine wpAny_done (by kernel_rfl) ?_ _
        all_goals
          go_wp2_with fail
          go_meet
          obtain ⟨hdone, hrow, hseq, hstk, hoF, hzF, hb0, hb1, hmod⟩ := HH.out
          have hre := HM.out.reseq (ov := .slice oa out.length oc) (zv := .slice ya sn yc) hmod ⟨_, _, hrow⟩ ⟨_, _, hstk⟩ (fun k hk => (hoF k hk).elim (fun h => h.1) (fun h => Nat.le_trans HMD.out.2 h)) (fun k hk => (hzF k hk).elim (fun h => h.1) (fun h => Nat.le_trans HMD.out.2 h)) hb0 hb1
          have m2 : Mod (fun k => k = C) w1 ((w1.setCell ⟨C, 3, none⟩ (.slice oa out.length oc)).setCell ⟨C, 4, none⟩ (.slice ya sn yc)) := ((Mod.refl (fun k => k = C) w1).setCell (p := ⟨C, 3, none⟩) (fun _ => rfl) _).setCell (p := ⟨C, 4, none⟩) (fun _ => rfl) _
          have tC1 : Ty w1 C 135 := ty_mod (T := 135) ⟨_, _, HCC.out⟩ hmod (TF.not (T := 135) ⟨_, _, HCC.out⟩ (by decide))
          have hF2 : ∀ k T, Ty w1 k T → T ≠ 135 → ¬ k = C := fun k T ht hn e => hn (ty_one (e ▸ ht) tC1)
          have hmA : Mod (TF cA base w) w ((w1.setCell ⟨C, 3, none⟩ (.slice oa out.length oc)).setCell ⟨C, 4, none⟩ (.slice ya sn yc)) := TF.trans HMD.out.1 (TF.trans (TF.mono hmod cQ_cA) (m2.mono fun k _ e => by subst e; exact ⟨HM.out.gC, 135, by decide, tC1⟩))
          exact ⟨oa, ya, oc, sn, yc, out, vs, rfl, Lib.hid ⟨hdone, ⟨_, _, _, hre⟩, ownsRow_mod hrow m2 (fun g hg => hF2 g _ (ty_own hrow hg) (by decide)), fun i v q h1 h2 => (hseq i v q h1 h2).mod m2 (fun g e o ho => by subst e; obtain ⟨c, fr, e2⟩ := tC1; rw [e2] at ho; cases ho; exact ⟨_, _, _, rfl, by decide⟩), hmA⟩⟩
      case rest =>
        clear HM HP HCC c3 c4 c5 c6 HMD
        obtain ⟨oa, ya, oc, sn, yc, out, vs, rfl, HRR⟩ := hcut
        rename World => wc
        obtain ⟨hdone, hci, hrow, hseq, hmA⟩ := HRR.out
        have ho1 := done_one HX.out.2.1 hdone
        subst ho1
        obtain ⟨g, cp, e0, hcp1, hcp2, _, hcell⟩ := ownsRow_at hrow (by have := hrow.1; simp at this; omega)
        cases e0
        obtain ⟨v, hv⟩ : ∃ v, vs[0]? = some v := ⟨_, List.getElem?_eq_getElem (by have := hrow.1; simp at this; omega)⟩
        have hsq := hseq 0 v (x, x) hv rfl
        have hcv := (hcell 0 v hv).1
        have hgd : Utf.Good x x := let_good HX.out.2.1
        obtain ⟨gq, hgq, rfl, hblk⟩ := id hsq
        have hgt : Ty wc g 164 := ty_own hrow rfl
        have k3 := hci.c3
        have HCI := Lib.hid hci
        have HSQ := Lib.hid (And.intro hsq (And.intro hgd (And.intro hcv hgt)))
        have HMA := Lib.hid hmA
        clear hdone hci hrow hseq hmA hcell hsq hcv hgd hblk HRR hgt hgq
        simp only [List.length_singleton] at k3 HCI hcp1
        go_wp2_with fail
        go_loopw [10, 160] (fun _ ix w3 => ∃ j : Nat, ix = .int .i64 (j : Int) ∧ j ≤ 1 ∧ Hid (CI w3 base C gs ge (.slice (some ⟨g, 0, none⟩) 1 oc) (.slice ya sn yc) (l ++ c ++ (if j = 0 then [] else seqIns (x, x)))) ∧ Hid (Mod (TF cE base wc) wc w3)) (fun _ ix _ => 1 - (intOf ix).toNat)
        case atStart => exact ⟨0, rfl, by omega, Lib.hid (by simpa using HCI.out), Lib.hid (Mod.refl _ _)⟩
        case round =>
          clear HCI
          rename World => w3
          obtain ⟨j, rfl, hj, HC3, HW3⟩ := hrel
          by_cases hlt2 : j < 1
          · obtain rfl : j = 0 := by omega
            have hcl := HW3.out.cell HSQ.out.2.2.1 (TF.not HSQ.out.2.2.2 (by decide))
            have hc3 : CI w3 base C gs ge (.slice (some ⟨g, 0, none⟩) 1 oc) (.slice ya sn yc) (l ++ c) := by simpa using HC3.out
            have hrg := ranges_ci base C gs ge wr.heap.size _ _ _ (x, x) _ w3 hc3 (seqAt_tf HSQ.out.1 HW3.out (by decide)) HSQ.out.2.1 (by omega)
            have HRG := Lib.hid hrg
            clear hrg hc3
            go_wp2_with fail
            refine HRG.out.mono ?_
            rintro e w4 ⟨rfl, hC4, hm4⟩
            have HC4 := Lib.hid hC4
            have HM4 := Lib.hid (TF.trans HW3.out hm4)
            clear hC4 hm4 HRG
            go_wp2_with fail
            go_roundw
            case rel => exact ⟨1, by go_num, by omega, Lib.hid (by simpa using HC4.out), HM4⟩
            case measure => simp [intOf]
          · obtain rfl : j = 1 := by omega
            go_wp2_with fail
            go_roundw
            case rel =>
              obtain ⟨hx, hxl, hsl⟩ := HX.out
              refine ⟨k + 1, c ++ seqIns (x, x), _, _, rfl, by go_num, by omega, Lib.hid (by rw [← List.append_assoc]; simpa using HC3.out), Lib.hid ?_, Lib.hid (TF.trans HMA.out (TF.mono HW3.out cE_cA))⟩
              rw [take_get hx]
              exact HO.out.word hxl
            case measure => simp [intOf]; omega
    · obtain rfl : k = n := by omega
      have htk : t.runes.take k = t.runes := List.take_of_length_le (by have := HB.out.2.2.2.2.2.2; omega)
      have hck : Calls Tryd.prog 81 #[.pointer (some ⟨C, 0, none⟩)] wr (CPost base C gs ge ad (d + 1) t l w) := by
        obtain ⟨hlet, hsz, hpl, hla, hb, hl, hn⟩ := HB.out
        have h1 := HO.out
        rw [htk] at h1
        refine check_post (c := c) (HE.out.mod HW.out) hb HC.out ?_ HW.out hl
        rw [hsz, hpl]
        exact h1.congr fun z => (hla z).symm
      have HCK := Lib.hid hck
      clear hck htk
      go_wp2_with fail
      refine HCK.out.mono ?_
      intro e w' hp
      obtain ⟨v, rfl⟩ := hp.ret
      have HPP := Lib.hid hp
      clear hp HCK
      go_wp2_with fail
      go_ret
      exact HPP.out
end
end Go.Proofs.YtnpchkohfomagaaDoor.Rgw
/-! The compiler of expressions, whole: c at every expression; newCompiler; compile. -/
namespace Go.Proofs.YtnpchkohfomagaaDoor.Rgw
open Go.ChangeShapes Go.WideShapes Go.ChangeAt Go.RowKit Go.Trav Go.Rg Go.Proofs.YtnpchkohfomagaaDoor.Seq Go.Utf Go.Proofs.YtnpchkohfomagaaDoor.Sparse
set_option linter.unusedVariables false
set_option linter.unusedSimpArgs false
set_option maxRecDepth 100000
theorem c_spec (base C gs ge : Nat) (ad : Nat → Addr) : ∀ d, CSpec base C gs ge ad d := by
  intro d
  induction d with
  | zero => intro t tb l qv sv w hW; exact hW.elim
  | succ d ih =>
    intro t tb l qv sv w hW hE hM hA hl
    cases hz : t.lazy with
    | true => exact c_lazy hE hA hz
    | false =>
      have h2 := hW.2.1
      have h19 := hW.2.2.1
      rcases (show t.op = 2 ∨ t.op = 3 ∨ t.op = 4 ∨ t.op = 5 ∨ t.op = 6 ∨ (7 ≤ t.op ∧ t.op ≤ 10) ∨ (t.op = 11 ∨ t.op = 12) ∨ t.op = 13 ∨ t.op = 14 ∨ t.op = 15 ∨ t.op = 16 ∨ t.op = 17 ∨ t.op = 18 ∨ t.op = 19 by omega) with h | h | h | h | h | h | h | h | h | h | h | h | h | h
      · exact c_empty hM hA hz h
      · exact c_lit hW hE hM hA hl hz h
      · exact c_class hW hE hM hA hl hz h
      · exact c_line hE hM hA hl hz h
      · exact c_all hE hM hA hl hz h
      · exact c_anchor 2 hE hA hz (Or.inl ⟨by omega, rfl⟩)
      · exact c_anchor 3 hE hA hz (Or.inr ⟨h, rfl⟩)
      · exact c_capture ih hW hE hM hA hl hz h
      · exact c_star ih hW hE hM hA hl hz h
      · exact c_plus ih hW hE hM hA hl hz h
      · exact c_quest ih hW hE hM hA hl hz h
      · by_cases hm : t.mx = -1
        · exact c_ever ih hW hE hM hA hl hz h hm
        · exact c_rep ih hW hE hM hA hl hz h hm
      · exact c_concat ih hW hE hM hA hl hz h
      · exact c_alt ih hW hE hM hA hl hz h
theorem cm_new {w : World} {base C gs ge : Nat} (h : w.heap[C]? = some (.cells #[.int .u64 10485760, .slice none 0 0, .slice none 0 0, .slice none 0 0, .slice none 0 0, .slice (some ⟨gs, 0, none⟩) 4 4, .slice (some ⟨ge, 0, none⟩) 4 4] 135 (0, 0)))
    (h1 : Buf w gs 4) (h2 : Buf w ge 4) (hne : gs ≠ ge) (hC : base ≤ C) (hg : base ≤ gs ∧ base ≤ ge) : CI w base C gs ge (.slice none 0 0) (.slice none 0 0) [] :=
  ⟨_, _, [], h, World.ownsRow_nil _ _ _ _, rfl, List.nodup_nil, by intro k a i h; simp at h, Or.inl ⟨none, rfl⟩, ⟨0, [], World.ownsRow_nil _ _ _ _⟩, ⟨0, [], World.ownsRow_nil _ _ _ _⟩, h1, h2, hne, hC, by simp [Value.ownBlock], by simp [Value.ownBlock], hg⟩
set_option maxHeartbeats 4000000 in
theorem newc_ci (w : World) : Calls Tryd.prog 47 #[.int .u64 10485760] w fun e w' => ∃ (C gs ge : Nat), e = .returned (.pointer (some ⟨C, 0, none⟩)) ∧ CI w' w.heap.size C gs ge (.slice none 0 0) (.slice none 0 0) [] ∧ Below w.heap.size w w' := by
  have hmk : ∀ W : World, (Instr.makeSlice 49 (.int .i64 4) (.int .i64 4)).run Tryd.prog W = .ok (.slice (some ⟨W.heap.size, 0, none⟩) 4 4) (W.alloc (.cells (madeCells #[.int .u8 0] 4) 5)) := fun W =>
    run_make_row' (P := Tryd.prog) 49 5 (.int .u8 0) 1 Tryd.underlying49 Tryd.infoU8 rfl .i64 .i64 4 (by omega) (by omega) W
  go_enter Tryd.func47, Tryd.ntmps47
  go_wp2_with fail
  go_region
  all_goals
    (try go_wp2_with fail)
    go_ret
    first
      | exact ⟨w.heap.size + 1 + 1, w.heap.size, w.heap.size + 1, rfl, cm_new (heap_alloc_at ((w.alloc _).alloc _) _ _ (by simp)) ⟨madeCells #[.int .u8 0] 4, block_alloc (w := (w.alloc _).alloc _) (block_alloc (heap_alloc_new w _)), by simp [size_madeCells]⟩ ⟨madeCells #[.int .u8 0] 4, block_alloc (w := (w.alloc _).alloc _) (heap_alloc_at (w.alloc _) _ _ (by simp)), by simp [size_madeCells]⟩ (by omega) (by omega) ⟨by omega, by omega⟩, ((((Below.refl w.heap.size w).alloc (Nat.le_refl _) _).alloc (by simp) _).alloc (by simp; omega) _).drew⟩
      | exact ⟨w.heap.size + 1 + 1, w.heap.size + 1, w.heap.size, rfl, cm_new (heap_alloc_at ((w.alloc _).alloc _) _ _ (by simp)) ⟨madeCells #[.int .u8 0] 4, block_alloc (w := (w.alloc _).alloc _) (heap_alloc_at (w.alloc _) _ _ (by simp)), by simp [size_madeCells]⟩ ⟨madeCells #[.int .u8 0] 4, block_alloc (w := (w.alloc _).alloc _) (block_alloc (heap_alloc_new w _)), by simp [size_madeCells]⟩ (by omega) (by omega) ⟨by omega, by omega⟩, ((((Below.refl w.heap.size w).alloc (Nat.le_refl _) _).alloc (by simp) _).alloc (by simp; omega) _).drew⟩
set_option maxHeartbeats 4000000 in
theorem compile_gen (X : Nat → List In → Prop) (base C gs ge : Nat) (ad : Nat → Addr) (d tb : Nat) (t : Tr) (w : World) (hbs : base ≤ w.heap.size) (hc : Calls Tryd.prog 64 #[.pointer (some ⟨C, 0, none⟩), .pointer (some ⟨tb, 0, none⟩)] w (CPostX X base C gs ge ad d t [] w)) (hl : size d t ≤ 999990) :
    Calls Tryd.prog 48 #[.pointer (some ⟨C, 0, none⟩), .pointer (some ⟨tb, 0, none⟩)] w fun e w' => ((∃ (g cap n : Nat) (c : List In), e = .returned (.tuple #[.slice (some ⟨g, 0, none⟩) n cap, .nilIface]) ∧ n = c.length + 1 ∧ bad d t = none ∧ (Ok (lang d t) (places d t) (size d t) 0 c ∧ X 0 c) ∧ PAt w' g 0 (c ++ [In.fin]) w'.heap.size) ∨
      (∃ k, e = .returned (.tuple #[.slice none 0 0, .iface 211 (.pointer (some (ad k)))]) ∧ (bad d t = some k ∨ (k = 4 ∧ 262144 < size d t)))) ∧ Mod (TF cA base w) w w' := by
  have HC := Lib.hid hc
  clear hc
  go_enter Tryd.func48, Tryd.ntmps48
  go_wp2_with fail
  refine HC.out.mono ?_
  rintro e w1 ⟨⟨rfl, hbad, q2, s2, c, hC2, hok2⟩ | ⟨k, rfl, hk⟩, hm1⟩
  · rw [List.nil_append] at hC2
    obtain ⟨iv, pv, ps, hCM⟩ := hC2
    have hal := alloc_ci base C gs ge iv pv q2 s2 ps c w1 hCM
    have hcl := hok2.1.len
    have HX := Lib.hid (And.intro hbad (And.intro hok2 hm1))
    have HAL := Lib.hid hal
    have hcl2 : c.length ≤ 999990 := by omega
    have hb1 : base ≤ w1.heap.size := Nat.le_trans hbs hm1.size
    clear hbad hok2 hm1 hal hCM hcl HC
    go_wp2_with fail
    refine HAL.out.mono ?_
    rintro e w2 ⟨b, o, rfl, ⟨pv', hH⟩, hm2⟩
    have c0 : w2.cell? ⟨b, o, none⟩ = some (.int .i64 0) := hH.at_.c0
    have f0 : w2.frozen? ⟨b, o, none⟩ = false := hH.bk.free
    have hH2 := hH.set0 0
    have hm3 := TF.trans hm2 (hH.tf o (.int .i64 0))
    have k1 : (w2.setCell ⟨b, o, none⟩ (.int .i64 0)).cell? ⟨C, 1, none⟩ = some iv := block_cell hH2.cm.hC rfl
    have hbw : base ≤ (w2.setCell ⟨b, o, none⟩ (.int .i64 0)).heap.size := Nat.le_trans hb1 hm3.size
    have HH := Lib.hid hH2
    have HM3 := Lib.hid (TF.trans HX.out.2.2 (TF.mono hm3 cE_cA))
    have hown : (w2.setCell ⟨b, o, none⟩ (.int .i64 0)).ownsRow base 79 1 iv c.length (ps.map pV) := hH2.cm.hi
    have HO := Lib.hid hown
    clear hH hH2 hm2 hm3 HAL hown
    go_wp2_with (first
      | (at_builtin; (refine wpList_append_one rfl (.tmp 23) (.tmp 25) 64 rfl base 79 _ 1 8 Tryd.underlying64 Tryd.infoPinst rfl (by decide) (by decide) _ _ _ rfl HO.out #[.pointer (some ⟨b, o, none⟩)] _ _ rfl (by simp) rfl (by simp [Value.oneCell']) (by omega) hbw ?_; intro ao5 cap5 w5 hown5 hgr5 hat5; obtain ⟨q1, q2', k5, k5f⟩ := HH.out.pushed hgr5 hown5; have k6 : (w5.setCell ⟨C, 1, none⟩ (.slice ao5 (c.length + 1) cap5)).cell? ⟨C, 1, none⟩ = some (.slice ao5 (c.length + 1) cap5) := (by have hC1 := ((((Mod.refl (fun z => iv.ownBlock = some z) _).alloc _).grown hgr5 fun k hk _ => hk)).heap HH.out.cm.hC (fun e => absurd (ty_one (show Ty _ C 135 from ⟨_, _, HH.out.cm.hC⟩) (ty_own HH.out.cm.hi e)) (by decide)); exact block_cell (block_set hC1) rfl); have HCC := Lib.hid q1; have HXX := Lib.hid (TF.trans HM3.out (TF.mono q2' cE_cA)); clear q1 q2' hown5 hgr5 hat5)))
    go_ret2
    obtain ⟨iv9, pv9, ps9, h9⟩ := HCC.out
    have hfin : (c ++ [In.fin]) = c ++ [{ In.fin with op := 0 }] := rfl
    have hlen : (c ++ [In.fin]).length = c.length + 1 := by simp
    have k7 : (w5.setCell ⟨C, 1, none⟩ (.slice ao5 (c.length + 1) cap5)).cell? ⟨C, 1, none⟩ = some iv9 := block_cell h9.hC rfl
    have hiv : iv9 = .slice ao5 (c.length + 1) cap5 := by rw [k6] at k7; exact (Option.some.inj k7).symm
    subst hiv
    obtain ⟨g, cp, b0, o0, e0, hp0, hc0⟩ := h9.ptr (k := 0) (i := (c ++ [In.fin])[0]'(by simp)) (by rw [← hfin]; exact List.getElem?_eq_getElem (by simp))
    obtain ⟨rfl, -, rfl⟩ : ao5 = some ⟨g, 0, none⟩ ∧ True ∧ cap5 = cp := by injection e0 with e1 e2 e3; exact ⟨e1, trivial, e3⟩
    refine ⟨Or.inl ⟨g, cap5, c.length + 1, c, rfl, rfl, HX.out.1, HX.out.2.1, ?_⟩, HXX.out⟩
    refine ⟨World.block_lt_of_cell? _ _ hc0, by rw [hlen]; omega, fun k i hk => ?_⟩
    obtain ⟨g', cp', b', o', e', hp', hc'⟩ := h9.ptr (k := k) (i := i) hk
    obtain rfl : g = g' := by injection e' with e1 e2 e3; injection e1 with e1; injection e1
    obtain ⟨_, b2, b3, _, _⟩ := h9.at_ k (b', o') i hp' hk
    exact ⟨b', o', ty_lt b2.ty, by rw [Nat.zero_add]; exact hc', b3⟩
  · have HK := Lib.hid (And.intro hk hm1)
    clear hk hm1
    go_wp2_with fail
    go_ret2
    exact ⟨Or.inr ⟨k, rfl, by simpa using HK.out.1⟩, HK.out.2⟩
theorem compile_ci (base C gs ge : Nat) (ad : Nat → Addr) (d tb : Nat) (t : Tr) (qv sv : Value) (w : World) (hW : WF d t) (hE : Env w base ad) (hM : CI w base C gs ge qv sv []) (hA : AstAt w d t tb) (hl : size d t ≤ 999990) :
    Calls Tryd.prog 48 #[.pointer (some ⟨C, 0, none⟩), .pointer (some ⟨tb, 0, none⟩)] w fun e w' => ((∃ (g cap n : Nat) (c : List In), e = .returned (.tuple #[.slice (some ⟨g, 0, none⟩) n cap, .nilIface]) ∧ n = c.length + 1 ∧ bad d t = none ∧ Ok (lang d t) (places d t) (size d t) 0 c ∧ PAt w' g 0 (c ++ [In.fin]) w'.heap.size) ∨
      (∃ k, e = .returned (.tuple #[.slice none 0 0, .iface 211 (.pointer (some (ad k)))]) ∧ (bad d t = some k ∨ (k = 4 ∧ 262144 < size d t)))) ∧ Mod (TF cA base w) w w' :=
  (compile_gen (fun _ _ => True) base C gs ge ad d tb t w hM.base_le ((c_spec base C gs ge ad d t tb [] qv sv w hW hE hM hA (by simp; omega)).mono fun e w' h => h.toX) hl).mono fun e w' h => ⟨h.1.imp (fun ⟨g, cap, n, c, a, b, x, y, z⟩ => ⟨g, cap, n, c, a, b, x, y.1, z⟩) id, h.2⟩
end Go.Proofs.YtnpchkohfomagaaDoor.Rgw
/-! Regular expressions: NewParsedWithLimit. -/
namespace Go.Proofs.YtnpchkohfomagaaDoor.Rgw
open Go.ChangeShapes Go.WideShapes Go.ChangeAt Go.RowKit Go.Trav Go.Rg Go.Proofs.YtnpchkohfomagaaDoor.Seq Go.Utf Go.Proofs.YtnpchkohfomagaaDoor.Sparse
set_option linter.unusedVariables false
set_option linter.unusedSimpArgs false
set_option maxRecDepth 100000
/-- What making an automaton of an expression answers. -/
def NPost (ad : Nat → Addr) (d : Nat) (t : Tr) (w : World) (e : Ending) (w' : World) : Prop :=
  ((∃ (X D : Nat) (c : List In) (Ks nx : List (List Nat)), e = .returned (.tuple #[.pointer (some ⟨X, 0, none⟩), .nilIface]) ∧ bad d t = none ∧ Ok (lang d t) (places d t) (size d t) 0 c ∧ w'.cell? ⟨X, 1, none⟩ = some (.pointer (some ⟨D, 0, none⟩)) ∧ Made (c ++ [In.fin]) Ks nx ∧ (∀ r ∈ nx, ∀ n ∈ r, n ≤ Ks.length) ∧ DF w' D (c ++ [In.fin]) Ks nx) ∨
    ∃ k, e = .returned (.tuple #[.pointer none, .iface 211 (.pointer (some (ad k)))]) ∧ (bad d t = some k ∨ (k = 4 ∧ 262144 < size d t) ∨ (k = 5 ∧ bad d t = none ∧ 5 < places d t))) ∧ Below w.heap.size w w'
/-- The same; where there are too many states, the code has them. -/
def NPostX (X : Nat → List In → Prop) (ad : Nat → Addr) (d : Nat) (t : Tr) (w : World) (e : Ending) (w' : World) : Prop :=
  ((∃ (Z D : Nat) (c : List In) (Ks nx : List (List Nat)), e = .returned (.tuple #[.pointer (some ⟨Z, 0, none⟩), .nilIface]) ∧ bad d t = none ∧ Ok (lang d t) (places d t) (size d t) 0 c ∧ w'.cell? ⟨Z, 1, none⟩ = some (.pointer (some ⟨D, 0, none⟩)) ∧ Made (c ++ [In.fin]) Ks nx ∧ (∀ r ∈ nx, ∀ n ∈ r, n ≤ Ks.length) ∧ DF w' D (c ++ [In.fin]) Ks nx) ∨
    ∃ k, e = .returned (.tuple #[.pointer none, .iface 211 (.pointer (some (ad k)))]) ∧ (bad d t = some k ∨ (k = 4 ∧ 262144 < size d t) ∨ (k = 5 ∧ bad d t = none ∧ 5 < places d t ∧ ∃ c, Ok (lang d t) (places d t) (size d t) 0 c ∧ X 0 c ∧ Many (c ++ [In.fin])))) ∧ Below w.heap.size w w'
theorem NPostX.drop {X : Nat → List In → Prop} {ad : Nat → Addr} {d : Nat} {t : Tr} {w : World} {e : Ending} {w' : World} (h : NPostX X ad d t w e w') : NPost ad d t w e w' :=
  ⟨h.1.imp id fun ⟨k, a, b⟩ => ⟨k, a, b.imp id (Or.imp id fun ⟨x, y, z, _⟩ => ⟨x, y, z⟩)⟩, h.2⟩
set_option maxHeartbeats 4000000 in
theorem npl_gen (X : Nat → List In → Prop) (ad : Nat → Addr) (d tb : Nat) (t : Tr) (w : World) (hcc : ∀ (C gs ge : Nat) (w1 : World), CI w1 w.heap.size C gs ge (.slice none 0 0) (.slice none 0 0) [] → Below w.heap.size w w1 → Calls Tryd.prog 64 #[.pointer (some ⟨C, 0, none⟩), .pointer (some ⟨tb, 0, none⟩)] w1 (CPostX X w.heap.size C gs ge ad d t [] w1)) (h5 : w.cell? ⟨4, 0, none⟩ = some (.iface 211 (.pointer (some (ad 5))))) (h5b : 4 < w.heap.size) (hl : size d t ≤ 999990) :
    Calls Tryd.prog 42 #[.string ⟨#[]⟩, .pointer (some ⟨tb, 0, none⟩), .int .u64 10485760] w (NPostX X ad d t w) := by
  have hn := newc_ci w
  have HW := Lib.hid hcc
  have H5 := Lib.hid h5
  clear hcc h5
  go_enter Tryd.func42, Tryd.ntmps42
  go_wp2_with fail
  refine hn.mono ?_
  rintro e w1 ⟨C, gs, ge, rfl, hC, hb1⟩
  have hm1 : Mod (TF cA w.heap.size w) w w1 := Mod.of_below hb1
  have hcp := compile_gen X w.heap.size C gs ge ad d tb t w1 hb1.size (HW.out C gs ge w1 hC hb1) hl
  have HB1 := Lib.hid hm1
  have HCP := Lib.hid hcp
  clear hC hb1 hm1 hcp hn
  go_wp2_with fail
  refine HCP.out.mono ?_
  rintro e w2 ⟨⟨g, cap, n, c, rfl, hn, hbad, hok, hP⟩ | ⟨k, rfl, hk⟩, hm2⟩
  · have hm02 := TF.trans HB1.out hm2
    have hsz02 : w.heap.size ≤ w2.heap.size := hm02.size
    have hnb := newB_any (c ++ [In.fin]) w2.heap.size g 0 cap w2 hP (Nat.le_refl _)
    rw [show (c ++ [In.fin]).length = n by simp [hn]] at hnb
    have h52 : w2.cell? ⟨4, 0, none⟩ = some (.iface 211 (.pointer (some (ad 5)))) := hm02.cell H5.out (fun h => absurd h.1 (Nat.not_le_of_lt h5b))
    have HNB := Lib.hid hnb
    have H52 := Lib.hid h52
    have HM02 := Lib.hid hm02
    have HX := Lib.hid (And.intro hn (And.intro hbad hok))
    clear hm2 hm02 hnb h52 hP hn hbad hok HCP
    go_wp2_with fail
    refine HNB.out.mono ?_
    rintro e w3 ⟨U, D, M, sv, sts, rfl, hF, hm3⟩
    have hg3 := hm3.cell H52.out (fun h => h)
    have hbu := build_any (c ++ [In.fin]) w2.heap.size w2.heap.size U D M g 0 cap sv sts _ w3 HX.out.2.2.1.sound (by simp) hF hg3 (by omega)
    have HM3 := Lib.hid hm3
    have HBU := Lib.hid hbu
    clear hF hm3 hg3 hbu HNB
    go_wp2_with fail
    refine HBU.out.mono ?_
    rintro e w4 ⟨hb4, ⟨Ks, nx, rfl, hmd, hrow, hK, sv', kv', sts', hBI⟩ | ⟨rfl, h6⟩⟩
    · have HY := Lib.hid (And.intro hb4 (And.intro hmd (And.intro hrow (And.intro hK hBI))))
      clear hb4 hmd hrow hK hBI HBU
      go_wp2_with fail
      go_ret2
      obtain ⟨hb4, hmd, hrow, hK, hBI⟩ := HY.out
      have hszw : w.heap.size ≤ w4.heap.size := by have := HM3.out.size; have := hb4.size; omega
      have hbel : Below w.heap.size w w4 := ((HM02.out.toBelow (Nat.le_refl _) fun k _ h => h.1).trans ((HM3.out.toBelow hsz02 fun _ _ h => h.elim))).trans (hb4.mono hsz02)
      have hBI2 := hBI.mod (w' := w4.alloc (.cells #[.string ⟨#[]⟩, .pointer (some ⟨D, 0, none⟩)] 110)) ((Mod.refl (fun _ => False) w4).alloc _) fun _ _ h => h
      exact ⟨Or.inl ⟨w4.heap.size, D, c, Ks, nx, rfl, HX.out.2.1, HX.out.2.2.1, block_cell (heap_alloc_new w4 _) rfl, hmd, hrow, hBI2.df (by omega)⟩, hbel.alloc hszw _⟩
    · have HY := Lib.hid (And.intro hb4 h6)
      clear hb4 h6 HBU
      go_wp2_with fail
      go_ret2
      obtain ⟨hb4, h6⟩ := HY.out
      have hbel : Below w.heap.size w w4 := ((HM02.out.toBelow (Nat.le_refl _) fun k _ h => h.1).trans ((HM3.out.toBelow hsz02 fun _ _ h => h.elim))).trans (hb4.mono hsz02)
      refine ⟨Or.inr ⟨5, rfl, Or.inr (Or.inr ⟨rfl, HX.out.2.1, ?_⟩)⟩, hbel⟩
      refine ⟨?_, c, HX.out.2.2.1, HX.out.2.2.2, h6⟩
      by_cases hp : places d t ≤ 5
      · have := HX.out.2.2.1.few hp; have := h6.six; omega
      · omega
  · have HK := Lib.hid (And.intro hk (TF.trans HB1.out hm2))
    clear hk hm2
    go_wp2_with fail
    go_ret2
    exact ⟨Or.inr ⟨k, rfl, HK.out.1.elim Or.inl (fun h => Or.inr (Or.inl h))⟩, HK.out.2.toBelow (Nat.le_refl _) fun k _ h => h.1⟩
theorem npl_any (ad : Nat → Addr) (d tb : Nat) (t : Tr) (w : World) (hW : WF d t) (hE : Env w w.heap.size ad) (h5 : w.cell? ⟨4, 0, none⟩ = some (.iface 211 (.pointer (some (ad 5))))) (h5b : 4 < w.heap.size) (hA : AstAt w d t tb) (hl : size d t ≤ 999990) :
    Calls Tryd.prog 42 #[.string ⟨#[]⟩, .pointer (some ⟨tb, 0, none⟩), .int .u64 10485760] w (NPost ad d t w) :=
  (npl_gen (fun _ _ => True) ad d tb t w (fun C gs ge w1 hC hb => (c_spec w.heap.size C gs ge ad d t tb [] _ _ w1 hW (hE.mod (Mod.of_below hb : Mod (TF cA w.heap.size w) w w1)) hC (hA.below hb) (by simp; omega)).mono fun e w' h => h.toX) h5 h5b hl).mono fun e w' h => h.drop
end Go.Proofs.YtnpchkohfomagaaDoor.Rgw
/-! impl.wrong: an error as a number, at each of the package's errors. -/
namespace Go.Proofs.YtnpchkohfomagaaDoor.Rgw
open Go.ChangeShapes Go.WideShapes Go.ChangeAt Go.RowKit Go.Trav Go.Pk Go.Rg Go.Maps Go.Proofs.YtnpchkohfomagaaDoor.Sparse
set_option linter.unusedVariables false
set_option linter.unusedSimpArgs false
set_option maxRecDepth 100000
/-- The package's errors by their numbers, each a pointer of its own. -/
structure ErrK (w : World) (ad : Nat → Addr) : Prop where
  h1 : w.cell? ⟨0, 0, none⟩ = some (.iface 211 (.pointer (some (ad 1))))
  h2 : w.cell? ⟨1, 0, none⟩ = some (.iface 211 (.pointer (some (ad 2))))
  h3 : w.cell? ⟨2, 0, none⟩ = some (.iface 211 (.pointer (some (ad 3))))
  h4 : w.cell? ⟨3, 0, none⟩ = some (.iface 211 (.pointer (some (ad 4))))
  h5 : w.cell? ⟨4, 0, none⟩ = some (.iface 211 (.pointer (some (ad 5))))
  ne : ∀ i j, 1 ≤ i → i < j → j ≤ 5 → ad j ≠ ad i
  bl : ∀ k, 1 ≤ k → k ≤ 5 → ∃ c T, w.heap[(ad k).block]? = some (.cells c T (0, 0))
theorem ErrK.mod {w w' : World} {ad : Nat → Addr} (h : ErrK w ad) (hb : Below w.heap.size w w') : ErrK w' ad := by
  have hc : ∀ {a : Addr} {v : Value}, w.cell? a = some v → w'.cell? a = some v := fun ha => (Mod.of_below (F := fun _ => False) hb).cell ha (fun x => x)
  exact ⟨hc h.h1, hc h.h2, hc h.h3, hc h.h4, hc h.h5, h.ne, fun k h1 h2 => by obtain ⟨c, T, e⟩ := h.bl k h1 h2; exact ⟨c, T, block_below e hb (block_lt e)⟩⟩
set_option maxHeartbeats 2000000 in
theorem wrong_nil (w : World) : Calls Tryd.prog 35 #[.nilIface] w fun e w' => e = .returned (.int .i64 0) ∧ Below w.heap.size w w' := by
  go_enter Tryd.func35, Tryd.ntmps35
  go_wp2_with fail
  go_ret
  exact ⟨rfl, Below.refl _ _⟩
set_option maxHeartbeats 4000000 in
theorem wrong_k (ad : Nat → Addr) (k : Nat) (w : World) (h : ErrK w ad) (k1 : 1 ≤ k) (k5 : k ≤ 5) :
    Calls Tryd.prog 35 #[.iface 211 (.pointer (some (ad k)))] w fun e w' => e = .returned (.int .i64 (k : Int)) ∧ Below w.heap.size w w' := by
  obtain ⟨h1, h2, h3, h4, h5, ne, bl⟩ := h
  obtain ⟨i1, hi1⟩ : ∃ i, Tryd.prog.info? 211 = some i := by
    cases e : Tryd.prog.info? 211 with
    | none => exact absurd (show (Tryd.prog.info? 211).isSome = true from by kernel_rfl) (by rw [e]; simp)
    | some i => exact ⟨i, rfl⟩
  obtain ⟨i2, hi2⟩ : ∃ i, Tryd.prog.info? 213 = some i := by
    cases e : Tryd.prog.info? 213 with
    | none => exact absurd (show (Tryd.prog.info? 213).isSome = true from by kernel_rfl) (by rw [e]; simp)
    | some i => exact ⟨i, rfl⟩
  have hc1 : i1.comparable = true := by
    have h : (Tryd.prog.info? 211).map (·.comparable) = some true := by kernel_rfl
    rw [hi1] at h; simpa using h
  have hc2 : i2.size ≠ 0 := by
    have h : (Tryd.prog.info? 213).map (·.size) = some 1 := by kernel_rfl
    rw [hi2] at h
    simp at h; omega
  have hne : ∀ i, 1 ≤ i → i < k → (binOp .eql 66 (.iface 211 (.pointer (some (ad k)))) (.iface 211 (.pointer (some (ad i))))).run Tryd.prog w = .ok (.bool false) w := by
    intro i hi hik
    obtain ⟨ca, ta, ea⟩ := bl k k1 k5
    obtain ⟨cb, tb, eb⟩ := bl i hi (by omega)
    exact run_eql_iface_ptr_other w Tryd.underlying66 Tryd.underlying211 hi1 hc1 hi2 hc2 (ne i k hi hik k5) ea eb
  have hsame : (binOp .eql 66 (.iface 211 (.pointer (some (ad k)))) (.iface 211 (.pointer (some (ad k))))).run Tryd.prog w = .ok (.bool true) w := run_eql_iface_ptr_same w (ad k) Tryd.underlying66 Tryd.underlying211 hi1 hc1 hi2
  clear ne bl hi1 hi2 hc1 hc2
  obtain rfl | rfl | rfl | rfl | rfl : k = 1 ∨ k = 2 ∨ k = 3 ∨ k = 4 ∨ k = 5 := by omega
  · skip
    clear hne k1 k5
    go_enter Tryd.func35, Tryd.ntmps35
    go_wp2_with fail
    go_ret
    exact ⟨rfl, Below.refl _ _⟩
  · skip
    have q1 := hne 1 (by omega) (by omega)
    clear hne k1 k5
    go_enter Tryd.func35, Tryd.ntmps35
    go_wp2_with fail
    go_ret
    exact ⟨rfl, Below.refl _ _⟩
  · skip
    have q1 := hne 1 (by omega) (by omega)
    have q2 := hne 2 (by omega) (by omega)
    clear hne k1 k5
    go_enter Tryd.func35, Tryd.ntmps35
    go_wp2_with fail
    go_ret
    exact ⟨rfl, Below.refl _ _⟩
  · skip
    have q1 := hne 1 (by omega) (by omega)
    have q2 := hne 2 (by omega) (by omega)
    have q3 := hne 3 (by omega) (by omega)
    clear hne k1 k5
    go_enter Tryd.func35, Tryd.ntmps35
    go_wp2_with fail
    go_ret
    exact ⟨rfl, Below.refl _ _⟩
  · skip
    have q1 := hne 1 (by omega) (by omega)
    have q2 := hne 2 (by omega) (by omega)
    have q3 := hne 3 (by omega) (by omega)
    have q4 := hne 4 (by omega) (by omega)
    clear hne k1 k5
    go_enter Tryd.func35, Tryd.ntmps35
    go_wp2_with fail
    go_ret
    exact ⟨rfl, Below.refl _ _⟩
end Go.Proofs.YtnpchkohfomagaaDoor.Rgw
