/- impl.Letters: all letters of a query, with their places. -/
import Derived.Test.YtanimdajohpggaaDoorAlpha7
import Derived.Test.YtanimdajohpggaaDoorCnt0
namespace Go.Proofs.YtanimdajohpggaaDoor.Utf0
open Go.ChangeShapes Go.WideShapes Go.ChangeAt Go.RowKit Go.Trav Go.Utf
set_option linter.unusedVariables false
set_option maxRecDepth 100000
theorem Tryd.info58 : (Tryd.prog.info? 58).map (fun i => (i.zero, i.size, i.bytes)) = some (some (.slice none 0 0), 1, 24) := by kernel_rfl
/-- What was put out so far. -/
structure Outs (w : World) (base : Nat) (qs L : List Int) (lv pv : Value) (pvs : List Value) : Prop where
  ol : w.ownsRow base 21 1 lv pvs.length ((L.take pvs.length).map rV)
  op : w.ownsRow base 58 1 pv pvs.length pvs
  ne : ∀ g, lv.ownBlock = some g → pv.ownBlock ≠ some g
  fv : ∀ (j : Nat) f x, pvs[j]? = some f → L[j]? = some x → (∃ m, (qs.length ≤ 32 * m ∧ m ≤ 1000000) ∧ Reads w f (m + 1) 1 ((wordsTo qs x (m + 1)).map uV)) ∧ ∀ g, f.ownBlock = some g → lv.ownBlock ≠ some g ∧ pv.ownBlock ≠ some g ∧ base ≤ g ∧ g < w.heap.size
theorem Outs.mod {F : Nat → Prop} {w w' : World} {base : Nat} {qs L : List Int} {lv pv : Value} {pvs : List Value} (h : Outs w base qs L lv pv pvs) (hm : Mod F w w') (hF : ∀ g, F g → g < base) : Outs w' base qs L lv pv pvs := by
  have hs := hm.size
  refine ⟨ownsRow_mod h.ol hm fun g hg hf2 => ?_, ownsRow_mod h.op hm fun g hg hf2 => ?_, h.ne, fun j f x hj hx => ?_⟩
  · have := (h.ol.lt g hg).1
    have := hF g hf2
    omega
  · have := (h.op.lt g hg).1
    have := hF g hf2
    omega
  · obtain ⟨⟨m, e1, e2⟩, e3⟩ := h.fv j f x hj hx
    exact ⟨⟨m, e1, e2.mod hm fun g hg hf2 => by have := (e3 g hg).2.2.1; have := hF g hf2; omega⟩, fun g hg => ⟨(e3 g hg).1, (e3 g hg).2.1, (e3 g hg).2.2.1, by have := (e3 g hg).2.2.2; omega⟩⟩
theorem Outs.snoc {wr w5 w6 w7 : World} {base m : Nat} {qs L : List Int} {lv pv lv' pv' f : Value} {pvs : List Value} {x : Int} {A1 A2 A3 : Obj} (h : Outs wr base qs L lv pv pvs) (hx : L[pvs.length]? = some x) (hbase : base ≤ wr.heap.size)
    (h5 : w5.ownsRow base 21 1 lv' (pvs.length + 1) ((L.take pvs.length).map rV ++ [rV x])) (g5 : (wr.alloc A1).grownBy w5 lv.ownBlock) (a5 : lv'.ownBlock = lv.ownBlock ∨ lv'.ownBlock = some (wr.heap.size + 1))
    (h6 : w6.ownsRow w5.heap.size 59 1 f (m + 1) ((wordsTo qs x (m + 1)).map uV)) (hm : qs.length ≤ 32 * m ∧ m ≤ 1000000) (g6 : (w5.alloc A2).grownBy w6 (some w5.heap.size))
    (h7 : w7.ownsRow base 58 1 pv' (pvs.length + 1) (pvs ++ [f])) (g7 : (w6.alloc A3).grownBy w7 pv.ownBlock) (a7 : pv'.ownBlock = pv.ownBlock ∨ pv'.ownBlock = some (w6.heap.size + 1)) : Outs w7 base qs L lv' pv' (pvs ++ [f]) := by
  have m5 : Mod (fun g => lv.ownBlock = some g ∨ pv.ownBlock = some g) wr w5 := (Mod.alloc (Mod.refl _ _) _).grown g5 (fun k hk _ => Or.inl hk)
  have s5 := m5.size
  have m6 : Mod (fun g => lv.ownBlock = some g ∨ pv.ownBlock = some g) wr w6 := (m5.alloc _).grown g6 (fun k hk hl => by cases hk; omega)
  have m67 : Mod (fun g => pv.ownBlock = some g) w6 w7 := (Mod.alloc (Mod.refl _ _) _).grown g7 (fun k hk _ => hk)
  have s6 : w5.heap.size ≤ w6.heap.size := by have := g6.size; simp at this; omega
  have s7 := m67.size
  have m56 : Mod (fun g => pv.ownBlock = some g) w5 w6 := (Mod.alloc (Mod.refl _ _) _).grown g6 (fun k hk hl => by cases hk; omega)
  have m57 := m56.trans m67
  have m7 : Mod (fun g => lv.ownBlock = some g ∨ pv.ownBlock = some g) wr w7 := m6.trans (m67.mono fun k _ hk => Or.inr hk)
  have hlp : ∀ g, lv'.ownBlock = some g → pv.ownBlock ≠ some g := fun g h1 h2 => by
    rcases a5 with e | e
    · exact h.ne g (e ▸ h1) h2
    · rw [e] at h1
      cases h1
      have := (h.op.lt _ h2).2
      omega
  have hl' : ∀ g, g < wr.heap.size → lv.ownBlock ≠ some g → lv'.ownBlock ≠ some g := fun g h1 h2 => by
    rcases a5 with e | e
    · rw [e]; exact h2
    · rw [e]; intro e2; cases e2; omega
  have hp' : ∀ g, g < w6.heap.size → pv.ownBlock ≠ some g → pv'.ownBlock ≠ some g := fun g h1 h2 => by
    rcases a7 with e | e
    · rw [e]; exact h2
    · rw [e]; intro e2; cases e2; omega
  refine ⟨?_, by rw [List.length_append]; exact h7, fun g hg => hp' g (by have := (h5.lt g hg).2; omega) (hlp g hg), fun j f' y hj hy => ?_⟩
  · rw [List.length_append, List.length_singleton, take_snoc' _ _ _ hx, List.map_append]
    exact ownsRow_mod h5 m57 fun g hg => hlp g hg
  · by_cases hjl : j < pvs.length
    · rw [List.getElem?_append_left hjl] at hj
      obtain ⟨⟨m', e1, e2⟩, e3⟩ := h.fv j f' y hj hy
      exact ⟨⟨m', e1, e2.mod m7 fun g hg hF => by rcases hF with hF | hF; exact (e3 g hg).1 hF; exact (e3 g hg).2.1 hF⟩, fun g hg => ⟨hl' g (e3 g hg).2.2.2 (e3 g hg).1, hp' g (by have := (e3 g hg).2.2.2; omega) (e3 g hg).2.1, (e3 g hg).2.2.1, by have := (e3 g hg).2.2.2; omega⟩⟩
    · obtain rfl : j = pvs.length := by have := (List.getElem?_eq_some_iff.1 hj).1; simp at this; omega
      rw [List.getElem?_append_right (Nat.le_refl _), Nat.sub_self] at hj
      obtain rfl := Option.some.inj hj
      obtain rfl := Option.some.inj (hx.symm.trans hy)
      have hfp : ∀ g, f.ownBlock = some g → pv.ownBlock ≠ some g := fun g h1 h2 => by
        have := (h6.lt g h1).1
        have := (h.op.lt g h2).2
        omega
      exact ⟨⟨m, hm, (reads_of_owns h6).mod m67 hfp⟩, fun g hg => ⟨fun e => by have := (h6.lt g hg).1; have := (h5.lt g e).2; omega, hp' g (h6.lt g hg).2 (hfp g hg), by have := (h6.lt g hg).1; omega, by have := (h6.lt g hg).2; omega⟩⟩
/-- What impl.Letters answers. -/
def LettersPut (w' : World) (qs L : List Int) (lv pv : Value) (pvs : List Value) : Prop := Reads w' lv pvs.length 1 (L.map rV) ∧ Reads w' pv pvs.length 1 pvs ∧ pvs.length = L.length ∧ ∀ (j : Nat) f x, pvs[j]? = some f → L[j]? = some x → ∃ m, (qs.length ≤ 32 * m ∧ m ≤ 1000000) ∧ Reads w' f (m + 1) 1 ((wordsTo qs x (m + 1)).map uV)
theorem Outs.put {w w' : World} {base : Nat} {qs L : List Int} {lv pv : Value} {pvs : List Value} (h : Outs w base qs L lv pv pvs) (hl : pvs.length = L.length) (hb : Below w.heap.size w w') : LettersPut w' qs L lv pv pvs := by
  refine ⟨?_, (reads_of_owns h.op).below hb, hl, fun j f x hj hx => ?_⟩
  · have := (reads_of_owns h.ol).below hb
    rwa [List.take_of_length_le (by omega)] at this
  · obtain ⟨⟨m, e1, e2⟩, _⟩ := h.fv j f x hj hx
    exact ⟨m, e1, e2.below hb⟩
theorem words_one (qs : List Int) (x : Int) (m : Nat) : ∀ u ∈ (wordsTo qs x m).map uV, u.oneCell' = true := by
  intro u hu
  obtain ⟨y, _, rfl⟩ := List.mem_map.1 hu
  rfl
set_option maxHeartbeats 4000000 in
theorem letters_impl (s : ByteArray) (qs : List Int) (w : World) (h : IsText (bytesL s) qs) (hs : s.size ≤ 1000000) (hN : Narrow qs.length s.size) (hT : Tabs w) :
    Calls Tryd.prog 30 #[.string s] w fun e w' => ∃ (L : List Int) (lv pv : Value) (pvs : List Value), e = .returned (.tuple #[lv, pv, .bool true]) ∧ L.Perm (once qs) ∧ L.Pairwise (· ≤ ·) ∧ LettersPut w' qs L lv pv pvs ∧ Below w.heap.size w w' := by
  have hz := zzl_any s qs w h hs hN hT
  have hqs := text_len h
  clear h hN hT
  go_enter Tryd.func30, Tryd.ntmps30
  go_wp2_with fail
  refine hz.mono ?_
  rintro e w1 ⟨L, O, fvs, rfl, hP, hS, hl, hset, hb⟩
  have hLs : L.length ≤ s.size := by
    have h1 := hP.length_eq
    have h2 := once_len qs qs.length
    rw [List.take_of_length_le (Nat.le_refl _)] at h2
    omega
  obtain ⟨oo, ocap, rfl⟩ := ownsRow_form hset.own
  have HP := Lib.hid hP
  have HS := Lib.hid hS
  have HL := Lib.hid hl
  have HSET := Lib.hid hset
  have HB1 := Lib.hid hb
  clear hz hP hS hl hset hb
  go_wp2_with fail
  obtain ⟨W2, hW2⟩ : ∃ W2, W2 = w1.alloc (.cells #[.slice oo fvs.length ocap, .int .u32 0] 93) := ⟨_, rfl⟩
  rw [← hW2]
  have hb12 : Below w1.heap.size w1 W2 := by rw [hW2]; exact (Below.refl _ _).alloc (Nat.le_refl _) _
  have hB : W2.heap[w1.heap.size]? = some (.cells #[.slice oo fvs.length ocap, .int .u32 ((0 : Nat) : Int)] 93 (0, 0)) := by rw [hW2]; exact heap_alloc_new w1 _
  have hs2 : W2.heap.size = w1.heap.size + 1 := by rw [hW2]; simp
  have HB12 := Lib.hid hb12
  have HBB := Lib.hid hB
  clear hW2 hb12 hB
  have hfn : fvs.length ≤ s.size := by have := HL.out; omega
  obtain ⟨B, hBe⟩ : ∃ B, B = w1.heap.size := ⟨_, rfl⟩
  rw [← hBe]
  rw [← hBe] at hs2 HB12 HBB
  have HBE := Lib.hid hBe
  clear hBe
  go_loopw [2, 3, 16] (fun lv pv iv wr => ∃ (lvv pvv : Value) (i : Nat) (pvs : List Value), lvv = lv ∧ pvv = pv ∧ iv = .int .i64 i ∧ i ≤ fvs.length ∧ Hid (pvs.length = i) ∧ Hid (wr.heap[B]? = some (.cells #[.slice oo fvs.length ocap, .int .u32 (i : Int)] 93 (0, 0))) ∧ Hid (Mod (fun k => k = B) W2 wr) ∧ Hid (Outs wr W2.heap.size qs L lvv pvv pvs)) (fun _ _ iv _ => s.size - (intOf iv).toNat)
  case atStart => exact ⟨_, _, 0, [], rfl, rfl, rfl, Nat.zero_le _, Lib.hid rfl, HBB, Lib.hid (Mod.refl _ _), Lib.hid ⟨World.ownsRow_nil _ _ _ _, World.ownsRow_nil _ _ _ _, fun g hg => by simp [Value.ownBlock] at hg, fun j f x h => by simp at h⟩⟩
  case round =>
    obtain ⟨lv, pv, i, pvs, e1, e2, rfl, hi, HPL, HBR, HMR, HO⟩ := hrel
    subst e1 e2
    rename World => wr
    have hsr := HMR.out.size
    by_cases hlt : i < fvs.length
    · have hlt2 : i < s.size := by omega
      have hRO : Reads wr (.slice oo fvs.length ocap) fvs.length 2 (setCells L fvs) := ((reads_of_owns HSET.out.own).below (HBE.out ▸ HB12.out)).mod HMR.out fun g hg e => by
        have := (HSET.out.own.lt g hg).2
        have := HBE.out
        omega
      obtain ⟨b, off, cap, pr, hx, epr, cpr⟩ := Reads.rec (fun p : Int × Value => [rV p.1, p.2]) (fun _ => rfl) hRO (by omega) hlt
      obtain ⟨x, f⟩ := pr
      obtain ⟨rfl, -, rfl⟩ := Value.slice.inj hx
      have ex : L[i]? = some x ∧ fvs[i]? = some f := List.getElem?_zip_eq_some.1 epr
      obtain ⟨⟨m, hm, hRf⟩, hfb⟩ := HSET.out.fv i f x ex.2 ex.1
      obtain ⟨fa, fc, rfl⟩ := hRf.form
      have c1 := cpr 0 _ rfl
      have c2 := cpr 1 _ rfl
      have hnx := zzn_more B b off fvs.length ocap i x fa (m + 1) fc wr HBR.out hlt (by omega) (by simpa [rV] using c1) c2
      have EX := Lib.hid ex
      have HM := Lib.hid hm
      have HRF := Lib.hid hRf
      have HFB := Lib.hid hfb
      clear hRO hx epr cpr ex hm hRf hfb c1 c2
      go_wp2_with fail
      refine hnx.mono ?_
      rintro e wn ⟨rfl, hbn, hmn⟩
      have HBN := Lib.hid hbn
      have HMN := Lib.hid (HMR.out.trans hmn)
      have HO2 := Lib.hid (HO.out.mod hmn (fun g hg => by omega))
      have hsn := hmn.size
      have HLL := Lib.hid HO2.out.ol
      have HHP := Lib.hid HO2.out.op
      rw [HPL.out] at HLL HHP
      obtain ⟨LV, hLV⟩ : ∃ LV, LV = lv := ⟨_, rfl⟩
      subst hLV
      have hmb : m ≤ 1000000 := HM.out.2
      clear hbn hmn hnx
      go_wp2_with (first
        | (at_builtin; refine wpList_append_one rfl (.tmp 27) (.tmp 29) 53 rfl W2.heap.size 21 _ 1 4 Tryd.underlying53 Tryd.info21 rfl (by decide) (by decide) _ _ _ rfl HLL.out #[.int .i32 x] _ _ rfl (by simp) rfl (by simp [Value.oneCell']) (by omega) (by omega) ?_; intro ao5 cap5 w5 hown5 hgr5 hat5; have H5 := Lib.hid hown5; have G5 := Lib.hid hgr5; have A5 := Lib.hid hat5; clear hown5 hgr5 hat5; have hs5 : wn.heap.size + 1 ≤ w5.heap.size := (by have := G5.out.size; simpa using this); have HRF5 := Lib.hid (((HRF.out.below (HBE.out ▸ HB12.out)).mod ((HMN.out.alloc _).grown G5.out (fun k hk hl => by have := (HLL.out.lt k hk).1; omega)) (fun g hg e => by have := (HFB.out g hg).2.2; have := HBE.out; omega)).alloc (.cells #[] 59)); have HHP5 := Lib.hid (ownsRow_mod HHP.out ((Mod.alloc (Mod.refl (fun g => LV.ownBlock = some g) wn) _).grown G5.out (fun k hk _ => hk)) (fun g hg e => HO2.out.ne g e hg)))
        | (at_builtin; refine wpList_append_two rfl (.tmp 32) (.tmp 33) 58 95 rfl w5.heap.size 59 59 _ 1 4 Tryd.underlying58 Tryd.underlying95 Tryd.info59 rfl (by decide) (by decide) _ 0 [] rfl (World.ownsRow_made w5 #[] 0 (Nat.le_refl _) (by decide) (by simp)) _ (m + 1) _ rfl HRF5.out (by omega) (words_one _ _ _) (by omega) (by simp) ?_; intro ao6 cap6 w6 hown6 hgr6 hat6; have H6 := Lib.hid hown6; have G6 := Lib.hid hgr6; clear hown6 hgr6 hat6; have hs6 : w5.heap.size + 1 ≤ w6.heap.size := (by have := G6.out.size; simpa using this); have HHP6 := Lib.hid (ownsRow_mod HHP5.out ((Mod.alloc (Mod.refl (fun g => g = w5.heap.size) w5) _).grown G6.out (fun k hk _ => by cases hk; rfl)) (fun g hg e => by have := (HHP5.out.lt g hg).2; omega)))
        | (at_builtin; refine wpList_append_one rfl (.tmp 31) (.tmp 35) 54 rfl W2.heap.size 58 _ 1 24 Tryd.underlying54 Tryd.info58 rfl (by decide) (by decide) _ _ _ rfl HHP6.out #[.slice ao6 (m + 1) cap6] _ _ rfl (by simp) rfl (by simp [Value.oneCell']) (by omega) (by omega) ?_; intro ao7 cap7 w7 hown7 hgr7 hat7)
        | go_in)
      have hout := Outs.snoc HO2.out (by rw [HPL.out]; exact EX.out.1) (by omega) (by rw [HPL.out]; exact H5.out) G5.out A5.out (by simpa using H6.out) HM.out G6.out (by rw [HPL.out]; exact hown7) hgr7 hat7
      have hF : Mod (fun g => LV.ownBlock = some g ∨ pv.ownBlock = some g) wn w7 := (((((Mod.alloc (Mod.refl _ _) _).grown G5.out (fun k hk _ => Or.inl hk)).alloc _).grown G6.out (fun k hk hl => by cases hk; exact absurd hl (by show ¬ w5.heap.size < wn.heap.size; omega))).alloc _).grown hgr7 (fun k hk _ => Or.inr hk)
      have hge : ∀ g, (LV.ownBlock = some g ∨ pv.ownBlock = some g) → W2.heap.size ≤ g := fun g hg => by
        rcases hg with hg | hg
        · exact (HLL.out.lt g hg).1
        · exact (HHP.out.lt g hg).1
      have hm7 : Mod (fun k => k = B) W2 w7 := HMN.out.step hF (fun g h1 h2 => by have := hge g h2; omega)
      have hb7 := hF.heap HBN.out (fun h2 => by have := hge B h2; omega)
      have HOUT := Lib.hid hout
      have HM7 := Lib.hid hm7
      have HB7 := Lib.hid hb7
      clear hout hF hge hm7 hb7 hown7 hgr7 hat7
      first
        | (go_roundw
           case rel => exact ⟨_, _, i + 1, _, rfl, rfl, by go_num, by omega, Lib.hid (by rw [List.length_append, HPL.out]; rfl), HB7, HM7, HOUT⟩
           case measure => simp [intOf]; omega)
        | (refine ⟨⟨_, _, i + 1, _, rfl, rfl, by go_num, by omega, Lib.hid (by rw [List.length_append, HPL.out]; rfl), HB7, HM7, HOUT⟩, ?_⟩
           simp [intOf]
           omega)
    · obtain rfl : i = fvs.length := by omega
      have HBF : Hid (Below w.heap.size w wr) := Lib.hid ((HB1.out.trans (HB12.out.mono (by have := HB1.out.size; have := HBE.out; omega))).trans (HMR.out.toBelow (by have := HB1.out.size; have := HBE.out; omega) (fun k _ e => by have := HB1.out.size; have := HBE.out; omega)))
      have he := zzn_end B oo fvs.length ocap fvs.length wr HBR.out (Nat.le_refl _) (by omega)
      have HPT := fun (w' : World) (hb : Below wr.heap.size wr w') => HO.out.put (by rw [HPL.out, HL.out]) hb
      have hsb := HBF.out.size
      have HPTT := Lib.hid HPT
      clear HPT
      by_cases hlt3 : fvs.length < s.size
      · go_wp2_with fail
        refine he.mono ?_
        rintro e w' ⟨t, x, rfl, hb⟩
        have HPE := Lib.hid (HPTT.out w' hb)
        have HBE2 := Lib.hid (HBF.out.trans (hb.mono hsb))
        clear hb he
        go_wp2_with fail
        go_ret3
        exact ⟨L, lv, pv, pvs, rfl, HP.out, HS.out, HPE.out, HBE2.out⟩
      · go_wp2_with fail
        refine he.mono ?_
        rintro e w' ⟨t, x, rfl, hb⟩
        have HB9 := Lib.hid hb
        clear hb he
        go_wp2_with fail
        go_quiet (fail)
        go_wp2_with fail
        go_ret3
        exact ⟨L, lv, pv, pvs, rfl, HP.out, HS.out, HPTT.out _ (HB9.out.trans ((below_draws w' nq).mono HB9.out.size)), HBF.out.trans ((HB9.out.trans ((below_draws w' nq).mono HB9.out.size)).mono hsb)⟩
end Go.Proofs.YtanimdajohpggaaDoor.Utf0
