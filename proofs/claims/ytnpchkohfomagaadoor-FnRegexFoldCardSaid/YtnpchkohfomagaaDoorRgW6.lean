/- The compiler of expressions: compileClass. -/
import Derived.Test.YtnpchkohfomagaaDoorRgW5
import Derived.BigQuiet
namespace Go.Proofs.YtnpchkohfomagaaDoor.Rgw
open Go.ChangeShapes Go.WideShapes Go.ChangeAt Go.RowKit Go.Trav Go.Rg Go.Proofs.YtnpchkohfomagaaDoor.Seq Go.Utf Go.Proofs.YtnpchkohfomagaaDoor.Sparse
set_option linter.unusedVariables false
set_option linter.unusedSimpArgs false
set_option maxRecDepth 100000
/-- Numbers of letters that lie where the compiler does not write. -/
structure RR (w : World) (v : Value) (rs : List Int) : Prop where
  rd : Reads w v rs.length 1 (rs.map rV)
  off : ∀ g, v.ownBlock = some g → ∃ T, T ∉ cA ∧ Ty w g T
theorem RR.mod {w w' : World} {base : Nat} {v : Value} {rs : List Int} (h : RR w v rs) (m : Mod (TF cA base w) w w') : RR w' v rs :=
  ⟨h.rd.mod m fun g hg => by obtain ⟨T, h1, h2⟩ := h.off g hg; exact TF.not h2 h1, fun g hg => by obtain ⟨T, h1, h2⟩ := h.off g hg; exact ⟨T, h1, ty_mod h2 m (TF.not h2 h1)⟩⟩
theorem RR.below {w w' : World} {v : Value} {rs : List Int} (h : RR w v rs) (hb : Below w.heap.size w w') : RR w' v rs :=
  h.mod (base := 0) (Mod.of_below hb)
/-- A cell that lies where the compiler does not write. -/
structure CC (w : World) (b i : Nat) (v : Value) : Prop where
  cl : w.cell? ⟨b, i, none⟩ = some v
  off : ∃ T, T ∉ cA ∧ Ty w b T
theorem CC.mod {w w' : World} {base b i : Nat} {v : Value} (h : CC w b i v) (m : Mod (TF cA base w) w w') : CC w' b i v := by
  obtain ⟨T, h1, h2⟩ := h.off
  exact ⟨m.cell h.cl (TF.not h2 h1), T, h1, ty_mod h2 m (TF.not h2 h1)⟩
theorem glob_tf {w w' : World} {Ts : List TypeId} {base : Nat} (h : Glob w) (m : Mod (TF Ts base w) w w') (hb : 8 < base ∧ 9 < base) : Glob w' :=
  h.mod m (fun h => by have := h.1; omega) (fun h => by have := h.1; omega)
theorem prs_at : ∀ (rs : List Int) (k : Nat) (a b : Int), rs[2 * k]? = some a → rs[2 * k + 1]? = some b → (prs rs)[k]? = some (a, b) := by
  intro rs
  induction rs using prs.induct with
  | case1 a b r ih =>
    intro k x y hx hy
    cases k with
    | zero => simp at hx hy; subst hx hy; simp [prs]
    | succ k =>
      rw [prs, List.getElem?_cons_succ]
      exact ih k x y (by simpa [Nat.mul_add] using hx) (by simpa [Nat.mul_add] using hy)
  | case2 rs h =>
    intro k x y hx hy
    exfalso
    match rs, h with
    | [], _ => simp at hx
    | [z], _ => simp at hy
    | z1 :: z2 :: r, h => exact h z1 z2 r rfl
theorem prs_len : ∀ (rs : List Int) (m : Nat), rs.length = 2 * m → (prs rs).length = m := by
  intro rs
  induction rs using prs.induct with
  | case1 a b r ih =>
    intro m h
    cases m with
    | zero => simp at h
    | succ m => rw [prs, List.length_cons, ih m (by simp at h; omega)]
  | case2 rs h =>
    intro m hm
    match rs, h with
    | [], _ => simp at hm; simp [prs]; omega
    | [z], _ => simp at hm; omega
    | z1 :: z2 :: r, h => exact absurd rfl (h z1 z2 r)
/-- The pieces are those of the first pairs. -/
structure Cps (q : Nat) (ps : List (Int × Int)) (P : List Pc) : Prop where
  ok : PcsOk q P
  len : P.length = ps.length
  at_ : ∀ (i : Nat) x p, P[i]? = some x → ps[i]? = some p → x.L = Rng p.1 p.2 ∧ x.n = rngN p.2 ∧ x.z = rngZ p.2
theorem cps_nil (q : Nat) : Cps q [] [] := ⟨pcs_nil q, rfl, by intro i x p h; simp at h⟩
theorem Cps.snoc {q : Nat} {ps : List (Int × Int)} {P : List Pc} {p : Int × Int} {c : List In} (h : Cps q ps P) (hc : Ok (Rng p.1 p.2) (rngN p.2) (rngZ p.2) (q + plen P + 1) c) : Cps q (ps ++ [p]) (P ++ [⟨c, Rng p.1 p.2, rngN p.2, rngZ p.2⟩]) := by
  refine ⟨h.ok.snoc hc, by simp [h.len], fun i x r hx hr => ?_⟩
  by_cases hi : i < P.length
  · rw [List.getElem?_append_left hi] at hx
    rw [List.getElem?_append_left (by rw [← h.len]; exact hi)] at hr
    exact h.at_ i x r hx hr
  · rw [List.getElem?_append_right (by omega)] at hx
    have : i = P.length := by have := (List.getElem?_eq_some_iff.mp hx).1; simp at this; omega
    subst this
    rw [h.len] at hr
    simp at hx hr
    subst hx hr
    exact ⟨rfl, rfl, rfl⟩
theorem Cps.sums : ∀ (P : List Pc) (ps : List (Int × Int)), P.length = ps.length → (∀ (i : Nat) x p, P[i]? = some x → ps[i]? = some p → x.L = Rng p.1 p.2 ∧ x.n = rngN p.2 ∧ x.z = rngZ p.2) →
    (P.map Pc.n).sum = (ps.map fun q => rngN q.2).sum ∧ (P.map fun x => x.z + 2).sum = (ps.map fun q => rngZ q.2 + 2).sum ∧ ∀ s, (∃ x ∈ P, x.L s) ↔ ∃ q ∈ ps, Rng q.1 q.2 s := by
  intro P
  induction P with
  | nil => intro ps h _; cases ps with
    | nil => simp
    | cons p r => simp at h
  | cons x P ih =>
    intro ps h hat
    cases ps with
    | nil => simp at h
    | cons p r =>
      obtain ⟨h1, h2, h3⟩ := ih r (by simpa using h) fun i y q hy hq => hat (i + 1) y q (by simpa using hy) (by simpa using hq)
      obtain ⟨a1, a2, a3⟩ := hat 0 x p rfl rfl
      refine ⟨by simp [h1, a2], by simp [h2, a3], fun s => ?_⟩
      simp only [List.mem_cons, exists_eq_or_imp, h3 s, a1]
/-- A class whole. -/
theorem Cps.fin {q : Nat} {ps : List (Int × Int)} {P : List Pc} {p : Int × Int} {c : List In} (h : Cps q ps P) (hc : Ok (Rng p.1 p.2) (rngN p.2) (rngZ p.2) (q + plen P) c) {rs : List Int} (hr : prs rs = ps ++ [p]) :
    Ok (Cls rs) (((prs rs).map fun q => rngN q.2).sum) (((prs rs).map fun q => rngZ q.2 + 2).sum) q (segs (q + plen P + c.length) q P ++ c) := by
  obtain ⟨h1, h2, h3⟩ := Cps.sums P ps h.len h.at_
  have ho := Ok.alts P q h.ok hc
  refine (ho.more ?_ ?_).congr fun s => ?_
  · rw [hr]; simp [h1]
  · rw [hr]; simp [h2]
  · rw [h3 s, Cls, hr]
    constructor
    · rintro (⟨x, hx, hs⟩ | hs)
      · exact ⟨x, by simp [hx], hs⟩
      · exact ⟨p, by simp, hs⟩
    · rintro ⟨x, hx, hs⟩
      rcases List.mem_append.mp hx with hx | hx
      · exact Or.inl ⟨x, hx, hs⟩
      · simp at hx; subst hx; exact Or.inr hs
theorem rngZ_le (b : Int) : 1 ≤ rngZ b ∧ rngZ b ≤ 7000000 := by unfold rngZ; split <;> omega
theorem put_seg' (L : List In) (x : Pc) (p0 p1 p3 : Nat) (h0 : L.length = p0) (h1 : p1 = p0 + 1) (h3 : p3 = p0 + x.c.length + 2) : ((L ++ [In.spl 0 0] ++ x.c ++ [In.jmp 0]).set p0 { In.spl 0 0 with a := p1, b := p3 }) = L ++ seg 0 p0 x := by
  subst h0 h1 h3; exact put_seg L x
set_option maxHeartbeats 8000000 in
theorem class_ci (base C gs ge tb M m : Nat) (qv sv rv : Value) (rs : List Int) (l : List In) (w : World) (hM : CI w base C gs ge qv sv l) (hG : Glob w) (hGb : 8 < base ∧ 9 < base) (hT : CC w tb 4 rv) (hR : RR w rv rs)
    (hn : rs.length = M + 2) (hMm : M = 2 * m) (hm : m ≤ 30) (hok : ∀ q ∈ prs rs, Let q.1 ∧ Let q.2 ∧ q.1 ≤ q.2) (hl : l.length + 300000000 ≤ 50000000000) :
    Calls Tryd.prog 75 #[.pointer (some ⟨C, 0, none⟩), .pointer (some ⟨tb, 0, none⟩)] w fun e w' => e = .returned .nilIface ∧ (∃ qv' sv' c, CI w' base C gs ge qv' sv' (l ++ c) ∧ Ok (Cls rs) (((prs rs).map fun q => rngN q.2).sum) (((prs rs).map fun q => rngZ q.2 + 2).sum) l.length c ∧ (m = 0 → ∃ a b, prs rs = [(a, b)] ∧ RngC a b l.length c)) ∧ Mod (TF cA base w) w w' := by
  have hpl := prs_len rs (m + 1) (by omega)
  obtain ⟨rb, ro, rcap, _, e0, _, _⟩ := Reads.one rV hR.rd (k := 0) (by omega)
  subst e0
  rw [hn] at hT
  have hget : ∀ k, k < m + 1 → ∃ a b, (prs rs)[k]? = some (a, b) ∧ rs[2 * k]? = some a ∧ rs[2 * k + 1]? = some b := fun k hk => by
    have h1 : rs[2 * k]? = some rs[2 * k] := List.getElem?_eq_getElem (by omega)
    have h2 : rs[2 * k + 1]? = some rs[2 * k + 1] := List.getElem?_eq_getElem (by omega)
    exact ⟨_, _, prs_at rs k _ _ h1 h2, h1, h2⟩
  have hcell : ∀ W : World, RR W (.slice (some ⟨rb, ro, none⟩) rs.length rcap) rs → ∀ (j : Nat) x, rs[j]? = some x → W.cell? ⟨rb, ro + j, none⟩ = some (.int .i32 x) := fun W h j x hx => by
    obtain ⟨b', o', _, y, e, hy, hc⟩ := Reads.one rV h.rd (List.getElem?_eq_some_iff.mp hx).1
    cases e
    rw [hx] at hy; cases hy
    exact hc
  have HOK := Lib.hid hok
  have HGT := Lib.hid hget
  have HCL := Lib.hid hcell
  have HR := Lib.hid hR
  have HT := Lib.hid hT
  have HN := Lib.hid (And.intro hn (And.intro hMm hpl))
  have hmk := fun W => make_uints M (by omega) W
  have hwM : IntKind.i64.wrap (M : Int) = (M : Int) := IntWalk.i64_in _ (by omega)
  have c4 := hT.cl
  have HM0 := Lib.hid hM
  have HG := Lib.hid hG
  have hM60 : M ≤ 60 := by omega
  have hbase := hM.base_le
  clear hok hget hcell hR hT hn hMm hpl hM hG
  go_enter Tryd.func75, Tryd.ntmps75
  go_wp2_with fail
  have hwb : Below w.heap.size w (w.alloc (.cells (madeCells #[.int .u64 0] M) 54)) := (Below.refl _ _).alloc (Nat.le_refl _) _
  go_loopw [4, 5, 6, 7, 8, 9, 10, 11, 12] (fun ev jv ix _ _ _ _ _ _ wr => ∃ (k i : Nat) (P : List Pc) (q1 s1 : Value), ev = .nilIface ∧ ix = .int .i64 (i : Int) ∧ Hid (i = 2 * k) ∧ k ≤ m ∧ Hid (CI wr base C gs ge q1 s1 (l ++ segs 0 l.length P)) ∧ Hid (Cps l.length ((prs rs).take k) P ∧ plen P ≤ k * 7000002) ∧ Hid (wr.ownsRow w.heap.size 54 1 jv k ((jpos l.length P).map uV)) ∧ Hid (Mod (TF cA base w) w wr)) (fun _ _ ix _ _ _ _ _ _ _ => M - (intOf ix).toNat)
  case atStart => exact ⟨0, 0, [], qv, sv, rfl, rfl, Lib.hid rfl, Nat.zero_le _, Lib.hid (by simpa [segs] using HM0.out.below hwb), Lib.hid ⟨by simpa using cps_nil l.length, by simp [plen]⟩, Lib.hid (by simpa [jpos] using own_made_uints M w.heap.size (by omega) w (Nat.le_refl _)), Lib.hid (Mod.of_below hwb)⟩
  case round =>
    obtain ⟨k, i, P, q1, s1, rfl, rfl, HIK, hk, HC, HP, HJ, HW⟩ := hrel
    have hik := HIK.out
    have hT2 := HT.out.mod HW.out
    have hR2 := HR.out.mod HW.out
    have c4r := hT2.cl
    have hMm := HN.out.2.1
    by_cases hlt : k < m
    · obtain ⟨a, b, hab, ha, hb⟩ := HGT.out k (by omega)
      have ca := HCL.out _ hR2 _ _ ha
      have cb := HCL.out _ hR2 _ _ hb
      rw [← hik] at ca cb
      have hpr := HOK.out (a, b) (List.mem_of_getElem? hab)
      have hiM : (i : Int) < (M : Int) := by omega
      have hi0 : (0 : Int) ≤ (i : Int) := by omega
      have hi1 : (i : Int) < (M : Int) + 2 := by omega
      have hi2 : (i : Int) + 1 < (M : Int) + 2 := by omega
      have hw1 : IntKind.i64.wrap ((i : Int) + 1) = (i : Int) + 1 := IntWalk.i64_in _ (by omega)
      have hw2 : IntKind.i64.wrap ((i : Int) + 2) = (i : Int) + 2 := IntWalk.i64_in _ (by omega)
      have hpl := HP.out.2
      obtain ⟨p0, hp0⟩ : ∃ p0, (l ++ segs 0 l.length P).length = p0 := ⟨_, rfl⟩
      obtain ⟨p1, hp1⟩ : ∃ p1, p1 = p0 + 1 := ⟨_, rfl⟩
      have e0 : p0 = l.length + plen P := by rw [← hp0, List.length_append, segs_len]
      have e1 : (l ++ segs 0 l.length P ++ [In.spl 0 0]).length = p1 := by rw [List.length_append, hp0, hp1]; rfl
      have hb0 : p0 ≤ l.length + 210000060 := by omega
      have HPS := Lib.hid (And.intro hp0 (And.intro hp1 (And.intro e0 (And.intro e1 (And.intro hab (And.intro hpr hik))))))
      have HT2 := Lib.hid hT2
      have HR2 := Lib.hid hR2
      clear hab ha hb hpr hpl hp0 hp1 e0 e1 hT2 hR2 hMm hik
      go_wp2_with fail
      refine (split_at HC.out HPS.out.1 (by have := HPS.out.1; omega)).mono ?_
      rintro e w1 ⟨rfl, hC1, hm1⟩
      have HC1 := Lib.hid hC1
      have HM1 := Lib.hid (TF.trans HW.out (TF.mono hm1 cE_cA))
      have HMa := Lib.hid (TF.mono hm1 cE_cA)
      clear hC1 hm1
      go_wp2_with fail
      refine (top_at HC1.out HPS.out.2.2.2.1).mono ?_
      rintro e w1' ⟨rfl, rfl⟩
      go_wp2_with fail
      refine (crange_ci base C gs ge _ _ a b _ _ HC1.out (glob_tf HG.out HM1.out hGb) hGb HPS.out.2.2.2.2.2.1.1 HPS.out.2.2.2.2.2.1.2.1 HPS.out.2.2.2.2.2.1.2.2 (by have := HPS.out.2.2.2.1; have := HPS.out.2.1; omega)).mono ?_
      rintro e w2 ⟨rfl, ⟨q2, s2, c, hC2, hok2, hrc2⟩, hm2⟩
      have hcl := hok2.len
      have hrz := rngZ_le b
      obtain ⟨p2, hp2⟩ : ∃ p2, p2 = p1 + c.length := ⟨_, rfl⟩
      obtain ⟨p3, hp3⟩ : ∃ p3, p3 = p2 + 1 := ⟨_, rfl⟩
      have e2 : (l ++ segs 0 l.length P ++ [In.spl 0 0] ++ c).length = p2 := by rw [List.length_append, HPS.out.2.2.2.1, hp2]
      have e3 : (l ++ segs 0 l.length P ++ [In.spl 0 0] ++ c ++ [In.jmp 0]).length = p3 := by rw [List.length_append, e2, hp3]; rfl
      have hb2 : p2 ≤ 49990000000 := by have := HPS.out.2.1; omega
      have HPT := Lib.hid (And.intro hp2 (And.intro hp3 (And.intro e2 (And.intro e3 (And.intro hok2 hcl)))))
      have HC2 := Lib.hid hC2
      have HM2 := Lib.hid (TF.trans HM1.out hm2)
      have HMb := Lib.hid (TF.trans HMa.out hm2)
      clear hC2 hm2 hok2 hrc2 hcl hrz hp2 hp3 e2 e3 HC1 HM1 HMa
      go_wp2_with fail
      refine (jump_at HC2.out HPT.out.2.2.1 (by have := HPT.out.2.2.1; omega)).mono ?_
      rintro e w3 ⟨rfl, hC3, hm3⟩
      have hmA3 := TF.mono hm3 cE_cA
      have hJ3 := own_tf HJ.out (TF.trans HMb.out hmA3) (by decide)
      have hm03 := TF.trans HM2.out hmA3
      have hb3 : w.heap.size ≤ w3.heap.size := hm03.size
      have HC3 := Lib.hid hC3
      have HM3 := Lib.hid hm03
      have HJ3 := Lib.hid hJ3
      clear hC3 hm3 hm03 hmA3 hJ3 HC2 HM2 HMb
      go_wp2_with (at_builtin; (refine wpList_append_one rfl (.tmp 68) (.tmp 71) 116 rfl w.heap.size 54 _ 1 8 Tryd.underlying116 Tryd.infoUint rfl (by decide) (by decide) _ _ _ rfl HJ3.out #[.int .u64 (p2 : Int)] _ _ rfl (by simp) rfl (by simp [Value.oneCell']) (by omega) hb3 ?_; intro ao5 cap5 w4 hown hgr hat; have hC4 := HC3.out.own HJ3.out hgr; have hm4 : Mod (TF cA base w) w w4 := HM3.out.step ((((Mod.refl (fun k => u5.ownBlock = some k) w3).alloc _).grown hgr fun k hk _ => hk)) (fun i hi e => by have := (HJ3.out.lt i e).1; omega); have HC4 := Lib.hid hC4; have HM4 := Lib.hid hm4; have HJ4 := Lib.hid hown; clear hC4 hm4 hown hgr hat))
      refine (top_at HC4.out HPT.out.2.2.2.1).mono ?_
      rintro e w4' ⟨rfl, rfl⟩
      go_wp2_with fail
      refine (setS_ci base C gs ge p0 p1 p3 _ _ _ (In.spl 0 0) _ HC4.out (by rw [← HPS.out.1]; exact get_seg _ ⟨c, Rng a b, rngN b, rngZ b⟩)).mono ?_
      rintro e w5 ⟨rfl, hC5, hm5⟩
      have HC5 := Lib.hid hC5
      have HM5 := Lib.hid (TF.trans HM4.out (TF.mono hm5 cE_cA))
      have HJ5 := Lib.hid (own_tf HJ4.out hm5 (by decide))
      clear hC5 hm5
      go_wp2_with fail
      refine ⟨?_, ?measure⟩
      (repeat apply Exists.intro)
      refine ⟨?rel, rfl⟩
      case rel =>
        obtain ⟨hp0, hp1, e0, e1, hab, hpr, hik⟩ := HPS.out
        obtain ⟨hp2, hp3, e2, e3, hok2, hcl⟩ := HPT.out
        have hrz := rngZ_le b
        have hsn : (prs rs).take (k + 1) = (prs rs).take k ++ [(a, b)] := take_get hab
        refine ⟨k + 1, i + 2, P ++ [⟨c, Rng a b, rngN b, rngZ b⟩], q2, s2, rfl, by go_num, Lib.hid (by omega), by omega, Lib.hid ?_, Lib.hid ⟨?_, ?_⟩, Lib.hid ?_, HM5⟩
        · have h9 := HC5.out
          have hx := put_seg' (l ++ segs 0 l.length P) ⟨c, Rng a b, rngN b, rngZ b⟩ p0 p1 p3 hp0 hp1 (by show p3 = p0 + c.length + 2; omega)
          rw [show (⟨c, Rng a b, rngN b, rngZ b⟩ : Pc).c = c from rfl] at hx
          rw [hx] at h9
          rw [segs_snoc, ← List.append_assoc, ← e0]
          exact h9
        · rw [hsn]
          refine HP.out.1.snoc ?_
          rw [← e0, ← hp1, ← e1]
          exact hok2
        · rw [plen_snoc]
          have := HP.out.2
          show plen P + (c.length + 2) ≤ _
          omega
        · rw [jpos_snoc, List.map_append]
          have h9 := HJ5.out
          rw [show l.length + plen P + (⟨c, Rng a b, rngN b, rngZ b⟩ : Pc).c.length + 1 = p2 by show l.length + plen P + c.length + 1 = p2; omega]
          exact h9
      case measure => simp [intOf]; omega
    · obtain rfl : m = k := by omega
      obtain ⟨a, b, hab, ha, hb⟩ := HGT.out m (by omega)
      have hpr := HOK.out (a, b) (List.mem_of_getElem? hab)
      have ca := HCL.out _ hR2 _ _ ha
      have cb := HCL.out _ hR2 _ _ hb
      rw [← hMm] at ca cb
      have hiM : i = M := by omega
      have hw1 : IntKind.i64.wrap ((M : Int) + 1) = (M : Int) + 1 := IntWalk.i64_in _ (by omega)
      have hpl := HP.out.2
      obtain ⟨p0, hp0⟩ : ∃ p0, (l ++ segs 0 l.length P).length = p0 := ⟨_, rfl⟩
      have e0 : p0 = l.length + plen P := by rw [← hp0, List.length_append, segs_len]
      have hCd := fun n => HC.out.below (below_draws wr n)
      have hWd : ∀ n, Mod (TF cA base w) w (wr.drewN n) := fun n => TF.trans HW.out (Mod.of_below (below_draws wr n))
      have hJd := fun n => ownsRow_below HJ.out (below_draws wr n) (fun k hk => (HJ.out.lt k hk).2)
      obtain ⟨jo, jc, hju⟩ := ownsRow_form HJ.out
      have HPS := Lib.hid (And.intro hp0 (And.intro e0 (And.intro hab (And.intro hpr hpl))))
      have HCD := Lib.hid hCd
      have HWD := Lib.hid hWd
      have HJD := Lib.hid hJd
      subst hiM
      clear hab ha hb hpr hpl hp0 e0 hT2 hR2 hMm hik HIK hCd hWd hJd HC HW HJ
      have hi1 : (i : Int) < (i : Int) + 2 := by omega
      have hi2 : (i : Int) + 1 < (i : Int) + 2 := by omega
      have hi0 : (0 : Int) ≤ (i : Int) := by omega
      have hi3 : (0 : Int) ≤ (i : Int) + 1 := by omega
      go_wp2_with fail
      go_quiet (fail)
      go_wp2_with fail
      go_quiet (fail)
      go_wp2_with fail
      refine (crange_ci base C gs ge _ _ a b _ _ (HCD.out _) (glob_tf HG.out (HWD.out _) hGb) hGb HPS.out.2.2.2.1.1 HPS.out.2.2.2.1.2.1 HPS.out.2.2.2.1.2.2 (by have := HPS.out.1; have := HPS.out.2.1; have := HPS.out.2.2.2.2; omega)).mono ?_
      rintro e w2 ⟨rfl, ⟨q2, s2, c, hC2, hok2, hrc2⟩, hm2⟩
      have hJ2 := own_tf (HJD.out _) hm2 (by decide)
      obtain ⟨p2, hp2⟩ : ∃ p2, p2 = p0 + c.length := ⟨_, rfl⟩
      have e2 : (l ++ segs 0 l.length P ++ c).length = p2 := by rw [List.length_append, HPS.out.1, hp2]
      have hC6 : CI w2 base C gs ge q2 s2 (half l p2 0 P c) := by rw [half_zero]; exact hC2
      have HPT := Lib.hid (And.intro hp2 (And.intro e2 (And.intro hok2 hrc2)))
      clear hrc2
      have HC2 := Lib.hid hC2
      have HC6 := Lib.hid hC6
      have HM2 := Lib.hid (TF.trans (HWD.out _) hm2)
      have HJ2 := Lib.hid hJ2
      clear hC2 hm2 hok2 hp2 e2 hC6 hJ2 HCD HWD HJD
      go_wp2_with fail
      refine (top_at HC2.out HPT.out.2.1).mono ?_
      rintro e w2' ⟨rfl, rfl⟩
      subst hju
      clear HC2 ca cb
      go_wp2_with fail
      go_loopw [18, 115] (fun _ ix wr => ∃ j : Nat, ix = .int .i64 j ∧ j ≤ m ∧ Hid (CI wr base C gs ge q2 s2 (half l p2 j P c)) ∧ Hid (Mod (TF cE base w2) w2 wr)) (fun _ ix _ => m - (intOf ix).toNat)
      case atStart => exact ⟨0, rfl, Nat.zero_le _, HC6, Lib.hid (Mod.refl _ _)⟩
      case round =>
        clear HC6
        rename World => w3
        obtain ⟨j, rfl, hj, HC, HW⟩ := hrel
        have hPl : P.length = m := by rw [HP.out.1.len, List.length_take]; have := HN.out.2.2; omega
        by_cases hlt2 : j < m
        · obtain ⟨x, hx⟩ : ∃ x, P[j]? = some x := ⟨_, List.getElem?_eq_getElem (by omega)⟩
          have hjp := jpos_at P l.length j x hx
          obtain ⟨A, B, hA, hh1, hh2⟩ := half_split l p2 j P c x hx
          have hrr := own_tf HJ2.out HW.out (by decide)
          obtain ⟨jb, joff, jcap, z, ejo, hz, hcz⟩ := Reads.one uV (reads_of_owns hrr) hlt2
          cases ejo
          rw [hjp] at hz
          obtain rfl := Option.some.inj hz
          obtain ⟨pj, hpj⟩ : ∃ pj, pj = l.length + plen (P.take j) + x.c.length + 1 := ⟨_, rfl⟩
          rw [← hpj] at hcz
          have hcz' : w3.cell? ⟨jb, joff + j, none⟩ = some (.int .u64 (pj : Int)) := hcz
          have hset := setJ_ci base C gs ge pj p2 _ _ _ (In.jmp 0) w3 HC.out (by rw [hh1]; exact get_mid _ _ _ _ (by omega))
          have HST := Lib.hid hset
          have HHH := Lib.hid (And.intro hh1 (And.intro hh2 (And.intro hA hpj)))
          clear hx hjp hA hh1 hh2 hrr hz hpj hcz hset hPl
          go_wp2_with fail
          refine HST.out.mono ?_
          rintro e w7 ⟨rfl, hC7, hm7⟩
          have HC7 := Lib.hid hC7
          have HM7 := Lib.hid (TF.trans HW.out hm7)
          clear hC7 hm7 HST
          go_wp2_with fail
          go_roundw
          case rel =>
            refine ⟨j + 1, by go_num, by omega, Lib.hid ?_, HM7⟩
            obtain ⟨hh1, hh2, hA, hpj⟩ := HHH.out
            have h9 := HC7.out
            rw [hh1, set_mid _ _ _ _ _ (by omega)] at h9
            rw [hh2]
            exact h9
          case measure => simp [intOf]; omega
        · obtain rfl : m = j := by omega
          go_wp2_with fail
          go_ret
          obtain ⟨hp2, e2, hok2, hrc2⟩ := HPT.out
          obtain ⟨hp0, e0, hab, hpr, hpl⟩ := HPS.out
          have h9 := HC.out
          rw [← hPl, half_all] at h9
          have hpr2 : prs rs = (prs rs).take m ++ [(a, b)] := by
            have := take_get hab
            rwa [List.take_of_length_le (by have := HN.out.2.2; omega)] at this
          rw [hp0] at hok2
          have hfin := HP.out.1.fin (p := (a, b)) (c := c) (by rw [← e0]; exact hok2) hpr2
          rw [← e0, ← hp2] at hfin
          refine ⟨rfl, ⟨_, _, _, h9, hfin, fun hm0 => ⟨a, b, by rw [hpr2, hm0]; rfl, ?_⟩⟩, TF.trans HM2.out (TF.mono HW.out cE_cA)⟩
          have hP0 : P = [] := List.eq_nil_of_length_eq_zero (by omega)
          subst hP0
          rw [hp0, e0] at hrc2
          simpa [segs, plen] using hrc2
end Go.Proofs.YtnpchkohfomagaaDoor.Rgw
