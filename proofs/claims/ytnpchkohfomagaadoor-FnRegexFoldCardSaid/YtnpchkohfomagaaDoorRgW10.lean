/- The compiler of expressions: c at an alternative. -/
import Derived.Test.YtnpchkohfomagaaDoorRgWb
namespace Go.Proofs.YtnpchkohfomagaaDoor.Rgw
open Go.ChangeShapes Go.WideShapes Go.ChangeAt Go.RowKit Go.Trav Go.Rg Go.Proofs.YtnpchkohfomagaaDoor.Seq Go.Utf Go.Proofs.YtnpchkohfomagaaDoor.Sparse
set_option linter.unusedVariables false
set_option linter.unusedSimpArgs false
set_option maxRecDepth 100000
/-- The pieces are those of the first parts. -/
structure Aps (d q : Nat) (ts : List Tr) (P : List Pc) : Prop where
  ok : PcsOk q P
  len : P.length = ts.length
  at_ : ∀ (i : Nat) x p, P[i]? = some x → ts[i]? = some p → x.L = lang d p ∧ x.n = places d p ∧ x.z = size d p
theorem Aps.snoc {d q : Nat} {ts : List Tr} {P : List Pc} {p : Tr} {c : List In} (h : Aps d q ts P) (hc : Ok (lang d p) (places d p) (size d p) (q + plen P + 1) c) : Aps d q (ts ++ [p]) (P ++ [⟨c, lang d p, places d p, size d p⟩]) := by
  refine ⟨h.ok.snoc hc, by simp [h.len], fun i x r hx hr => ?_⟩
  by_cases hi : i < P.length
  · rw [List.getElem?_append_left hi] at hx
    rw [List.getElem?_append_left (by rw [← h.len]; exact hi)] at hr
    exact h.at_ i x r hx hr
  · rw [List.getElem?_append_right (by omega)] at hx
    have : i = P.length := by have := (List.getElem?_eq_some_iff.mp hx).1; simp at this; omega
    subst this
    rw [h.len] at hr
    simp at hx hr
    subst hx hr
    exact ⟨rfl, rfl, rfl⟩
theorem Aps.sums {d : Nat} : ∀ (P : List Pc) (ts : List Tr), P.length = ts.length → (∀ (i : Nat) x p, P[i]? = some x → ts[i]? = some p → x.L = lang d p ∧ x.n = places d p ∧ x.z = size d p) →
    (P.map Pc.n).sum = (ts.map (places d)).sum ∧ (P.map fun x => x.z + 2).sum = (ts.map fun x => size d x + 2).sum ∧ ∀ s, (∃ x ∈ P, x.L s) ↔ ∃ t ∈ ts, lang d t s := by
  intro P
  induction P with
  | nil => intro ps h _; cases ps with
    | nil => simp
    | cons p r => simp at h
  | cons x P ih =>
    intro ps h hat
    cases ps with
    | nil => simp at h
    | cons p r =>
      obtain ⟨h1, h2, h3⟩ := ih r (by simpa using h) fun i y q hy hq => hat (i + 1) y q (by simpa using hy) (by simpa using hq)
      obtain ⟨a1, a2, a3⟩ := hat 0 x p rfl rfl
      refine ⟨by simp [h1, a2], by simp [h2, a3], fun s => ?_⟩
      simp only [List.mem_cons, exists_eq_or_imp, h3 s, a1]
/-- An alternative whole. -/
theorem Aps.fin {d q : Nat} {ts : List Tr} {P : List Pc} {p : Tr} {c : List In} (h : Aps d q ts P) (hc : Ok (lang d p) (places d p) (size d p) (q + plen P) c) :
    Ok (fun s => ∃ t ∈ ts ++ [p], lang d t s) (((ts ++ [p]).map (places d)).sum) (((ts ++ [p]).map fun x => size d x + 2).sum) q (segs (q + plen P + c.length) q P ++ c) := by
  obtain ⟨h1, h2, h3⟩ := Aps.sums P ts h.len h.at_
  have ho := Ok.alts P q h.ok hc
  refine (ho.more ?_ ?_).congr fun s => ?_
  · simp [h1]
  · simp [h2]
  · rw [h3 s]
    constructor
    · rintro (⟨x, hx, hs⟩ | hs)
      · exact ⟨x, by simp [hx], hs⟩
      · exact ⟨p, by simp, hs⟩
    · rintro ⟨x, hx, hs⟩
      rcases List.mem_append.mp hx with hx | hx
      · exact Or.inl ⟨x, hx, hs⟩
      · simp at hx; subst hx; exact Or.inr hs
section
variable {base C gs ge : Nat} {ad : Nat → Addr} {d tb : Nat} {t : Tr} {l : List In} {qv sv : Value} {w : World}
set_option maxHeartbeats 8000000 in
theorem c_alt (IH : CSpec base C gs ge ad d) (hW : WF (d + 1) t) (hE : Env w base ad) (hM : CI w base C gs ge qv sv l) (hA : AstAt w (d + 1) t tb) (hl : l.length + size (d + 1) t ≤ 40000000000) (hz : t.lazy = false) (ho : t.op = 19) :
    Calls Tryd.prog 64 #[.pointer (some ⟨C, 0, none⟩), .pointer (some ⟨tb, 0, none⟩)] w (CPost base C gs ge ad (d + 1) t l w) := by
  obtain ⟨c0, c1⟩ := hA.cells
  have hf : flg t = 0 := by simp [flg, hz]
  rw [hf] at c1
  rw [ho] at c0
  obtain ⟨hne, hwf, h100⟩ := hW.2.2.2.2.2.2.2 (by omega)
  have hsz : size (d + 1) t = (t.subs.map fun x => size d x + 2).sum := by simp [size, ho]
  have hpl : places (d + 1) t = (t.subs.map (places d)).sum := by simp [places, ho]
  have hla : ∀ s, lang (d + 1) t s ↔ ∃ x ∈ t.subs, lang d x s := fun s => by
    simp only [lang, ho]
    simp only [List.mem_map]
    constructor
    · rintro ⟨L, ⟨x, h1, rfl⟩, h2⟩; exact ⟨x, h1, h2⟩
    · rintro ⟨x, h1, h2⟩; exact ⟨_, ⟨x, h1, rfl⟩, h2⟩
  have hbm := bad_many (d := d) (t := t) (by omega) hz
  obtain ⟨sv0, bs, hS⟩ := hA.subs
  obtain ⟨sa, scap, rfl⟩ := hS.rd.form
  have hbl := hS.len
  rw [hbl] at hS
  obtain ⟨m, hm⟩ : ∃ m, t.subs.length = m + 1 := by
    cases e : t.subs with
    | nil => exact absurd e hne
    | cons a r => exact ⟨r.length, rfl⟩
  obtain ⟨ts, x0, hts⟩ : ∃ ts x0, t.subs = ts ++ [x0] := by
    rcases List.eq_nil_or_concat t.subs with e | ⟨i, x, e⟩
    · exact absurd e hne
    · exact ⟨i, x, by simpa [List.concat_eq_append] using e⟩
  have htl : ts.length = m := by rw [hts] at hm; simp at hm; exact hm
  rw [hm] at hS
  have c2 := hS.cl.cl
  have hmk := fun W => make_uints m (by omega) W
  have hm100 : m ≤ 100 := by omega
  have hwm : IntKind.i64.wrap (m : Int) = (m : Int) := IntWalk.i64_in _ (by omega)
  have HB := Lib.hid (And.intro hwf (And.intro hsz (And.intro hpl (And.intro hla (And.intro hbm (And.intro hl (And.intro hts htl)))))))
  have HE := Lib.hid hE
  have HM := Lib.hid hM
  have HS := Lib.hid hS
  have HI := Lib.hid IH
  have hbase := hM.base_le
  have hz1 : (((m : Int) + 1) == 0) = false := beq_eq_false_iff_ne.2 (by omega)
  clear IH hW hE hM hA hz ho hf hwf hsz hpl hla hbm hS hne hbl hm hts htl h100 hl
  go_enter Tryd.func64, Tryd.ntmps64
  go_wp2_with fail
  have hwb : Below w.heap.size w (w.alloc (.cells (madeCells #[.int .u64 0] m) 54)) := (Below.refl _ _).alloc (Nat.le_refl _) _
  go_loopw [4, 16, 17, 18, 19, 20, 21, 22] (fun ev jv ix _ _ _ _ _ wr => ∃ (k : Nat) (P : List Pc) (q1 s1 : Value), ev = .nilIface ∧ ix = .int .i64 (k : Int) ∧ k ≤ m ∧ Hid (CI wr base C gs ge q1 s1 (l ++ segs 0 l.length P)) ∧ Hid (Aps d l.length (ts.take k) P ∧ plen P ≤ ((ts.take k).map fun x => size d x + 2).sum) ∧ Hid (wr.ownsRow w.heap.size 54 1 jv k ((jpos l.length P).map uV)) ∧ Hid (∀ y ∈ ts.take k, bad d y = none) ∧ Hid (Mod (TF cA base w) w wr)) (fun _ _ ix _ _ _ _ _ _ => m - (intOf ix).toNat)
  case atStart => exact ⟨0, [], qv, sv, rfl, rfl, Nat.zero_le _, Lib.hid (by simpa [segs] using HM.out.below hwb), Lib.hid ⟨⟨pcs_nil _, rfl, by intro i x p h; simp at h⟩, by simp [plen]⟩, Lib.hid (by simpa [jpos] using own_made_uints m w.heap.size (by omega) w (Nat.le_refl _)), Lib.hid (by simp), Lib.hid (Mod.of_below hwb)⟩
  case round =>
    obtain ⟨k, P, q1, s1, rfl, rfl, hk, HC, HP, HJ, HN, HW⟩ := hrel
    have hS2 := HS.out.mod HW.out
    have c2r := hS2.cl.cl
    by_cases hlt : k < m
    · have hsb := HB.out.2.2.2.2.2.2.1
      have htl := HB.out.2.2.2.2.2.2.2
      obtain ⟨s, hs⟩ : ∃ s, ts[k]? = some s := ⟨_, List.getElem?_eq_getElem (by omega)⟩
      have hs2 : t.subs[k]? = some s := by rw [hsb, List.getElem?_append_left (by omega)]; exact hs
      obtain ⟨g, o, b, rfl, hjunk, hcl, hjunk2⟩ := hS2.get hs2
      clear hjunk hjunk2
      have hlen : ((ts.take k).map fun x => size d x + 2).sum + (size d s + 2) ≤ ((ts ++ [x0]).map fun x => size d x + 2).sum := by
        have := sum_take_get (f := fun x => size d x + 2) _ _ _ hs
        rw [List.map_append, List.sum_append]
        simp only [List.map_cons, List.map_nil, List.sum_cons, List.sum_nil]
        omega
      have hszz := HB.out.2.1
      rw [hsb] at hszz
      have hl2 := HB.out.2.2.2.2.2.1
      obtain ⟨p0, hp0⟩ : ∃ p0, (l ++ segs 0 l.length P).length = p0 := ⟨_, rfl⟩
      obtain ⟨p1, hp1⟩ : ∃ p1, p1 = p0 + 1 := ⟨_, rfl⟩
      have e0 : p0 = l.length + plen P := by rw [← hp0, List.length_append, segs_len]
      have e1 : (l ++ segs 0 l.length P ++ [In.spl 0 0]).length = p1 := by rw [List.length_append, hp0, hp1]; rfl
      have hpp := HP.out.2
      have hb0 : p0 + size d s + 2 ≤ 40000000000 := by omega
      have hwf := HB.out.1 s (by rw [hsb]; exact List.mem_append_left _ (List.mem_of_getElem? hs))
      have HPS := Lib.hid (And.intro hp0 (And.intro hp1 (And.intro e0 (And.intro e1 (And.intro hs (And.intro hs2 (And.intro hlen (And.intro hb0 (And.intro hwf hszz)))))))))
      clear hsb htl hs hs2 hlen hszz hl2 hp0 hp1 e0 e1 hpp hwf hS2
      go_wp2_with fail
      refine (split_at HC.out HPS.out.1 (by have := HPS.out.1; omega)).mono ?_
      rintro e w1 ⟨rfl, hC1, hm1⟩
      have HC1 := Lib.hid hC1
      have HMa := Lib.hid (TF.mono hm1 cE_cA)
      have HM1 := Lib.hid (TF.trans HW.out (TF.mono hm1 cE_cA))
      clear hC1 hm1
      go_wp2_with fail
      refine (top_at HC1.out HPS.out.2.2.2.1).mono ?_
      rintro e w1' ⟨rfl, rfl⟩
      obtain ⟨g', o', b', eg, hjunk, hcl', hast⟩ := (HS.out.mod HW.out).get HPS.out.2.2.2.2.2.1
      clear hjunk
      cases eg
      rw [hcl] at hcl'
      cases hcl'
      have hcall := HI.out s b _ q1 s1 w1 HPS.out.2.2.2.2.2.2.2.2.1 (HE.out.mod HM1.out) HC1.out (AstAt.mod HMa.out _ _ _ hast) (by have := HPS.out.2.2.2.1; have := HPS.out.2.1; omega)
      have HCC := Lib.hid hcall
      clear hcall hast
      go_wp2_with fail
      refine HCC.out.mono ?_
      rintro e w2 ⟨⟨rfl, hbad, q2, s2, c, hC2, hok2⟩ | ⟨kk, rfl, hkk⟩, hm2⟩
      · obtain ⟨p2, hp2⟩ : ∃ p2, p2 = p1 + c.length := ⟨_, rfl⟩
        obtain ⟨p3, hp3⟩ : ∃ p3, p3 = p2 + 1 := ⟨_, rfl⟩
        have e2 : (l ++ segs 0 l.length P ++ [In.spl 0 0] ++ c).length = p2 := by rw [List.length_append, HPS.out.2.2.2.1, hp2]
        have e3 : (l ++ segs 0 l.length P ++ [In.spl 0 0] ++ c ++ [In.jmp 0]).length = p3 := by rw [List.length_append, e2, hp3]; rfl
        have hcl9 := hok2.len
        have hb2 : p2 ≤ 49990000000 := by have := HPS.out.2.1; omega
        have HPT := Lib.hid (And.intro hp2 (And.intro hp3 (And.intro e2 (And.intro e3 (And.intro hok2 (And.intro hcl9 hbad))))))
        have HC2 := Lib.hid hC2
        have HM2 := Lib.hid (TF.trans HM1.out hm2)
        have HMb := Lib.hid (TF.trans HMa.out hm2)
        clear hC2 hm2 hok2 hcl9 hp2 hp3 e2 e3 HC1 HM1 HMa HCC hbad
        go_wp2_with fail
        refine (jump_at HC2.out HPT.out.2.2.1 (by have := HPT.out.2.2.1; omega)).mono ?_
        rintro e w3 ⟨rfl, hC3, hm3⟩
        have hmA3 := TF.mono hm3 cE_cA
        have hJ3 := own_tf HJ.out (TF.trans HMb.out hmA3) (by decide)
        have hm03 := TF.trans HM2.out hmA3
        have hb3 : w.heap.size ≤ w3.heap.size := hm03.size
        have HC3 := Lib.hid hC3
        have HM3 := Lib.hid hm03
        have HJ3 := Lib.hid hJ3
        clear hC3 hm3 hm03 hmA3 hJ3 HC2 HM2 HMb
        go_wp2_with (at_builtin; (refine wpList_append_one rfl (.tmp 269) (.tmp 272) 116 rfl w.heap.size 54 _ 1 8 Tryd.underlying116 Tryd.infoUint rfl (by decide) (by decide) _ _ _ rfl HJ3.out #[.int .u64 (p2 : Int)] _ _ rfl (by simp) rfl (by simp [Value.oneCell']) (by omega) hb3 ?_; intro ao5 cap5 w4 hown hgr hat; have hC4 := HC3.out.own HJ3.out hgr; have hm4 : Mod (TF cA base w) w w4 := HM3.out.step ((((Mod.refl (fun k => u16.ownBlock = some k) w3).alloc _).grown hgr fun k hk _ => hk)) (fun i hi e => by have := (HJ3.out.lt i e).1; omega); have HC4 := Lib.hid hC4; have HM4 := Lib.hid hm4; have HJ4 := Lib.hid hown; clear hC4 hm4 hown hgr hat))
        refine (top_at HC4.out HPT.out.2.2.2.1).mono ?_
        rintro e w4' ⟨rfl, rfl⟩
        go_wp2_with fail
        refine (setS_ci base C gs ge p0 p1 p3 _ _ _ (In.spl 0 0) _ HC4.out (by rw [← HPS.out.1]; exact get_seg _ ⟨c, lang d s, places d s, size d s⟩)).mono ?_
        rintro e w5 ⟨rfl, hC5, hm5⟩
        have HC5 := Lib.hid hC5
        have HM5 := Lib.hid (TF.trans HM4.out (TF.mono hm5 cE_cA))
        have HJ5 := Lib.hid (own_tf HJ4.out hm5 (by decide))
        clear hC5 hm5
        go_wp2_with fail
        go_roundw
        case rel =>
          obtain ⟨hp0, hp1, e0, e1, hs, hs2, hlen, hb0, hwf, hszz⟩ := HPS.out
          obtain ⟨hp2, hp3, e2, e3, hok2, hcl9, hbad⟩ := HPT.out
          have hsn : ts.take (k + 1) = ts.take k ++ [s] := take_get hs
          refine ⟨k + 1, P ++ [⟨c, lang d s, places d s, size d s⟩], q2, s2, rfl, by go_num, by omega, Lib.hid ?_, Lib.hid ⟨?_, ?_⟩, Lib.hid ?_, Lib.hid ?_, HM5⟩
          · have h9 := HC5.out
            have hx := put_seg' (l ++ segs 0 l.length P) ⟨c, lang d s, places d s, size d s⟩ p0 p1 p3 hp0 hp1 (by show p3 = p0 + c.length + 2; omega)
            rw [show (⟨c, lang d s, places d s, size d s⟩ : Pc).c = c from rfl] at hx
            rw [hx] at h9
            rw [segs_snoc, ← List.append_assoc, ← e0]
            exact h9
          · rw [hsn]
            refine HP.out.1.snoc ?_
            rw [← e0, ← hp1, ← e1]
            exact hok2
          · rw [plen_snoc, hsn, List.map_append, List.sum_append]
            have := HP.out.2
            show plen P + (c.length + 2) ≤ _
            simp only [List.map_cons, List.map_nil, List.sum_cons, List.sum_nil]
            omega
          · rw [jpos_snoc, List.map_append]
            have h9 := HJ5.out
            rw [show l.length + plen P + (⟨c, lang d s, places d s, size d s⟩ : Pc).c.length + 1 = p2 by show l.length + plen P + c.length + 1 = p2; omega]
            exact h9
          · intro y hy
            rw [hsn] at hy
            rcases List.mem_append.mp hy with h | h
            · exact HN.out y h
            · simp at h; subst h; exact hbad
        case measure => simp [intOf]; omega
      · have HF := Lib.hid (show CPost base C gs ge ad (d + 1) t l w (.returned (.iface 211 (.pointer (some (ad kk))))) w2 from .fail (by
          obtain ⟨hwf, hsz, hpl, hla, hbm, hl, hts, htl⟩ := HB.out
          obtain ⟨hp0, hp1, e0, e1, hs, hs2, hlen, hb0, hwf', hszz⟩ := HPS.out
          have hpp := HP.out.2
          rw [hbm, hszz]
          rcases hkk with h | ⟨h1, h2⟩
          · refine Or.inl (find_at _ _ _ _ hs2 h ?_)
            rw [hts, List.take_append_of_le_length (by omega)]
            exact HN.out
          · exact Or.inr ⟨h1, by rw [e1] at h2; omega⟩) (TF.trans HM1.out hm2))
        clear hkk hm2
        go_wp2_with fail
        go_ret
        exact HF.out
    · obtain rfl : k = m := by omega
      have hsb := HB.out.2.2.2.2.2.2.1
      have htl := HB.out.2.2.2.2.2.2.2
      have htk : ts.take k = ts := List.take_of_length_le (by omega)
      rw [htk] at HP HN
      have hs2 : t.subs[k]? = some x0 := by rw [hsb, List.getElem?_append_right (by omega)]; simp [htl]
      have hbd : Below wr.heap.size wr wr.drew := (Below.refl _ _).drew
      have hWd : Mod (TF cA base w) w wr.drew := TF.trans HW.out (Mod.of_below hbd)
      obtain ⟨g, o, b, rfl, hjunk, hcl, hast⟩ := (HS.out.mod hWd).get hs2
      clear hjunk
      have hclw : wr.cell? ⟨g, o + k, none⟩ = some (.pointer (some ⟨b, 0, none⟩)) := hcl
      obtain ⟨p0, hp0⟩ : ∃ p0, (l ++ segs 0 l.length P).length = p0 := ⟨_, rfl⟩
      have e0 : p0 = l.length + plen P := by rw [← hp0, List.length_append, segs_len]
      have hpp := HP.out.2
      have hszz := HB.out.2.1
      rw [hsb, List.map_append, List.sum_append] at hszz
      simp only [List.map_cons, List.map_nil, List.sum_cons, List.sum_nil] at hszz
      have hl2 := HB.out.2.2.2.2.2.1
      have hb0 : p0 + size d x0 + 2 ≤ 40000000000 := by omega
      have hwf := HB.out.1 x0 (by rw [hsb]; simp)
      have hcall := HI.out x0 b _ q1 s1 wr.drew hwf (HE.out.mod hWd) (HC.out.below hbd) hast (by omega)
      have HCC := Lib.hid hcall
      have HJD := Lib.hid (ownsRow_below HJ.out hbd (fun k hk => (HJ.out.lt k hk).2))
      have HWD := Lib.hid hWd
      have HPS := Lib.hid (And.intro hp0 (And.intro e0 (And.intro hpp (And.intro hszz (And.intro hb0 hs2)))))
      obtain ⟨jo, jc, hju⟩ := ownsRow_form HJ.out
      have hi0 : (0 : Int) ≤ (k : Int) := by omega
      have hi1 : (k : Int) < (k : Int) + 1 := by omega
      clear hsb htl htk hs2 hbd hWd hcl hast hp0 e0 hpp hszz hl2 hb0 hwf hcall hS2 HC HJ HW
      go_wp2_with fail
      go_still_tail 13, (by kernel_rfl)
      change wpList _ _ _ _ _ wr.drew
      go_wp2_with fail
      refine HCC.out.mono ?_
      rintro e w2 ⟨⟨rfl, hbad, q2, s2, c, hC2, hok2⟩ | ⟨kk, rfl, hkk⟩, hm2⟩
      · obtain ⟨p2, hp2⟩ : ∃ p2, p2 = p0 + c.length := ⟨_, rfl⟩
        have e2 : (l ++ segs 0 l.length P ++ c).length = p2 := by rw [List.length_append, HPS.out.1, hp2]
        have hC6 : CI w2 base C gs ge q2 s2 (half l p2 0 P c) := by rw [half_zero]; exact hC2
        obtain ⟨ao, cp, k4⟩ := hC2.c1
        rw [e2] at k4
        have hcl9 := hok2.len
        have hb2 : p2 ≤ 49990000000 := by have := HPS.out.2.2.2.2.1; omega
        have hwp : IntKind.u64.wrap (p2 : Int) = (p2 : Int) := IntWalk.u64_in _ (by omega)
        have HPT := Lib.hid (And.intro hp2 (And.intro e2 (And.intro hok2 hbad)))
        have HC6 := Lib.hid hC6
        have HJ2 := Lib.hid (own_tf HJD.out hm2 (by decide))
        have HM2 := Lib.hid (TF.trans HWD.out hm2)
        subst hju
        clear hC2 hm2 hok2 hp2 e2 hC6 hcl9 HCC HJD HWD hbad hclw
        go_wp2_with fail
        go_loopw [26, 306] (fun _ ix wr => ∃ j : Nat, ix = .int .i64 (j : Int) ∧ j ≤ k ∧ Hid (CI wr base C gs ge q2 s2 (half l p2 j P c)) ∧ Hid (Mod (TF cE base w2) w2 wr)) (fun _ ix _ => k - (intOf ix).toNat)
        case atStart => exact ⟨0, rfl, Nat.zero_le _, HC6, Lib.hid (Mod.refl _ _)⟩
        case round =>
          clear HC6
          rename World => w3
          obtain ⟨j, rfl, hj, HC, HW⟩ := hrel
          have hPl : P.length = k := by rw [HP.out.1.len]; exact HB.out.2.2.2.2.2.2.2
          by_cases hlt2 : j < k
          · obtain ⟨x, hx⟩ : ∃ x, P[j]? = some x := ⟨_, List.getElem?_eq_getElem (by omega)⟩
            have hjp := jpos_at P l.length j x hx
            obtain ⟨A, B, hA, hh1, hh2⟩ := half_split l p2 j P c x hx
            have hrr := own_tf HJ2.out HW.out (by decide)
            obtain ⟨jb, joff, jcap, z, ejo, hz, hcz⟩ := Reads.one uV (reads_of_owns hrr) hlt2
            cases ejo
            rw [hjp] at hz
            obtain rfl := Option.some.inj hz
            obtain ⟨pj, hpj⟩ : ∃ pj, pj = l.length + plen (P.take j) + x.c.length + 1 := ⟨_, rfl⟩
            rw [← hpj] at hcz
            have hcz' : w3.cell? ⟨jb, joff + j, none⟩ = some (.int .u64 (pj : Int)) := hcz
            have hset := setJ_ci base C gs ge pj p2 _ _ _ (In.jmp 0) w3 HC.out (by rw [hh1]; exact get_mid _ _ _ _ (by omega))
            have HST := Lib.hid hset
            have HHH := Lib.hid (And.intro hh1 (And.intro hh2 (And.intro hA hpj)))
            clear hx hjp hA hh1 hh2 hrr hz hpj hcz hset hPl
            go_wp2_with fail
            refine HST.out.mono ?_
            rintro e w7 ⟨rfl, hC7, hm7⟩
            have HC7 := Lib.hid hC7
            have HM7 := Lib.hid (TF.trans HW.out hm7)
            clear hC7 hm7 HST
            go_wp2_with fail
            go_roundw
            case rel =>
              refine ⟨j + 1, by go_num, by omega, Lib.hid ?_, HM7⟩
              obtain ⟨hh1, hh2, hA, hpj⟩ := HHH.out
              have h9 := HC7.out
              rw [hh1, set_mid _ _ _ _ _ (by omega)] at h9
              rw [hh2]
              exact h9
            case measure => simp [intOf]; omega
          · obtain rfl : j = k := by omega
            have hck : Calls Tryd.prog 81 #[.pointer (some ⟨C, 0, none⟩)] w3 (CPost base C gs ge ad (d + 1) t l w) := by
              obtain ⟨hwf, hsz, hpl, hla, hbm, hl, hts, htl⟩ := HB.out
              obtain ⟨hp2, e2, hok2, hbad⟩ := HPT.out
              obtain ⟨hp0, e0, hpp, hszz, hb0, hs2⟩ := HPS.out
              have h9 := HC.out
              rw [← hPl, half_all] at h9
              have hmm := TF.trans HM2.out (TF.mono HW.out cE_cA)
              rw [hp0, e0] at hok2
              have hfin := HP.out.1.fin (p := x0) hok2
              rw [← hts, ← e0, ← hp2] at hfin
              refine check_post (HE.out.mod hmm) ?_ h9 ?_ hmm hl
              · rw [hbm]
                refine find_none _ fun y hy => ?_
                rw [hts] at hy
                rcases List.mem_append.mp hy with h | h
                · exact HN.out y h
                · simp at h; subst h; exact hbad
              · rw [hsz, hpl]
                exact hfin.congr fun z => (hla z).symm
            have HCK := Lib.hid hck
            clear hck hPl
            go_wp2_with fail
            refine HCK.out.mono ?_
            intro e w' hp
            obtain ⟨v, rfl⟩ := hp.ret
            have HPP := Lib.hid hp
            clear hp HCK
            go_wp2_with fail
            go_ret
            exact HPP.out
      · have HF := Lib.hid (show CPost base C gs ge ad (d + 1) t l w (.returned (.iface 211 (.pointer (some (ad kk))))) w2 from .fail (by
          obtain ⟨hwf, hsz, hpl, hla, hbm, hl, hts, htl⟩ := HB.out
          obtain ⟨hp0, e0, hpp, hszz, hb0, hs2⟩ := HPS.out
          rw [hbm, hszz]
          rcases hkk with h | ⟨h1, h2⟩
          · refine Or.inl (find_at _ _ _ _ hs2 h ?_)
            rw [hts, List.take_append_of_le_length (by omega), List.take_of_length_le (by omega)]
            exact HN.out
          · exact Or.inr ⟨h1, by rw [hp0] at h2; omega⟩) (TF.trans HWD.out hm2))
        clear hkk hm2
        go_wp2_with fail
        go_ret
        exact HF.out
end
end Go.Proofs.YtnpchkohfomagaaDoor.Rgw
