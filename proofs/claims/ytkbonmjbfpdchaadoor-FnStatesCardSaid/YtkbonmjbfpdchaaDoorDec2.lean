/- The decoder: atMulti. -/
import Derived.Test.YtkbonmjbfpdchaaDoorDec2a
namespace Go.Proofs.YtkbonmjbfpdchaaDoor.Dec
open Go.ChangeShapes Go.WideShapes Go.ChangeAt Go.RowKit Go.Trav Go.Pk Go.Dec Go.Proofs.YtkbonmjbfpdchaaDoor.PkS
set_option linter.unusedVariables false
set_option linter.unusedSimpArgs false
set_option maxRecDepth 100000
set_option maxHeartbeats 4000000 in
theorem atM_any (S o : Nat) (dv : Value) (D : List Nat) (top b1 s0 n ts os : Nat) (f : Bool) (w : World) (hc : Cs w S o (cM dv top top 0 0 0 false 0 0 0 0 0 0 0)) (hD : Reads w dv D.length 1 (D.map bN)) (hDs : D.length ≤ 4294967296) (h : MB D top b1 s0 n ts os f) (hS : ∀ a c, dv = .slice (some a) D.length c → a.block ≠ S) :
    Calls Tryd.prog 78 #[.pointer (some ⟨S, o, none⟩), dv, .int .i64 (top : Int)] w fun e w' => e = .returned .nilIface ∧ CsM w w' S o (Desc.cells dv (.multi top s0 s0 n ts os f)) := by
  obtain ⟨htv, h0, h1, hb1, hsz, h256, hts8, hos8⟩ := h
  obtain ⟨nb, hnb⟩ : ∃ nb, nb = if n ≤ 63 then n else 0 := ⟨_, rfl⟩
  have hnb63 : nb ≤ 63 := by rw [hnb]; split <;> omega
  rw [← hnb] at htv
  have hbit := hi_bit f hnb63
  have hmod : ((nb + if f then 64 else 0 : Nat) : Int) % 64 = nb := by cases f <;> simp <;> omega
  have htb : (nb + if f then 64 else 0 : Nat) < 256 := by cases f <;> simp <;> omega
  obtain ⟨tv, htve⟩ : ∃ tv, tv = nb + if f then 64 else 0 := ⟨_, rfl⟩
  rw [← htve] at htv hbit hmod htb
  obtain ⟨m1, hm1⟩ : ∃ m1, m1 = n * ts := ⟨_, rfl⟩
  obtain ⟨m2, hm2⟩ : ∃ m2, m2 = n * os := ⟨_, rfl⟩
  obtain ⟨fs, hfs⟩ : ∃ fs, fs = if f then os else 0 := ⟨_, rfl⟩
  have eob : obOf s0 os f = s0 + fs := by simp [obOf, hfs]
  have edb : dbOf s0 n os f = s0 + fs + m2 := by simp [dbOf, eob, hm2]
  have etb : tbOf s0 n ts os f = s0 + fs + m2 + m1 := by simp [tbOf, edb, hm1]
  have hfin : Desc.cells dv (.multi top s0 s0 n ts os f) = cM dv top s0 n ts os f (tbOf s0 n ts os f + n) (tbOf s0 n ts os f) (tbOf s0 n ts os f) (dbOf s0 n os f) (if os = 0 then 0 else dbOf s0 n os f) (if os = 0 then 0 else obOf s0 os f) (if os = 0 then 0 else if f then s0 else 0) := by
    simp only [Desc.cells, cM]
  rw [etb, edb, eob] at hfin
  have HFIN := Lib.hid hfin
  rw [hfin]
  rw [etb] at hb1 hsz
  have hm1i : (n : Int) * (ts : Int) = (m1 : Int) := by rw [hm1]; simp
  have hm2i : (n : Int) * (os : Int) = (m2 : Int) := by rw [hm2]; simp
  have hm1b : m1 ≤ 2048 := by rw [hm1]; exact Nat.mul_le_mul h256 hts8
  have hm2b : m2 ≤ 2048 := by rw [hm2]; exact Nat.mul_le_mul h256 hos8
  obtain ⟨b, off, cap, e1, c0, hlt⟩ := data_at hD htv
  obtain ⟨b', off', cap', e2, c1, hlt1⟩ := data_at hD hsz
  rw [e1] at e2
  cases e2
  have hbS : b ≠ S := hS _ _ e1
  have hSb : S ≠ b := fun e => hbS e.symm
  have HDD := Lib.hid hD
  have HC0 := Lib.hid (show CsM w w S o _ from ⟨hc, Mod.refl _ _⟩)
  have hdp := fun w => dps_any (ts * 16 + os) (by omega) w
  have hd1 : (ts * 16 + os) / 16 = ts := by omega
  have hd2 : (ts * 16 + os) % 16 = os := by omega
  rw [hd1, hd2] at hdp
  have HM := Lib.hid (And.intro hm1 (And.intro hm2 (And.intro hfs hnb)))
  have HN0 := Lib.hid h0
  have HN1 := Lib.hid h1
  have HB1 := Lib.hid hb1
  subst e1
  have hI1 : (0 : Int) ≤ (top : Int) := by omega
  have hI2 : (top : Int) < (D.length : Int) := by omega
  clear htv hsz hc hS hD h0 h1 hd1 hd2 hm1 hm2 etb edb eob hfin htve hfs hnb hb1
  go_enter Tryd.func78, Tryd.ntmps78
  go_upto_region 1 with (fail)
  go_cut [] (fun wx => Hid (CsM w wx S o (cM (.slice (some ⟨b, off, none⟩) D.length cap) top top 0 0 0 f 0 0 0 0 0 0 0)))
  case first =>
    as_aux_lemma =>
      obtain ⟨k1, f1⟩ := HC0.out.at 1 _ rfl
      obtain ⟨k10, f10⟩ := HC0.out.at 10 _ rfl
      try simp only [iI, Nat.add_zero] at k1 f1 k10 f10
      have d0 := HC0.out.mod.cell (a := ⟨b, off + top, none⟩) c0 hbS
      go_wp2_with fail
      go_meet
      exact Lib.hid (HC0.out.set 10 rfl (.bool f) rfl)
  rename World => w1
  have HC1 := hcut
  clear hcut HC0
  go_upto_region 2 with (fail)
  go_cut [] (fun wx => Hid (CsM w wx S o (cM (.slice (some ⟨b, off, none⟩) D.length cap) top top nb 0 0 f 0 0 0 0 0 0 0)))
  case first =>
    as_aux_lemma =>
      obtain ⟨k1, f1⟩ := HC1.out.at 1 _ rfl
      obtain ⟨k3, f3⟩ := HC1.out.at 3 _ rfl
      try simp only [iI, Nat.add_zero] at k1 f1 k3 f3
      have d0 := HC1.out.mod.cell (a := ⟨b, off + top, none⟩) c0 hbS
      go_wp2_with fail
      go_meet
      exact Lib.hid (HC1.out.set 3 rfl (.int .i64 ((nb : Nat) : Int)) rfl)
  rename World => w2
  have HC2 := hcut
  clear hcut HC1
  obtain ⟨k3, f3⟩ := HC2.out.at 3 _ rfl
  simp only [iI] at k3
  go_upto_if 35 with (fail)
  go_cut [] (fun wx => Hid (CsM w wx S o (cM (.slice (some ⟨b, off, none⟩) D.length cap) top b1 n 0 0 f 0 0 0 0 0 0 0)))
  case first =>
    as_aux_lemma =>
      by_cases hz : nb = 0
      · have hz1 : ((nb : Int) == 0) = true := by rw [hz]; rfl
        obtain ⟨-, -, -, hnb⟩ := HM.out
        obtain ⟨hx1, hx2⟩ := HN0.out (by rw [hz] at hnb; split at hnb <;> omega)
        obtain ⟨b', off', cap', e2, c2, hlt2⟩ := data_at HDD.out hx2
        cases e2
        have hxt : (top : Int) = b1 + 1 := by omega
        have hJ1 : (0 : Int) ≤ (b1 : Int) := by omega
        have hJ2 : (b1 : Int) < (D.length : Int) := by omega
        have hw1 : IntKind.i64.wrap ((top : Int) - 1) = b1 := by rw [hxt]; exact (congrArg IntKind.i64.wrap (by omega)).trans (IntWalk.i64_in _ (by omega))
        have hw2 : wrap64 ((top : Int) - 1) = b1 := by unfold wrap64; omega
        have HN := Lib.hid hnb
        have HZ := Lib.hid hz
        clear hnb hx1 hx2 hxt hz
        go_upto_region 4 with (fail)
        go_cut [] (fun wx => Hid (CsM w wx S o (cM (.slice (some ⟨b, off, none⟩) D.length cap) top b1 nb 0 0 f 0 0 0 0 0 0 0)))
        case first =>
          obtain ⟨k2, f2⟩ := HC2.out.at 2 _ rfl
          try simp only [iI, Nat.add_zero] at k2 f2
          go_wp2_with fail
          go_meet
          exact Lib.hid (HC2.out.set 2 rfl (.int .i64 ((b1 : Nat) : Int)) rfl)
        rename World => w3
        have HC3 := hcut
        clear hcut HC2
        obtain ⟨xv, hxv⟩ : ∃ xv, xv = if n = 256 then 1 else n := ⟨_, rfl⟩
        rw [← hxv] at c2
        have hxb : xv ≤ 255 := by rw [hxv]; split <;> omega
        have HXV := Lib.hid hxv
        clear hxv
        go_upto_region 5 with (fail)
        go_cut [] (fun wx => Hid (CsM w wx S o (cM (.slice (some ⟨b, off, none⟩) D.length cap) top b1 xv 0 0 f 0 0 0 0 0 0 0)))
        case first =>
          obtain ⟨k2, f2⟩ := HC3.out.at 2 _ rfl
          obtain ⟨k3, f3⟩ := HC3.out.at 3 _ rfl
          try simp only [iI, Nat.add_zero] at k2 f2 k3 f3
          have d0 := HC3.out.mod.cell (a := ⟨b, off + b1, none⟩) c2 hbS
          go_wp2_with fail
          go_meet
          exact Lib.hid (HC3.out.set 3 rfl (.int .i64 ((xv : Nat) : Int)) rfl)
        rename World => w4
        have HC4 := hcut
        clear hcut HC3
        obtain ⟨k3, f3⟩ := HC4.out.at 3 _ rfl
        simp only [iI] at k3
        by_cases h6 : n = 256
        · have hxv := HXV.out
          rw [if_pos h6] at hxv
          subst h6 hxv
          go_wp2_with fail
          go_meet
          exact Lib.hid (HC4.out.set 3 rfl (.int .i64 256) rfl)
        · have hxv := HXV.out
          rw [if_neg h6] at hxv
          subst hxv
          have hz2 : ((xv : Int) == 1) = false := by
            have := HN.out
            rw [HZ.out] at this
            refine beq_eq_false_iff_ne.2 ?_
            split at this <;> omega
          go_wp2_with fail
          go_meet
          exact HC4
      · have hz1 : ((nb : Int) == 0) = false := beq_eq_false_iff_ne.2 (by omega)
        obtain ⟨-, -, -, hnb⟩ := HM.out
        have hn63 : n ≤ 63 ∧ nb = n := by
          split at hnb <;> omega
        obtain ⟨hn63, rfl⟩ := hn63
        obtain rfl := HN1.out (by omega) hn63
        clear hnb
        go_wp2_with fail
        go_meet
        exact HC2
  rename World => w10
  have HC10 := hcut
  clear hcut HC2 HN0 HN1 k3 f3
  have hb1 := HB1.out
  obtain ⟨tt, htt⟩ : ∃ tt, tt = s0 + fs + m2 + m1 + n := ⟨_, rfl⟩
  rw [← htt] at c1 hlt1 hb1
  subst hb1
  clear HB1
  obtain ⟨tb, htb⟩ : ∃ tb, tb = s0 + fs + m2 + m1 := ⟨_, rfl⟩
  obtain ⟨db, hdb⟩ : ∃ db, db = s0 + fs + m2 := ⟨_, rfl⟩
  obtain ⟨ob, hob⟩ : ∃ ob, ob = s0 + fs := ⟨_, rfl⟩
  have htt2 : tt = tb + n := by omega
  have htb2 : tb = db + m1 := by omega
  have hdb2 : db = ob + m2 := by omega
  have HTT := Lib.hid (And.intro htt (And.intro htb (And.intro hdb hob)))
  have hJ3 : (0 : Int) ≤ (tt : Int) := by omega
  have hJ4 : (tt : Int) < (D.length : Int) := by omega
  have hv1 : IntKind.i64.wrap ((tt + 1 : Nat) - 1 : Int) = tt := (congrArg IntKind.i64.wrap (by omega)).trans (IntWalk.i64_in _ (by omega))
  have hv1' : IntKind.i64.wrap ((tt : Int) + 1 - 1) = tt := (congrArg IntKind.i64.wrap (by omega)).trans (IntWalk.i64_in _ (by omega))
  have hv2 : IntKind.i64.wrap ((tt : Int) - n) = tb := (congrArg IntKind.i64.wrap (by omega)).trans (IntWalk.i64_in _ (by omega))
  have hv3 : IntKind.i64.wrap ((tb : Int) - m1) = db := (congrArg IntKind.i64.wrap (by omega)).trans (IntWalk.i64_in _ (by omega))
  have hv4 : IntKind.i64.wrap ((db : Int) - m2) = ob := (congrArg IntKind.i64.wrap (by omega)).trans (IntWalk.i64_in _ (by omega))
  have hm1w : IntKind.i64.wrap (m1 : Int) = m1 := IntWalk.i64_in _ (by omega)
  have hm2w : IntKind.i64.wrap (m2 : Int) = m2 := IntWalk.i64_in _ (by omega)
  clear htt htb hdb hob htt2 htb2 hdb2
  go_upto_region 8 with (fail)
  go_cut [] (fun wx => Hid (CsM w wx S o (cM (.slice (some ⟨b, off, none⟩) D.length cap) top tt n 0 0 f 0 0 0 0 0 0 0)))
  case first =>
    as_aux_lemma =>
      obtain ⟨k2, f2⟩ := HC10.out.at 2 _ rfl
      try simp only [iI, Nat.add_zero] at k2 f2
      go_wp2_with fail
      go_meet
      exact Lib.hid (HC10.out.set 2 rfl (.int .i64 ((tt : Nat) : Int)) rfl)
  rename World => w11
  have HC11 := hcut
  clear hcut HC10
  go_upto_region 9 with (fail)
  go_cut [] (fun wx => Hid (CsM w wx S o (cM (.slice (some ⟨b, off, none⟩) D.length cap) top tt n ts os f 0 0 0 0 0 0 0)))
  case first =>
    as_aux_lemma =>
      obtain ⟨k2, f2⟩ := HC11.out.at 2 _ rfl
      obtain ⟨k8, f8⟩ := HC11.out.at 8 _ rfl
      obtain ⟨k9, f9⟩ := HC11.out.at 9 _ rfl
      try simp only [iI, Nat.add_zero] at k2 f2 k8 f8 k9 f9
      have d1 := HC11.out.mod.cell (a := ⟨b, off + tt, none⟩) c1 hbS
      go_wp2_with fail
      refine (hdp _).mono ?_
      rintro e wx ⟨rfl, rfl⟩
      go_wp2_with fail
      go_meet
      exact Lib.hid ((HC11.out.set 8 rfl (.int .i64 ((ts : Nat) : Int)) rfl).set 9 rfl (.int .i64 ((os : Nat) : Int)) rfl)
  rename World => w12
  have HC12 := hcut
  clear hcut HC11
  go_upto_region 10 with (fail)
  go_cut [] (fun wx => Hid (CsM w wx S o (cM (.slice (some ⟨b, off, none⟩) D.length cap) top tt n ts os f tt 0 0 0 0 0 0)))
  case first =>
    as_aux_lemma =>
      obtain ⟨k2, f2⟩ := HC12.out.at 2 _ rfl
      obtain ⟨k11, f11⟩ := HC12.out.at 11 _ rfl
      try simp only [iI, Nat.add_zero] at k2 f2 k11 f11
      go_wp2_with fail
      go_meet
      exact Lib.hid (HC12.out.set 11 rfl (.int .i64 ((tt : Nat) : Int)) rfl)
  rename World => w13
  have HC13 := hcut
  clear hcut HC12
  go_upto_region 11 with (fail)
  go_cut [] (fun wx => Hid (CsM w wx S o (cM (.slice (some ⟨b, off, none⟩) D.length cap) top tb n ts os f tt 0 0 0 0 0 0)))
  case first =>
    as_aux_lemma =>
      obtain ⟨k2, f2⟩ := HC13.out.at 2 _ rfl
      obtain ⟨k3, f3⟩ := HC13.out.at 3 _ rfl
      try simp only [iI, Nat.add_zero] at k2 f2 k3 f3
      go_still_tail 11, (by kernel_rfl)
      all_goals go_wp2_with fail
      all_goals go_meet
      all_goals exact Lib.hid (HC13.out.set 2 rfl (.int .i64 ((tb : Nat) : Int)) rfl).drew
  rename World => w14
  have HC14 := hcut
  clear hcut HC13
  go_upto_region 12 with (fail)
  go_cut [] (fun wx => Hid (CsM w wx S o (cM (.slice (some ⟨b, off, none⟩) D.length cap) top tb n ts os f tt tb 0 0 0 0 0)))
  case first =>
    as_aux_lemma =>
      obtain ⟨k2, f2⟩ := HC14.out.at 2 _ rfl
      obtain ⟨k12, f12⟩ := HC14.out.at 12 _ rfl
      try simp only [iI, Nat.add_zero] at k2 f2 k12 f12
      go_wp2_with fail
      go_meet
      exact Lib.hid (HC14.out.set 12 rfl (.int .i64 ((tb : Nat) : Int)) rfl)
  rename World => w15
  have HC15 := hcut
  clear hcut HC14
  go_upto_region 13 with (fail)
  go_cut [] (fun wx => Hid (CsM w wx S o (cM (.slice (some ⟨b, off, none⟩) D.length cap) top tb n ts os f tt tb tb 0 0 0 0)))
  case first =>
    as_aux_lemma =>
      obtain ⟨k2, f2⟩ := HC15.out.at 2 _ rfl
      obtain ⟨k13, f13⟩ := HC15.out.at 13 _ rfl
      try simp only [iI, Nat.add_zero] at k2 f2 k13 f13
      go_wp2_with fail
      go_meet
      exact Lib.hid (HC15.out.set 13 rfl (.int .i64 ((tb : Nat) : Int)) rfl)
  rename World => w16
  have HC16 := hcut
  clear hcut HC15
  go_upto_region 14 with (fail)
  go_cut [] (fun wx => Hid (CsM w wx S o (cM (.slice (some ⟨b, off, none⟩) D.length cap) top db n ts os f tt tb tb 0 0 0 0)))
  case first =>
    as_aux_lemma =>
      obtain ⟨k2, f2⟩ := HC16.out.at 2 _ rfl
      obtain ⟨k3, f3⟩ := HC16.out.at 3 _ rfl
      obtain ⟨k8, f8⟩ := HC16.out.at 8 _ rfl
      try simp only [iI, Nat.add_zero] at k2 f2 k3 f3 k8 f8
      go_still_tail 16, (by kernel_rfl)
      all_goals go_wp2_with fail
      all_goals go_meet
      all_goals exact Lib.hid (HC16.out.set 2 rfl (.int .i64 ((db : Nat) : Int)) rfl).drew
  rename World => w17
  have HC17 := hcut
  clear hcut HC16
  go_upto_region 15 with (fail)
  go_cut [] (fun wx => Hid (CsM w wx S o (cM (.slice (some ⟨b, off, none⟩) D.length cap) top db n ts os f tt tb tb db 0 0 0)))
  case first =>
    as_aux_lemma =>
      obtain ⟨k2, f2⟩ := HC17.out.at 2 _ rfl
      obtain ⟨k14, f14⟩ := HC17.out.at 14 _ rfl
      try simp only [iI, Nat.add_zero] at k2 f2 k14 f14
      go_wp2_with fail
      go_meet
      exact Lib.hid (HC17.out.set 14 rfl (.int .i64 ((db : Nat) : Int)) rfl)
  rename World => w18
  have HC18 := hcut
  clear hcut HC17
  by_cases ho : os = 0
  · obtain ⟨k9, f9⟩ := HC18.out.at 9 _ rfl
    simp only [iI] at k9
    have HO := Lib.hid ho
    rw [ho] at k9
    replace k9 : _ = some (Value.int .i64 0) := k9
    clear ho
    go_wp2_with fail
    go_ret
    refine ⟨rfl, ?_⟩
    obtain ⟨ht1, ht2, ht3, ht4⟩ := HTT.out
    obtain ⟨hm1, hm2, hfs, -⟩ := HM.out
    have ho := HO.out
    have e1 : m2 = 0 := by rw [hm2, ho]; simp
    have e2 : fs = 0 := by rw [hfs, ho]; simp
    try simp only [if_pos ho]
    have hh := HC18.out
    have e3 : s0 + fs + m2 + m1 + n = tt := ht1.symm
    have e4 : s0 + fs + m2 + m1 = tb := ht2.symm
    have e5 : s0 + fs + m2 = db := ht3.symm
    have e6 : db = s0 := by omega
    rw [e3, e4, e5, ← e6]
    first | exact hh | (rw [ho] at hh; exact hh) | (simp only [ho] at hh ⊢; exact hh)
  · obtain ⟨k9, f9⟩ := HC18.out.at 9 _ rfl
    simp only [iI] at k9
    have ht : decide ((0 : Int) < (os : Int)) = true := by simp; omega
    have HO := Lib.hid ho
    clear ho
    go_upto_region 17 with (fail)
    go_cut [] (fun wx => Hid (CsM w wx S o (cM (.slice (some ⟨b, off, none⟩) D.length cap) top db n ts os f tt tb tb db db 0 0)))
    case first =>
      as_aux_lemma =>
        obtain ⟨k2, f2⟩ := HC18.out.at 2 _ rfl
        obtain ⟨k15, f15⟩ := HC18.out.at 15 _ rfl
        simp only [iI] at k2 f2 k15 f15
        go_wp2_with fail
        go_meet
        exact Lib.hid (HC18.out.set 15 rfl (.int .i64 ((db : Nat) : Int)) rfl)
    rename World => wz
    have HD1 := hcut
    clear hcut HC18
    clear k9 f9 ht
    go_upto_region 18 with (fail)
    go_cut [] (fun wx => Hid (CsM w wx S o (cM (.slice (some ⟨b, off, none⟩) D.length cap) top ob n ts os f tt tb tb db db 0 0)))
    case first =>
      as_aux_lemma =>
        obtain ⟨k2, f2⟩ := HD1.out.at 2 _ rfl
        obtain ⟨k3, f3⟩ := HD1.out.at 3 _ rfl
        obtain ⟨k9, f9⟩ := HD1.out.at 9 _ rfl
        simp only [iI] at k2 f2 k3 f3 k9 f9
        go_still_tail 16, (by kernel_rfl)
        all_goals go_wp2_with fail
        all_goals go_meet
        all_goals exact Lib.hid (HD1.out.set 2 rfl (.int .i64 ((ob : Nat) : Int)) rfl).drew
    rename World => wz
    have HD2 := hcut
    clear hcut HD1
    go_upto_region 19 with (fail)
    go_cut [] (fun wx => Hid (CsM w wx S o (cM (.slice (some ⟨b, off, none⟩) D.length cap) top ob n ts os f tt tb tb db db ob 0)))
    case first =>
      as_aux_lemma =>
        obtain ⟨k2, f2⟩ := HD2.out.at 2 _ rfl
        obtain ⟨k16, f16⟩ := HD2.out.at 16 _ rfl
        simp only [iI] at k2 f2 k16 f16
        go_wp2_with fail
        go_meet
        exact Lib.hid (HD2.out.set 16 rfl (.int .i64 ((ob : Nat) : Int)) rfl)
    rename World => wz
    have HD3 := hcut
    clear hcut HD2
    cases f with
    | false =>
      obtain ⟨k10, f10⟩ := HD3.out.at 10 _ rfl
      go_wp2_with fail
      go_ret
      refine ⟨rfl, ?_⟩
      obtain ⟨ht1, ht2, ht3, ht4⟩ := HTT.out
      obtain ⟨hm1, hm2, hfs, -⟩ := HM.out
      have e3 : s0 + fs + m2 + m1 + n = tt := ht1.symm
      have e4 : s0 + fs + m2 + m1 = tb := ht2.symm
      have e5 : s0 + fs + m2 = db := ht3.symm
      have e7 : s0 + fs = ob := ht4.symm
      try simp only [if_neg HO.out]
      rw [e3, e4, e5, e7]
      have e8 : ob = s0 := by rw [ht4, hfs]; simp
      have hh := HD3.out
      rw [e8] at hh ⊢
      exact hh
    | true =>
      obtain ⟨k10, f10⟩ := HD3.out.at 10 _ rfl
      have hv5 : IntKind.i64.wrap ((ob : Int) - os) = s0 := by
        have h1 := HTT.out.1
        have h4 := HTT.out.2.2.2
        have h5 := HM.out.2.2.1
        rw [if_pos rfl] at h5
        exact (congrArg IntKind.i64.wrap (by omega)).trans (IntWalk.i64_in _ (by omega))
      go_upto_region 21 with (fail)
      go_cut [] (fun wx => Hid (CsM w wx S o (cM (.slice (some ⟨b, off, none⟩) D.length cap) top s0 n ts os true tt tb tb db db ob 0)))
      case first =>
        as_aux_lemma =>
          obtain ⟨k2, f2⟩ := HD3.out.at 2 _ rfl
          obtain ⟨k9, f9⟩ := HD3.out.at 9 _ rfl
          simp only [iI] at k2 f2 k9 f9
          go_still_tail 11, (by kernel_rfl)
          all_goals go_wp2_with fail
          all_goals go_meet
          all_goals exact Lib.hid (HD3.out.set 2 rfl (.int .i64 ((s0 : Nat) : Int)) rfl).drew
      rename World => wz
      have HD4 := hcut
      clear hcut HD3
      clear k10 f10
      go_upto_region 22 with (fail)
      go_cut [] (fun wx => Hid (CsM w wx S o (cM (.slice (some ⟨b, off, none⟩) D.length cap) top s0 n ts os true tt tb tb db db ob s0)))
      case first =>
        as_aux_lemma =>
          obtain ⟨k2, f2⟩ := HD4.out.at 2 _ rfl
          obtain ⟨k17, f17⟩ := HD4.out.at 17 _ rfl
          simp only [iI] at k2 f2 k17 f17
          go_wp2_with fail
          go_meet
          exact Lib.hid (HD4.out.set 17 rfl (.int .i64 ((s0 : Nat) : Int)) rfl)
      rename World => wz
      have HD5 := hcut
      clear hcut HD4
      go_wp2_with fail
      go_ret
      refine ⟨rfl, ?_⟩
      obtain ⟨ht1, ht2, ht3, ht4⟩ := HTT.out
      obtain ⟨hm1, hm2, hfs, -⟩ := HM.out
      have e3 : s0 + fs + m2 + m1 + n = tt := ht1.symm
      have e4 : s0 + fs + m2 + m1 = tb := ht2.symm
      have e5 : s0 + fs + m2 = db := ht3.symm
      have e7 : s0 + fs = ob := ht4.symm
      try simp only [if_neg HO.out]
      rw [e3, e4, e5, e7]
      exact HD5.out
end Go.Proofs.YtkbonmjbfpdchaaDoor.Dec
