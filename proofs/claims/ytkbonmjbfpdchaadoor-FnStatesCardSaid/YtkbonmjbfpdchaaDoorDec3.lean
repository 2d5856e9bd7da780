/- The decoder: atSingle. -/
import Derived.Test.YtkbonmjbfpdchaaDoorDec2a
import Derived.Test.YtkbonmjbfpdchaaDoorCTab
namespace Go.Proofs.YtkbonmjbfpdchaaDoor.Dec
open Go.ChangeShapes Go.WideShapes Go.ChangeAt Go.RowKit Go.Trav Go.Pk Go.Dec Go.Proofs.YtkbonmjbfpdchaaDoor.PkS Go.Proofs.YtkbonmjbfpdchaaDoor.Common
set_option linter.unusedVariables false
set_option linter.unusedSimpArgs false
set_option maxRecDepth 100000
def T1 : List Int := intsOf Rows.laid_pub_traverser_pub_vellum_commonInputsInv
theorem T1_len : T1.length = 256 := by decide +kernel
theorem T1_all : ((List.range 256).all fun x => decide (code x = 0 ∨ T1[code x - 1]?.getD 0 = (x : Int))) = true := by decide +kernel
theorem T1_code {x : Nat} (hx : x < 256) (h : code x ≠ 0) : T1[code x - 1]?.getD 0 = (x : Int) := by
  have := List.all_eq_true.1 T1_all x (List.mem_range.2 hx)
  simp only [decide_eq_true_eq] at this
  exact this.resolve_left h
theorem dec_any (x : Nat) (w : World) (h : TabAt w 3 T1) (hx : x < 256) (h0 : code x ≠ 0) :
    Calls Tryd.prog 62 #[.int .u8 (code x : Nat)] w fun e w' => e = .returned (.int .u8 (x : Nat)) ∧ w = w' := by
  obtain ⟨a, cap, h2, h1⟩ := h
  rw [T1_len] at h2 h1
  have hle := code_le x
  have c0 := h1 (code x - 1) (by omega)
  rw [T1_code hx h0] at c0
  obtain ⟨k, hk⟩ : ∃ k : Nat, code x = k + 1 := ⟨code x - 1, by omega⟩
  rw [hk] at c0 hle ⊢
  clear h1 hk h0
  rw [Nat.add_sub_cancel] at c0
  have e2 : (((k + 1 : Nat) : Int)) = (k : Int) + 1 := by omega
  rw [e2]
  go_enter Tryd.func62, Tryd.ntmps62
  go_wp2
  go_ret
  exact ⟨rfl, rfl⟩
/-- The struct of one arc, as it grows. -/
def cS (dv : Value) (top bot n ch : Nat) (nx : Bool) (ad out ts os : Nat) : List Value := [dv, iI top, iI bot, iI n, .int .u8 (ch : Int), .bool nx, .int .u64 (ad : Int), .int .u64 (out : Int), iI ts, iI os, .bool false, iI 0, iI 0, iI 0, iI 0, iI 0, iI 0, iI 0]
/-- One state's bytes, as atSingle reads them. -/
structure SB (D : List Nat) (top s0 b1 : Nat) (nx : Bool) (ts os : Nat) (x : NA) : Prop where
  topEq : top = b1 + (if code x.1 = 0 then 1 else 0)
  topv : D[top]? = some (128 + (if nx then 64 else 0) + code x.1)
  unc : code x.1 = 0 → D[b1]? = some x.1
  nxt : nx = true → s0 = b1 ∧ x.2.2 + 1 = s0 ∧ x.2.1 = 0
  oth : nx = false → b1 = s0 + os + ts + 1 ∧ D[s0 + os + ts]? = some (ts * 16 + os) ∧ slc D (s0 + os) ts = packed (far s0 x.2.2) ts ∧ slc D s0 os = packed x.2.1 os
  ts8 : ts ≤ 8
  os8 : os ≤ 8
  dl : far s0 x.2.2 < 256 ^ ts
  ol : x.2.1 < 256 ^ os
  in8 : x.1 < 256
  lo : x.2.2 = 0 ∨ x.2.2 < s0
theorem hi_bit2 {c : Nat} (nx : Bool) (hv : c ≤ 63) : decide ((0 : Int) < bits BinOp.and IntKind.u8 ((128 + (if nx then 64 else 0) + c : Nat) : Int) 64) = nx := by
  cases nx with
  | true => have := and64 ⟨128 + 64 + c, by omega⟩; simp only at this; rw [if_pos (by omega)] at this; simp only [if_true]; rw [this]; rfl
  | false => have := and64 ⟨128 + 0 + c, by omega⟩; simp only at this; rw [if_neg (by omega)] at this; simp only [Bool.false_eq_true, if_false]; rw [this]; rfl
/-- What a state of one arc is read as. -/
def dS (top s0 b1 : Nat) (nx : Bool) (ts os : Nat) (x : NA) : Desc := .single top (if nx then b1 else s0) x.1 nx x.2.2 x.2.1 (if nx then 0 else ts) (if nx then 0 else os)
set_option maxHeartbeats 4000000 in
theorem atS_any (S o : Nat) (dv : Value) (D : List Nat) (top b1 s0 ts os : Nat) (nx : Bool) (x : NA) (w : World) (hc : Cs w S o (cS dv top top 0 0 false 0 0 0 0)) (hD : Reads w dv D.length 1 (D.map bN)) (hDb : ∀ y ∈ D, y < 256) (hDs : D.length ≤ 4294967296) (h : SB D top s0 b1 nx ts os x) (hS : ∀ a c, dv = .slice (some a) D.length c → a.block ≠ S)
    (hT : ∀ w', Mod (fun k => k = S) w w' → TabAt w' 3 T1) :
    Calls Tryd.prog 77 #[.pointer (some ⟨S, o, none⟩), dv, .int .i64 (top : Int)] w fun e w' => e = .returned .nilIface ∧ CsM w w' S o (Desc.cells dv (dS top s0 b1 nx ts os x)) := by
  obtain ⟨xi, xo, xa⟩ := x
  obtain ⟨htop, htv, hunc, hnxt, hoth, hts8, hos8, hdl, hol, hin8, hlo⟩ := h
  simp only at htop htv hunc hnxt hoth hdl hol hin8 hlo
  have hfin : Desc.cells dv (dS top s0 b1 nx ts os (xi, xo, xa)) = cS dv top (if nx then b1 else s0) 1 xi nx xa xo (if nx then 0 else ts) (if nx then 0 else os) := rfl
  rw [hfin]
  have hcle := code_le xi
  have hbit := hi_bit2 nx hcle
  obtain ⟨cd, hcd⟩ : ∃ cd, cd = code xi := ⟨_, rfl⟩
  rw [← hcd] at htop htv hunc hcle hbit
  have hmod : ((128 + (if nx then 64 else 0) + cd : Nat) : Int) % 64 = cd := by cases nx <;> simp <;> omega
  have htb : 128 + (if nx then 64 else 0) + cd < 256 := by cases nx <;> simp <;> omega
  obtain ⟨tv, htve⟩ : ∃ tv, tv = 128 + (if nx then 64 else 0) + cd := ⟨_, rfl⟩
  rw [← htve] at htv hbit hmod htb
  obtain ⟨b, off, cap, e1, c0, hlt⟩ := data_at hD htv
  have hbS : b ≠ S := hS _ _ e1
  subst e1
  have hcap : D.length ≤ cap ∧ cap ≤ 9223372036854775807 := by
    obtain ⟨_, _, e, q1, q2, _⟩ := hD
    cases e
    unfold maxLen at q2
    omega
  have HDD := Lib.hid hD
  have HDB := Lib.hid hDb
  have HC0 := Lib.hid (show CsM w w S o _ from ⟨hc, Mod.refl _ _⟩)
  have HU := Lib.hid hunc
  have HNX := Lib.hid hnxt
  have HOT := Lib.hid hoth
  have HTOP := Lib.hid htop
  have hb1t : b1 ≤ top := by rw [htop]; omega
  have HCD := Lib.hid hcd
  have HTT := Lib.hid hT
  have HDL := Lib.hid hdl
  have HOL := Lib.hid hol
  have HLO := Lib.hid hlo
  have hI1 : (0 : Int) ≤ (top : Int) := by omega
  have hI2 : (top : Int) < (D.length : Int) := by omega
  clear hc hD hDb hS hT hfin htve hcd htop hunc hnxt hoth htv hdl hol hlo
  go_enter Tryd.func77, Tryd.ntmps77
  go_upto_region 1 with (fail)
  go_cut [] (fun wx => Hid (CsM w wx S o (cS (.slice (some ⟨b, off, none⟩) D.length cap) top top 1 0 false 0 0 0 0)))
  case first =>
    as_aux_lemma =>
      obtain ⟨k3, f3⟩ := HC0.out.at 3 _ rfl
      try simp only [iI] at k3 f3
      go_wp2_with fail
      go_meet
      exact Lib.hid (HC0.out.set 3 rfl (.int .i64 1) rfl)
  rename World => wz
  have HC1 := hcut
  clear hcut HC0
  go_upto_region 2 with (fail)
  go_cut [] (fun wx => Hid (CsM w wx S o (cS (.slice (some ⟨b, off, none⟩) D.length cap) top top 1 0 nx 0 0 0 0)))
  case first =>
    as_aux_lemma =>
      obtain ⟨k1, f1⟩ := HC1.out.at 1 _ rfl
      obtain ⟨k5, f5⟩ := HC1.out.at 5 _ rfl
      try simp only [iI] at k1 f1 k5 f5
      have d0 := HC1.out.mod.cell (a := ⟨b, off + top, none⟩) c0 hbS
      go_wp2_with fail
      go_meet
      exact Lib.hid (HC1.out.set 5 rfl (.bool nx) rfl)
  rename World => wz
  have HC2 := hcut
  clear hcut HC1
  go_upto_region 3 with (fail)
  go_cut [] (fun wx => Hid (CsM w wx S o (cS (.slice (some ⟨b, off, none⟩) D.length cap) top top 1 cd nx 0 0 0 0)))
  case first =>
    as_aux_lemma =>
      obtain ⟨k1, f1⟩ := HC2.out.at 1 _ rfl
      obtain ⟨k4, f4⟩ := HC2.out.at 4 _ rfl
      try simp only [iI] at k1 f1 k4 f4
      have d0 := HC2.out.mod.cell (a := ⟨b, off + top, none⟩) c0 hbS
      go_wp2_with fail
      go_meet
      exact Lib.hid (HC2.out.set 4 rfl (.int .u8 ((cd : Nat) : Int)) rfl)
  rename World => wz
  have HC3 := hcut
  clear hcut HC2
  obtain ⟨k4, f4⟩ := HC3.out.at 4 _ rfl
  go_upto_if 37 with (fail)
  go_cut [] (fun wx => Hid (CsM w wx S o (cS (.slice (some ⟨b, off, none⟩) D.length cap) top b1 1 xi nx 0 0 0 0)))
  case first =>
    as_aux_lemma =>
      by_cases hz : cd = 0
      · have hz1 : ((cd : Int) == 0) = true := by rw [hz]; rfl
        have htop := HTOP.out
        rw [if_pos hz] at htop
        obtain ⟨b', off', cap', e2, c2, hlt2⟩ := data_at HDD.out (HU.out hz)
        cases e2
        have hxt : (top : Int) = b1 + 1 := by omega
        have hJ1 : (0 : Int) ≤ (b1 : Int) := by omega
        have hJ2 : (b1 : Int) < (D.length : Int) := by omega
        have hw1 : IntKind.i64.wrap ((top : Int) - 1) = b1 := by rw [hxt]; exact (congrArg IntKind.i64.wrap (by omega)).trans (IntWalk.i64_in _ (by omega))
        clear htop hxt hz
        go_upto_region 5 with (fail)
        go_cut [] (fun wx => Hid (CsM w wx S o (cS (.slice (some ⟨b, off, none⟩) D.length cap) top b1 1 cd nx 0 0 0 0)))
        case first =>
          as_aux_lemma =>
            obtain ⟨k2, f2⟩ := HC3.out.at 2 _ rfl
            try simp only [iI] at k2 f2
            go_wp2_with fail
            go_meet
            exact Lib.hid (HC3.out.set 2 rfl (.int .i64 ((b1 : Nat) : Int)) rfl)
        rename World => wz
        have HC4 := hcut
        clear hcut HC3
        obtain ⟨k2, f2⟩ := HC4.out.at 2 _ rfl
        obtain ⟨k4, f4⟩ := HC4.out.at 4 _ rfl
        try simp only [iI] at k2 f2 k4 f4
        have d0 := HC4.out.mod.cell (a := ⟨b, off + b1, none⟩) c2 hbS
        go_wp2_with fail
        go_meet
        exact Lib.hid (HC4.out.set 4 rfl (.int .u8 ((xi : Nat) : Int)) rfl)
      · have hz1 : ((cd : Int) == 0) = false := beq_eq_false_iff_ne.2 (by omega)
        have htop := HTOP.out
        rw [if_neg hz, Nat.add_zero] at htop
        subst htop
        have HZ := Lib.hid (show code xi ≠ 0 by rw [← HCD.out]; exact hz)
        clear hz
        have hdec := dec_any xi _ (HTT.out _ HC3.out.mod) hin8 HZ.out
        rw [← HCD.out] at hdec
        go_wp2_with fail
        refine hdec.mono ?_
        rintro e wx ⟨rfl, rfl⟩
        go_wp2_with fail
        go_meet
        exact Lib.hid (HC3.out.set 4 rfl (.int .u8 ((xi : Nat) : Int)) rfl)
  rename World => wz
  have HC5 := hcut
  clear hcut HC3 k4 f4 HU HTOP HTT HCD
  obtain ⟨k5, f5⟩ := HC5.out.at 5 _ rfl
  cases nx with
  | true =>
    obtain ⟨rfl, h2, h3⟩ := HNX.out rfl
    have h4 : (s0 : Int) = (xa : Int) + 1 := by omega
    have hxa : (xa : Int) ≤ 4294967296 := by omega
    have hw1 : IntKind.i64.wrap ((s0 : Int) - 1) = xa := (congrArg IntKind.i64.wrap (by omega)).trans (IntWalk.i64_in _ (by omega))
    have hw2 : IntKind.u64.wrap (xa : Int) = xa := by rw [IntKind.wrap_u64]; omega
    clear h4
    go_upto_region 9 with (fail)
    go_cut [] (fun wx => Hid (CsM w wx S o (cS (.slice (some ⟨b, off, none⟩) D.length cap) top s0 1 xi true xa 0 0 0)))
    case first =>
      as_aux_lemma =>
        obtain ⟨k2, f2⟩ := HC5.out.at 2 _ rfl
        obtain ⟨k6, f6⟩ := HC5.out.at 6 _ rfl
        try simp only [iI] at k2 f2 k6 f6
        go_wp2_with fail
        go_meet
        exact Lib.hid (HC5.out.set 6 rfl (.int .u64 ((xa : Nat) : Int)) rfl)
    rename World => wz
    have HC6 := hcut
    clear hcut HC5
    go_upto_region 10 with (fail)
    go_cut [] (fun wx => Hid (CsM w wx S o (cS (.slice (some ⟨b, off, none⟩) D.length cap) top s0 1 xi true xa 0 0 0)))
    case first =>
      as_aux_lemma =>
        obtain ⟨k7, f7⟩ := HC6.out.at 7 _ rfl
        try simp only [iI] at k7 f7
        go_wp2_with fail
        go_meet
        exact Lib.hid (HC6.out.set 7 rfl (.int .u64 0) rfl)
    rename World => wz
    have HC7 := hcut
    clear hcut HC6
    go_wp2_with fail
    go_ret
    subst h3
    exact ⟨rfl, HC7.out⟩
  | false =>
    obtain ⟨h1, h2, h3, h4⟩ := HOT.out rfl
    obtain ⟨b', off', cap', e2, c2, hlt2⟩ := data_at HDD.out h2
    cases e2
    obtain ⟨sz, hsz⟩ : ∃ sz, sz = s0 + os + ts := ⟨_, rfl⟩
    obtain ⟨m, hm⟩ : ∃ m, m = s0 + os := ⟨_, rfl⟩
    rw [← hsz] at h1 h2 c2 hlt2
    rw [← hm] at h3
    subst h1
    have hJ1 : (0 : Int) ≤ (sz : Int) := by omega
    have hJ2 : (sz : Int) < (D.length : Int) := by omega
    have hK1 : (0 : Int) ≤ (m : Int) := by omega
    have hK2 : (0 : Int) ≤ (s0 : Int) := by omega
    have hv1 : IntKind.i64.wrap ((sz + 1 : Nat) - 1 : Int) = sz := (congrArg IntKind.i64.wrap (by omega)).trans (IntWalk.i64_in _ (by omega))
    have hv1' : IntKind.i64.wrap ((sz : Int) + 1 - 1) = sz := (congrArg IntKind.i64.wrap (by omega)).trans (IntWalk.i64_in _ (by omega))
    have hv2 : IntKind.i64.wrap ((sz : Int) - ts) = m := (congrArg IntKind.i64.wrap (by omega)).trans (IntWalk.i64_in _ (by omega))
    have hv3 : IntKind.i64.wrap ((m : Int) - os) = s0 := (congrArg IntKind.i64.wrap (by omega)).trans (IntWalk.i64_in _ (by omega))
    have hv4 : IntKind.i64.wrap ((m : Int) + ts) = sz := (congrArg IntKind.i64.wrap (by omega)).trans (IntWalk.i64_in _ (by omega))
    have hv5 : IntKind.i64.wrap ((s0 : Int) + os) = m := (congrArg IntKind.i64.wrap (by omega)).trans (IntWalk.i64_in _ (by omega))
    have hms : m ≤ sz ∧ s0 ≤ m ∧ sz - m = ts ∧ m - s0 = os := by omega
    have hdp := fun w => dps_any (ts * 16 + os) (by omega) w
    have hd1 : (ts * 16 + os) / 16 = ts := by omega
    have hd2 : (ts * 16 + os) % 16 = os := by omega
    rw [hd1, hd2] at hdp
    have hra : ∀ w', Mod (fun k => k = S) w w' → ∀ c', ts ≤ c' → c' ≤ cap → Calls Tryd.prog 91 #[.slice (some ⟨b, off + m, none⟩) ts c'] w' fun e w'' => e = .returned (.int .u64 (far s0 xa : Nat)) ∧ w'' = w' := fun w' hm' c' h1 h2 => by
      have hr := reads_slc (HDD.out.mod hm' (fun g hg => by simp [Value.ownBlock] at hg; omega)) (a := m) (n := ts) (by omega) h1 h2
      have := PkS.read_any _ ts (slc D m ts) w' hr (by omega) (slc_lt HDB.out _ _)
      rw [h3, unpacked_packed_of_lt HDL.out] at this
      exact this.mono fun _ _ ⟨p, q⟩ => ⟨p, q.symm⟩
    have hrb : ∀ w', Mod (fun k => k = S) w w' → ∀ c', os ≤ c' → c' ≤ cap → Calls Tryd.prog 91 #[.slice (some ⟨b, off + s0, none⟩) os c'] w' fun e w'' => e = .returned (.int .u64 (xo : Nat)) ∧ w'' = w' := fun w' hm' c' h1 h2 => by
      have hr := reads_slc (HDD.out.mod hm' (fun g hg => by simp [Value.ownBlock] at hg; omega)) (a := s0) (n := os) (by omega) h1 h2
      have := PkS.read_any _ os (slc D s0 os) w' hr (by omega) (slc_lt HDB.out _ _)
      rw [h4, unpacked_packed_of_lt HOL.out] at this
      exact this.mono fun _ _ ⟨p, q⟩ => ⟨p, q.symm⟩
    have HRA := Lib.hid hra
    have HRB := Lib.hid hrb
    have HMS := Lib.hid (And.intro hsz hm)
    clear hra hrb h2 h3 h4 hd1 hd2 hsz hm
    go_upto_region 11 with (fail)
    go_cut [] (fun wx => Hid (CsM w wx S o (cS (.slice (some ⟨b, off, none⟩) D.length cap) top sz 1 xi false 0 0 0 0)))
    case first =>
      as_aux_lemma =>
        obtain ⟨k2, f2⟩ := HC5.out.at 2 _ rfl
        try simp only [iI] at k2 f2
        go_wp2_with fail
        go_meet
        exact Lib.hid (HC5.out.set 2 rfl (.int .i64 ((sz : Nat) : Int)) rfl)
    rename World => wz
    have HC8 := hcut
    clear hcut HC5
    go_upto_region 12 with (fail)
    go_cut [] (fun wx => Hid (CsM w wx S o (cS (.slice (some ⟨b, off, none⟩) D.length cap) top sz 1 xi false 0 0 ts os)))
    case first =>
      as_aux_lemma =>
        obtain ⟨k2, f2⟩ := HC8.out.at 2 _ rfl
        obtain ⟨k8, f8⟩ := HC8.out.at 8 _ rfl
        obtain ⟨k9, f9⟩ := HC8.out.at 9 _ rfl
        try simp only [iI] at k2 f2 k8 f8 k9 f9
        have d1 := HC8.out.mod.cell (a := ⟨b, off + sz, none⟩) c2 hbS
        go_wp2_with fail
        refine (hdp _).mono ?_
        rintro e wx ⟨rfl, rfl⟩
        go_wp2_with fail
        go_meet
        exact Lib.hid ((HC8.out.set 8 rfl (.int .i64 ((ts : Nat) : Int)) rfl).set 9 rfl (.int .i64 ((os : Nat) : Int)) rfl)
    rename World => wz
    have HC9 := hcut
    clear hcut HC8
    go_upto_region 13 with (fail)
    go_cut [] (fun wx => Hid (CsM w wx S o (cS (.slice (some ⟨b, off, none⟩) D.length cap) top m 1 xi false 0 0 ts os)))
    case first =>
      as_aux_lemma =>
        obtain ⟨k2, f2⟩ := HC9.out.at 2 _ rfl
        obtain ⟨k8, f8⟩ := HC9.out.at 8 _ rfl
        try simp only [iI] at k2 f2 k8 f8
        go_still_tail 11, (by kernel_rfl)
        all_goals go_wp2_with fail
        all_goals go_meet
        all_goals exact Lib.hid (HC9.out.set 2 rfl (.int .i64 ((m : Nat) : Int)) rfl).drew
    rename World => wz
    have HC10 := hcut
    clear hcut HC9
    have hs1 : (m : Int) ≤ (sz : Int) := by omega
    have hs2 : (sz : Int) ≤ (cap : Int) := by omega
    have hs3 : ¬ cap = m := by omega
    have hs4 : (s0 : Int) ≤ (m : Int) := by omega
    have hs5 : (m : Int) ≤ (cap : Int) := by omega
    have hs6 : ¬ cap = s0 := by omega
    have hn1 : sz - m = ts := by omega
    have hn2 : m - s0 = os := by omega
    clear hms hdp hmod htb hbit
    go_upto_region 14 with (fail)
    go_cut [] (fun wx => Hid (CsM w wx S o (cS (.slice (some ⟨b, off, none⟩) D.length cap) top m 1 xi false (far s0 xa) 0 ts os)))
    case first =>
      as_aux_lemma =>
        obtain ⟨k2, f2⟩ := HC10.out.at 2 _ rfl
        obtain ⟨k6, f6⟩ := HC10.out.at 6 _ rfl
        obtain ⟨k8, f8⟩ := HC10.out.at 8 _ rfl
        try simp only [iI] at k2 f2 k6 f6 k8 f8
        have hrr := Lib.hid (HRA.out _ HC10.out.drew.mod (cap - m) (by omega) (by omega))
        refine wp_region_still_tail 19 (by kernel_rfl) (by kernel_rfl) ?_
        simp only [List.take_succ_cons, List.take_zero, List.drop_succ_cons, List.drop_zero]
        iterate 16 still_step
        still_call hrr.out
        repeat still_step
        try refine wpStill_nil ?_
        all_goals go_wp2_with fail
        all_goals go_meet
        all_goals exact Lib.hid (HC10.out.set 6 rfl (.int .u64 ((far s0 xa : Nat) : Int)) rfl).drew
    rename World => wz
    have HC11 := hcut
    clear hcut HC10
    obtain ⟨k9, f9⟩ := HC11.out.at 9 _ rfl
    simp only [iI] at k9
    obtain ⟨bo, hbo⟩ : ∃ bo, decide (0 < os) = bo := ⟨_, rfl⟩
    go_upto_if 137 with (fail)
    go_cut [] (fun wx => Hid (CsM w wx S o (cS (.slice (some ⟨b, off, none⟩) D.length cap) top s0 1 xi false (far s0 xa) xo ts os)))
    case first =>
      as_aux_lemma =>
        have HBO := Lib.hid hbo
        clear hbo
        cases bo
        · have ho : os = 0 := by have := HBO.out; simp at this; omega
          have HO := Lib.hid ho
          obtain ⟨k7, f7⟩ := HC11.out.at 7 _ rfl
          have hxo : xo = 0 := by have := HOL.out; rw [ho] at this; simpa using this
          have hms0 : m = s0 := by omega
          have HX := Lib.hid (And.intro hxo hms0)
          clear ho hxo hms0
          go_wp2_with fail
          go_meet
          have hh := HC11.out.set 7 rfl (.int .u64 0) rfl
          rw [HX.out.2] at hh
          rw [HX.out.1]
          exact Lib.hid hh
        · have ho : os ≠ 0 := by have := HBO.out; simp at this; omega
          have HO := Lib.hid ho
          clear ho
          go_upto_region 16 with (fail)
          go_cut [] (fun wx => Hid (CsM w wx S o (cS (.slice (some ⟨b, off, none⟩) D.length cap) top s0 1 xi false (far s0 xa) 0 ts os)))
          case first =>
            as_aux_lemma =>
              obtain ⟨k2, f2⟩ := HC11.out.at 2 _ rfl
              obtain ⟨k9, f9⟩ := HC11.out.at 9 _ rfl
              try simp only [iI] at k2 f2 k9 f9
              go_still_tail 11, (by kernel_rfl)
              all_goals go_wp2_with fail
              all_goals go_meet
              all_goals exact Lib.hid (HC11.out.set 2 rfl (.int .i64 ((s0 : Nat) : Int)) rfl).drew
          rename World => wz
          have HC12 := hcut
          clear hcut HC11
          obtain ⟨k2, f2⟩ := HC12.out.at 2 _ rfl
          obtain ⟨k7, f7⟩ := HC12.out.at 7 _ rfl
          obtain ⟨k9, f9⟩ := HC12.out.at 9 _ rfl
          try simp only [iI] at k2 f2 k7 f7 k9 f9
          go_upto_region 17 with (fail)
          have hrr := Lib.hid (HRB.out _ HC12.out.drew.mod (cap - s0) (by omega) (by omega))
          refine wp_region_still_tail 19 (by kernel_rfl) (by kernel_rfl) ?_
          simp only [List.take_succ_cons, List.take_zero, List.drop_succ_cons, List.drop_zero]
          iterate 16 still_step
          still_call hrr.out
          repeat still_step
          try refine wpStill_nil ?_
          all_goals go_wp2_with fail
          all_goals go_meet
          all_goals exact Lib.hid (HC12.out.set 7 rfl (.int .u64 ((xo : Nat) : Int)) rfl).drew
    rename World => wz
    have HC13 := hcut
    clear hcut HC11 k9 f9 hbo
    obtain ⟨k2, f2⟩ := HC13.out.at 2 _ rfl
    obtain ⟨k6, f6⟩ := HC13.out.at 6 _ rfl
    try simp only [iI] at k2 f2 k6 f6
    by_cases hxa : xa = 0
    · have hf : far s0 xa = 0 := by unfold far; rw [if_pos hxa]
      rw [hf] at k6
      replace k6 : _ = some (Value.int .u64 0) := k6
      have HF := Lib.hid hf
      have HX := Lib.hid hxa
      clear hf hxa
      go_wp2_with fail
      go_ret
      have hh := HC13.out
      rw [HF.out] at hh
      rw [HX.out]
      exact ⟨rfl, hh⟩
    · have hlo2 : xa < s0 := HLO.out.resolve_left hxa
      have hf : far s0 xa = s0 - xa := by unfold far; rw [if_neg hxa]
      obtain ⟨q, hq⟩ : ∃ q, q = far s0 xa := ⟨_, rfl⟩
      rw [← hq] at k6 hf
      have hq0 : ((q : Int) == 0) = false := beq_eq_false_iff_ne.2 (by omega)
      have hq1 : ((q : Int) != 0) = true := by rw [bne_iff_ne]; omega
      have hu1 : IntKind.u64.wrap (s0 : Int) = s0 := by rw [IntKind.wrap_u64]; omega
      have hu2 : IntKind.u64.wrap ((s0 : Int) - q) = xa := by rw [IntKind.wrap_u64]; omega
      have HX := Lib.hid hxa
      clear hf hxa hq hlo2
      go_upto_region 20 with (fail)
      go_still_tail 13, (by kernel_rfl)
      all_goals go_wp2_with fail
      all_goals go_ret
      all_goals exact ⟨rfl, (HC13.out.set 6 rfl (.int .u64 ((xa : Nat) : Int)) rfl).drew⟩
end Go.Proofs.YtkbonmjbfpdchaaDoor.Dec
