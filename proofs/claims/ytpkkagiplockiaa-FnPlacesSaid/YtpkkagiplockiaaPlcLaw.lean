/- Places: the law FnPlaces. -/
import Derived.Test.YtpkkagiplockiaaPlc4
import Derived.Test.YtpkkagiplockiaaPlc5
import Derived.Test.YtpkkagiplockiaaPlc8
namespace Go.Proofs.Ytpkkagiplockiaa.Nfa
open Go.ChangeShapes Go.WideShapes Go.ChangeAt Go.RowKit Go.Trav Go.Nor Go.Proofs.Ytpkkagiplockiaa.Srt Go.Proofs.Ytpkkagiplockiaa.Ed
set_option linter.unusedVariables false
set_option linter.unusedSimpArgs false
set_option maxRecDepth 100000
/-- The bits are the letter's places. -/
theorem bits_say {lq lt : List Int} {nq m k : Nat} {c : Int} (hq : lq.length = nq) (hn : nq ≤ 64) (hc : lt[k]? = some c) (h0 : 0 ≤ c) (o d : Nat) (hd : d ≤ m) :
    (cvN (chiK lq c nq) m o).testBit d = true ↔ ltr lq (o + d) = ltr lt k := by
  rw [cvN_bit, chiK_bit]
  have e : ltr lt k = c := by unfold ltr; rw [hc]; rfl
  rw [e]
  unfold ltr
  by_cases h : o + d < nq
  · rw [List.getElem?_eq_getElem (by omega)]
    simp [h]
    omega
  · rw [List.getElem?_eq_none (by omega)]
    simp [h]
    omega
theorem moves_bnd {m k : Nat} {sw : Bool} {bit : Nat → Nat → Bool} {S : List Plc} (hm : m ≤ 8) (hO : Off k S) (hk : k ≤ 40) (hd : ∀ s ∈ S, s.d ≤ m) : Bnd 60 (all (moves m sw bit S)) := by
  rw [all_adds]
  refine (Bnd.nil 60).adds fun x hx => ?_
  obtain ⟨s, hs, ho⟩ := mem_moves.mp hx
  have h1 := hO s hs
  have h2 := hd s hs
  refine outs_bnd ⟨?_, h2⟩ hm ho
  split at h1 <;> omega
set_option maxHeartbeats 16000000 in
theorem law_places (qv tv : Value) (nq nt m : Nat) (sw : Bool) (lq lt : List Int) (w : World) (hq : Reads w qv nq 1 (lq.map (Value.int .i32))) (ht : Reads w tv nt 1 (lt.map (Value.int .i32)))
    (hbq : ∀ x ∈ lq, -2147483648 ≤ x ∧ x ≤ 2147483647) (hbt : ∀ x ∈ lt, -2147483648 ≤ x ∧ x ≤ 2147483647) (hm : m ≤ 255) :
    Calls Try.prog 4 #[qv, tv, .int .u8 m, .bool sw] w fun e w' => e = .returned (.bool true) ∧ Below w.heap.size w w' := by
  obtain ⟨qa, qc, rfl⟩ := hq.form
  obtain ⟨ta, tc, rfl⟩ := ht.form
  have hlq : lq.length = nq := by have := hq.len; simpa using this
  have hlt : lt.length = nt := by have := ht.len; simpa using this
  have HQ := Lib.hid hq
  have HT := Lib.hid ht
  have HLQ := Lib.hid hlq
  have HLT := Lib.hid hlt
  have HNQ := Lib.hid (fun W (hR : Reads W (.slice qa nq qc) nq 1 (lq.map (Value.int .i32))) => nums_any _ nq lq W hR hbq)
  have HNT := Lib.hid (fun W (hR : Reads W (.slice ta nt tc) nt 1 (lt.map (Value.int .i32))) => nums_any _ nt lt W hR hbt)
  clear hq ht hlq hlt hbq hbt
  by_cases h1 : 2147483647 < nq
  · have t1 : (2147483647 : Int) < (nq : Int) := by omega
    go_enter Try.func4, Try.ntmps4
    go_wp2_with fail
    go_ret
    exact ⟨rfl, Below.refl _ _⟩
  by_cases h2 : 2147483647 < nt
  · have t1 : ¬ (2147483647 : Int) < (nq : Int) := by omega
    have t2 : (2147483647 : Int) < (nt : Int) := by omega
    go_enter Try.func4, Try.ntmps4
    go_wp2_with fail
    go_ret
    exact ⟨rfl, Below.refl _ _⟩
  have t1 : ¬ (2147483647 : Int) < (nq : Int) := by omega
  have t2 : ¬ (2147483647 : Int) < (nt : Int) := by omega
  go_enter Try.func4, Try.ntmps4
  go_wp2_with fail
  refine (HNQ.out _ HQ.out).mono ?_
  rintro e w1 ⟨hn1, hb1⟩
  have HB1 := Lib.hid hb1
  clear hb1
  rcases hn1 with ⟨hq40, hqL, v1, rfl, hr1⟩ | rfl
  · have HR1 := Lib.hid hr1
    have HQL := Lib.hid hqL
    obtain ⟨a1, c1, rfl⟩ := hr1.form
    clear hr1 hqL
    go_wp2_with fail
    refine (HNT.out _ (HT.out.below HB1.out)).mono ?_
    rintro e w2 ⟨hn2, hb2⟩
    have HB2 := Lib.hid (HB1.out.trans (hb2.mono HB1.out.size))
    rcases hn2 with ⟨ht40, htL, v2, rfl, hr2⟩ | rfl
    · have HR1b := Lib.hid (HR1.out.below hb2)
      have HR2 := Lib.hid hr2
      have HTL := Lib.hid htL
      obtain ⟨a2, c2, rfl⟩ := hr2.form
      clear hb2 hr2 htL HR1
      by_cases hm8 : 8 < m
      · have t3 : (8 : Int) < (m : Int) := by omega
        go_wp2_with fail
        go_ret
        exact ⟨rfl, HB2.out⟩
      · have t3 : ¬ (8 : Int) < (m : Int) := by omega
        have hbx := HB2.out.alloc HB2.out.size (.cells #[.int .u32 0, .int .u8 0, .bool false] 25)
        have HBX := Lib.hid hbx
        have HRX : Hid (Reads (w2.alloc (.cells #[.int .u32 0, .int .u8 0, .bool false] 25)) (.slice (some ⟨w2.heap.size, 0, none⟩) 1 1) ([⟨0, 0, false⟩] : List Plc).length 3 (([⟨0, 0, false⟩] : List Plc).flatMap pC)) := Lib.hid (reads_new w2 ⟨0, 0, false⟩ 25)
        have HR1x := Lib.hid (HR1b.out.alloc (.cells #[.int .u32 0, .int .u8 0, .bool false] 25))
        have HR2x := Lib.hid (HR2.out.alloc (.cells #[.int .u32 0, .int .u8 0, .bool false] 25))
        clear hbx
        go_wp2_with fail
        generalize w2.alloc (.cells #[.int .u32 0, .int .u8 0, .bool false] 25) = W2 at HBX HRX HR1x HR2x ⊢
        go_loopw [13, 14] (fun pv kv wr => ∃ (k : Nat) (S : List Plc), kv = .int .i64 k ∧ k ≤ nt ∧ Hid (Below W2.heap.size W2 wr) ∧ Hid (Reads wr pv S.length 3 (S.flatMap pC)) ∧ Hid (Tell sw m (ltr lq) (ltr lt) k S) ∧ Hid (Off k S) ∧ Hid (S.length ≤ 20000)) (fun _ kv _ => nt - (intOf kv).toNat)
        case atStart => exact ⟨0, [⟨0, 0, false⟩], rfl, Nat.zero_le _, Lib.hid (Below.refl _ _), HRX, Lib.hid (Tell.start _ _ _ _), Lib.hid (fun s hs => by rw [List.mem_singleton.mp hs]; exact Nat.le_refl _), Lib.hid (by simp)⟩
        case round =>
          clear HRX
          obtain ⟨k, S, rfl, hk, HB, HRS, HTL2, HOF, HLEN⟩ := hrel
          rename World => wr
          obtain ⟨pa, pc, rfl⟩ := HRS.out.form
          generalize hSn : S.length = ns at *
          have HSN := Lib.hid hSn
          have hlen := HLEN.out
          clear hSn
          by_cases hkn : k < nt
          · obtain ⟨b, off, cap', c, e, hc, c0⟩ := Reads.one (Value.int .i32) ((HT.out.below HBX.out).below HB.out) hkn
            simp only [Value.slice.injEq] at e
            obtain ⟨rfl, -, rfl⟩ := e
            have hc0 : 0 ≤ c := (HTL.out c (List.mem_of_getElem? hc)).1
            have HCH := Lib.hid (ichi_any _ nq lq c wr ((HQ.out.below HBX.out).below HB.out) (by omega))
            have hbnd := moves_bnd (m := m) (sw := sw) (bit := fun o => (cvN (chiK lq c nq) m o).testBit) (by omega) HOF.out (by omega) HTL2.out.few
            have HST := Lib.hid (step_any m 60 (chiK lq c nq) ns sw _ S wr HRS.out (fun s hs => ⟨by
              have h1 := HOF.out s hs
              have h2 := HTL2.out.few s hs
              split at h1 <;> omega, HTL2.out.few s hs⟩) (by omega) (by omega) (by omega) (chiK_u64 lq c nq (by omega)) (fun G hG => by rw [hG.length_eq]; exact hbnd.len (by omega)))
            have HBN := Lib.hid hbnd
            have HC := Lib.hid hc
            clear hc hbnd
            go_wp2_with fail
            refine HCH.out.mono ?_
            rintro e w5 ⟨rfl, rfl⟩
            go_wp2_with fail
            refine HST.out.mono ?_
            rintro e w6 ⟨⟨v6, G, rfl, hp, hr⟩, hb6⟩
            have HX6 := Lib.hid (And.intro hp (And.intro hr (HB.out.trans (hb6.mono HB.out.size))))
            clear hp hr hb6
            go_wp2_with fail
            go_roundw
            case rel =>
              obtain ⟨hp, hr, hb6⟩ := HX6.out
              have hsay := (says_all (moves m sw (fun o => (cvN (chiK lq c nq) m o).testBit) S)).perm hp
              refine ⟨k + 1, G, by go_num, by omega, Lib.hid hb6, Lib.hid hr, Lib.hid (HTL2.out.step hsay fun o d hd => bits_say HLQ.out (by omega) HC.out hc0 o d hd), Lib.hid (HOF.out.step hsay.of), Lib.hid (by rw [hp.length_eq]; exact HBN.out.len (by omega))⟩
            case measure => simp [intOf] <;> omega
          · obtain rfl : k = nt := by omega
            have hs60 : ∀ s ∈ S, s.o ≤ 60 ∧ s.d ≤ m := fun s hs => ⟨by
              have h1 := HOF.out s hs
              have h2 := HTL2.out.few s hs
              split at h1 <;> omega, HTL2.out.few s hs⟩
            have HPD := Lib.hid (pd_any m nq ns _ S wr HRS.out hs60 (by omega) (by omega) (by omega))
            have w32 : IntKind.u32.wrap (nq : Int) = nq := by simp [IntKind.wrap, IntKind.bits, IntKind.signed]; omega
            have HTD := Lib.hid (HTL2.out.told nq)
            clear hs60
            go_wp2_with fail
            refine HPD.out.mono ?_
            rintro e w7 ⟨rfl, hb7⟩
            have hbb := HB.out.trans (hb7.mono HB.out.size)
            have HDI := Lib.hid (dis_any nq k _ _ lq lt sw w7 (HR1x.out.below hbb) (HR2x.out.below hbb) (by omega) (by omega))
            have HB7 := Lib.hid hbb
            clear hb7 hbb
            go_wp2_with fail
            refine HDI.out.mono ?_
            rintro e w8 ⟨rfl, hb8⟩
            have hD := D_le_add (sw := sw) (a := ltr lq) (b := ltr lt) nq k
            have HTO := Lib.hid (told_any m (D sw (ltr lq) (ltr lt) nq k) w8 (by omega) (by omega))
            have HB8 := Lib.hid (HB7.out.trans (hb8.mono HB7.out.size))
            clear hb8 hD
            go_wp2_with fail
            rw [HTD.out]
            refine HTO.out.mono ?_
            rintro e w9 ⟨rfl, rfl⟩
            go_wp2_with fail
            go_ret
            exact ⟨rfl, HBX.out.trans (HB8.out.mono HBX.out.size)⟩
    · clear hb2
      go_wp2_with fail
      go_ret
      exact ⟨rfl, HB2.out⟩
  · go_wp2_with fail
    refine (HNT.out _ (HT.out.below HB1.out)).mono ?_
    rintro e w2 ⟨hn2, hb2⟩
    have HB2 := Lib.hid (HB1.out.trans (hb2.mono HB1.out.size))
    clear hb2
    rcases hn2 with ⟨ht40, htL, v2, rfl, hr2⟩ | rfl
    · obtain ⟨a2, c2, rfl⟩ := hr2.form
      clear htL hr2
      go_wp2_with fail
      go_ret
      exact ⟨rfl, HB2.out⟩
    · go_wp2_with fail
      go_ret
      exact ⟨rfl, HB2.out⟩
end Go.Proofs.Ytpkkagiplockiaa.Nfa
