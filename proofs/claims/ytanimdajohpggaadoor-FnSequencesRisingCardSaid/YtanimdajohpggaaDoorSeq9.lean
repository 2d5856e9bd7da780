/- The three laws of sequences. -/
import Derived.Test.YtanimdajohpggaaDoorSeq8
import Derived.Test.YtanimdajohpggaaDoorSeqMany
import Derived.Test.YtanimdajohpggaaDoorLess
namespace Go.Proofs.YtanimdajohpggaaDoor.Seq
open Go.ChangeShapes Go.WideShapes Go.ChangeAt Go.RowKit Go.Trav Go.Utf
set_option linter.unusedVariables false
set_option maxRecDepth 100000
theorem law_seq (a b c : Int) (w : World) (hg : Glob w) (ha : -2147483648 ≤ a ∧ a ≤ 2147483647) (hb0 : -2147483648 ≤ b ∧ b ≤ 2147483647) (hc : -2147483648 ≤ c ∧ c ≤ 2147483647) :
    Calls Tryd.prog 5 #[.int .i32 a, .int .i32 b, .int .i32 c] w fun e w' => e = .returned (.bool true) ∧ Below w.heap.size w w' := by
  by_cases hb : Bd (a, b)
  · by_cases hl : Let c
    · go_enter Tryd.func5, Tryd.ntmps5
      go_wp2_with fail
      refine (ranged_yes a b _ hb).mono ?_
      rintro e w1 ⟨rfl, rfl⟩
      go_wp2_with fail
      refine (isl_yes c _ hl).mono ?_
      rintro e w1 ⟨rfl, rfl⟩
      go_wp2_with fail
      refine (sequences_any a b _ hg hb).mono ?_
      rintro e w1 ⟨ov, out, ws, rfl, h1, h2, h3, h4⟩
      obtain ⟨oa, oc, rfl⟩ := h2.form
      have HR := Lib.hid h2
      have HO := Lib.hid h3
      have HG := Lib.hid (fun q hq => (h1.good q hq).1)
      have hiff := done_covB h1 hl
      have e1 : (out.filter fun q => covB q c).length = cnt out c out.length := by unfold cnt; rw [List.take_length]
      rw [e1] at hiff
      have hcl := cnt_le out c out.length
      have hbd := h2.bound
      clear h1 h2 h3 e1
      by_cases hab : a ≤ c ∧ c ≤ b
      · obtain ⟨k1, k2⟩ := hab
        have hpos := hiff.2 ⟨k1, k2⟩
        clear hiff
        generalize hm : cnt out c out.length = m at *
        have HM := Lib.hid hm
        clear hm
        go_wp2_with fail
        refine (bytes_any c _ hl).mono ?_
        rintro e w2 ⟨bv, rfl, r1, r2⟩
        have R1 := Lib.hid r1
        clear r1
        go_wp2_with fail
        refine (covered_any w.heap.size _ _ out ws c _ (HR.out.below r2) (HO.out.mod (Mod.of_below r2) (F := fun _ => False) (fun _ h => h.elim)) HG.out R1.out).mono ?_
        rw [HM.out]
        rintro e w3 ⟨rfl, kk, rfl⟩
        go_wp2_with fail
        go_ret
        exact ⟨rfl, below_drewN (h4.trans (r2.mono h4.size)) _⟩
      · have hz : ¬ 0 < cnt out c out.length := fun h => hab (hiff.1 h)
        have hz2 : cnt out c out.length = 0 := by omega
        have HM := Lib.hid hz2
        clear hiff hz hz2 hcl
        by_cases k1 : a ≤ c
        · have k2 : ¬ c ≤ b := fun h => hab ⟨k1, h⟩
          have k3 : b < c := by omega
          have k4 : decide (c ≤ b) = false := by simpa using k2
          clear hab k2
          go_wp2_with fail
          refine (bytes_any c _ hl).mono ?_
          rintro e w2 ⟨bv, rfl, r1, r2⟩
          have R1 := Lib.hid r1
          clear r1
          go_wp2_with fail
          refine (covered_any w.heap.size _ _ out ws c _ (HR.out.below r2) (HO.out.mod (Mod.of_below r2) (F := fun _ => False) (fun _ h => h.elim)) HG.out R1.out).mono ?_
          rw [HM.out]
          rintro e w3 ⟨rfl, kk, rfl⟩
          go_wp2_with fail
          go_ret
          exact ⟨rfl, below_drewN (h4.trans (r2.mono h4.size)) _⟩
        · clear hab
          go_wp2_with fail
          refine (bytes_any c _ hl).mono ?_
          rintro e w2 ⟨bv, rfl, r1, r2⟩
          have R1 := Lib.hid r1
          clear r1
          go_wp2_with fail
          refine (covered_any w.heap.size _ _ out ws c _ (HR.out.below r2) (HO.out.mod (Mod.of_below r2) (F := fun _ => False) (fun _ h => h.elim)) HG.out R1.out).mono ?_
          rw [HM.out]
          rintro e w3 ⟨rfl, kk, rfl⟩
          go_wp2_with fail
          go_ret
          exact ⟨rfl, below_drewN (h4.trans (r2.mono h4.size)) _⟩
    · go_enter Tryd.func5, Tryd.ntmps5
      go_wp2_with fail
      refine (ranged_yes a b _ hb).mono ?_
      rintro e w1 ⟨rfl, rfl⟩
      go_wp2_with fail
      refine (isl_no c _ hl).mono ?_
      rintro e w1 ⟨rfl, rfl⟩
      go_wp2_with fail
      go_ret
      exact ⟨rfl, Below.refl _ _⟩
  · go_enter Tryd.func5, Tryd.ntmps5
    go_wp2_with fail
    refine (ranged_no a b _ hb).mono ?_
    rintro e w1 ⟨rfl, rfl⟩
    go_wp2_with fail
    go_ret
    exact ⟨rfl, Below.refl _ _⟩
def szs (out : List (Int × Int)) (k : Nat) : Int := ((out.map fun q => q.2 - q.1 + 1).take k).sum
theorem szs_succ (out : List (Int × Int)) (k : Nat) (q : Int × Int) (h : out[k]? = some q) : szs out (k + 1) = szs out k + (q.2 - q.1 + 1) := by
  unfold szs
  rw [take_snoc' _ k (q.2 - q.1 + 1) (by rw [List.getElem?_map, h]; rfl), List.sum_append]
  simp
theorem law_count (a b : Int) (w : World) (hg : Glob w) (ha : -2147483648 ≤ a ∧ a ≤ 2147483647) (hb0 : -2147483648 ≤ b ∧ b ≤ 2147483647) :
    Calls Tryd.prog 6 #[.int .i32 a, .int .i32 b] w fun e w' => e = .returned (.bool true) ∧ Below w.heap.size w w' := by
  by_cases hb : Bd (a, b)
  · by_cases hab : b < a
    · go_enter Tryd.func6, Tryd.ntmps6
      go_wp2_with fail
      refine (ranged_yes a b _ hb).mono ?_
      rintro e w1 ⟨rfl, rfl⟩
      go_wp2_with fail
      go_ret
      exact ⟨rfl, Below.refl _ _⟩
    · have hbb : 0 ≤ a ∧ a ≤ 1114111 ∧ 0 ≤ b ∧ b ≤ 1114111 := hb
      obtain ⟨b1, b2, b3, b4⟩ := hbb
      go_enter Tryd.func6, Tryd.ntmps6
      go_wp2_with fail
      refine (ranged_yes a b _ hb).mono ?_
      rintro e w1 ⟨rfl, rfl⟩
      go_wp2_with fail
      refine (sequences_any a b _ hg hb).mono ?_
      rintro e w1 ⟨ov, out, ws, rfl, h1, h2, h3, h4⟩
      obtain ⟨oa, oc, rfl⟩ := h2.form
      have HR := Lib.hid h2
      have HO := Lib.hid h3
      have HG := Lib.hid (fun q hq => (h1.good q hq).1)
      have hsum := done_sum h1 b1 b4
      have hnn : ∀ x ∈ out.map fun q => q.2 - q.1 + 1, 0 ≤ x := by
        intro x hx
        obtain ⟨q, hq, rfl⟩ := List.mem_map.1 hx
        have := (h1.good q hq).1.2.2.1
        omega
      have hbt := btw_le b1 b4
      have hpart : ∀ k, 0 ≤ szs out k ∧ szs out k ≤ 1114112 := fun k => by
        have := sum_take hnn k
        unfold szs
        rw [hsum] at this
        omega
      have hfin : szs out out.length = btw a b := by unfold szs; rw [List.take_of_length_le (by simp)]; exact hsum
      have HP := Lib.hid hpart
      have HF := Lib.hid hfin
      have hbd := h2.bound
      clear h1 h2 h3 hsum hnn hpart hfin
      go_wp2_with fail
      go_loopw [7, 8] (fun n i wr => ∃ k : Nat, k ≤ out.length ∧ i = .int .i64 k ∧ n = .int .i64 (szs out k) ∧ (∃ q, wr = w1.drewN q)) (fun _ i _ => out.length - (intOf i).toNat)
      case atStart => exact ⟨0, Nat.zero_le _, rfl, rfl, ⟨0, rfl⟩⟩
      case round =>
        obtain ⟨k, hk, rfl, rfl, ⟨nq, rfl⟩⟩ := hrel
        by_cases hlt : k < out.length
        · obtain ⟨bb, off, _, sv, hx, hv, hc⟩ := Reads.one id (l := ws) (by simpa using HR.out.drewN nq) hlt
          cases hx
          have hq : out[k]? = some out[k] := List.getElem?_eq_getElem hlt
          generalize out[k] = q at hq
          have hrd := (reads_of_owns (HO.out k sv q hv hq)).drewN nq
          have hgood := HG.out q (List.mem_of_getElem? hq)
          obtain ⟨ga, gc, rfl⟩ := hrd.form
          simp only [id] at hc
          have hc' : w1.cell? ⟨bb, off + k, none⟩ = some (.slice ga (wid q.1) gc) := by simpa using hc
          have HS := Lib.hid (szs_succ out k q hq)
          have hp0 := HP.out k
          have hp1 := HP.out (k + 1)
          rw [HS.out] at hp1
          have HRD := Lib.hid hrd
          have HD := Lib.hid (good_digits hgood)
          have HM : Hid (many (seqOf q) = q.2 - q.1 + 1) := Lib.hid (good_many hgood)
          have w1' := wid_pos q.1
          have w4 := wid_le q.1
          have hqq : 1 ≤ q.2 - q.1 + 1 := by have := hgood.2.2.1; omega
          clear hrd hv hq hgood
          generalize hsz : szs out k = S at *
          have HSZ := Lib.hid hsz
          generalize hdd : q.2 - q.1 + 1 = D at *
          have HDD := Lib.hid hdd
          clear hsz hdd
          have t1 : decide ((wid q.1 : Int) < 1) = false := by simp; omega
          have t2 : decide (4 < (wid q.1 : Int)) = false := by simp; omega
          have t3 : (D == 0) = false := by simp; omega
          go_wp2_with fail
          refine (many_any _ _ _ _ w4 HD.out HRD.out).mono ?_
          rw [HM.out]
          rintro e w2 ⟨rfl, kk, rfl⟩
          go_wp2_with fail
          go_roundw
          case rel => exact ⟨k + 1, by omega, by go_num, by rw [HS.out], ⟨_, rfl⟩⟩
          case measure => simp [intOf]; omega
        · obtain rfl : k = out.length := by omega
          rw [HF.out]
          go_wp2_with fail
          refine (between_any a b _ b1 b2 b3 b4).mono ?_
          rintro e w2 ⟨rfl, rfl⟩
          go_wp2_with fail
          go_ret
          exact ⟨rfl, below_drewN h4 _⟩
  · go_enter Tryd.func6, Tryd.ntmps6
    go_wp2_with fail
    refine (ranged_no a b _ hb).mono ?_
    rintro e w1 ⟨rfl, rfl⟩
    go_wp2_with fail
    go_ret
    exact ⟨rfl, Below.refl _ _⟩
theorem lessB_lessI : ∀ (l m : List UInt8), Less.lessB l m = lessI (l.map fun c => (c.toNat : Int)) (m.map fun c => (c.toNat : Int)) := by
  intro l
  induction l with
  | nil => intro m; cases m <;> rfl
  | cons a s ih =>
    intro m
    cases m with
    | nil => rfl
    | cons b t =>
      simp only [Less.lessB, List.map_cons, lessI]
      by_cases h : a = b
      · rw [if_pos h, if_pos (by rw [h])]; exact ih t
      · have h2 : ¬ (a.toNat : Int) = (b.toNat : Int) := fun e => h (UInt8.toNat_inj.1 (by omega))
        rw [if_neg h, if_neg h2]
        congr 1
        apply propext
        omega
theorem ends_less {p q : Int × Int} (hp : Utf.Good p.1 p.2) (hq : Utf.Good q.1 q.2) (h : p.2 < q.1) : Less.lessB (endsStr 1 (seqOf p)).data.toList (endsStr 0 (seqOf q)).data.toList = true := by
  rw [lessB_lessI, endsStr_nums 1 _ (good_digits hp), endsStr_nums 0 _ (good_digits hq)]
  have e1 : (seqOf p).map (pick 1) = ubytes p.2 := seqOf_snd hp
  have e2 : (seqOf q).map (pick 0) = ubytes q.1 := seqOf_fst hq
  rw [e1, e2]
  exact ubytes_less (by have := hp.1; have := hp.2.2.1; omega) h
theorem cell_regrown {w : World} {a : Addr} {v : Value} (h : w.cell? a = some v) (d : Nat) (os : Array Obj) : (Go.Sort.grow (redrawn w d) os).cell? a = some v := by
  rw [Go.Sort.cell?_grow _ _ _ (by simpa [redrawn] using World.block_lt_of_cell? w _ h)]; exact h
theorem ends_one (v : Value) (n : Nat) (ls : List (Int × Int)) (w : World) (h0 : 1 ≤ n) (hn : n ≤ 4) (hd : ∀ p ∈ ls, p.1 ≤ p.2 ∧ 0 ≤ p.1 ∧ p.2 ≤ 255) (h : Reads w v n 2 (ls.flatMap rgCells)) :
    Calls Tryd.prog 24 #[v, .int .i64 1] w fun e w' => e = .returned (.string (endsStr 1 ls)) ∧ Below w.heap.size w w' := ends_any v n 1 ls w (Or.inr rfl) h0 hn hd h
theorem ends_nil (v : Value) (n : Nat) (ls : List (Int × Int)) (w : World) (h0 : 1 ≤ n) (hn : n ≤ 4) (hd : ∀ p ∈ ls, p.1 ≤ p.2 ∧ 0 ≤ p.1 ∧ p.2 ≤ 255) (h : Reads w v n 2 (ls.flatMap rgCells)) :
    Calls Tryd.prog 24 #[v, .int .i64 0] w fun e w' => e = .returned (.string (endsStr 0 ls)) ∧ Below w.heap.size w w' := ends_any v n 0 ls w (Or.inl rfl) h0 hn hd h
theorem less_yes (s t : ByteArray) (w : World) (hs : s.size ≤ maxLen) (ht : t.size ≤ maxLen) (hr : Less.lessB s.data.toList t.data.toList = true) :
    Calls Tryd.prog 23 #[.string s, .string t] w fun e w' => e = .returned (.bool true) ∧ Below w.heap.size w w' :=
  (Less.less_any s t true w hs ht hr).mono fun e w' ⟨h, k, hk⟩ => ⟨h, by rw [hk]; exact below_draws w k⟩
set_option maxHeartbeats 800000 in
theorem law_rise (a b : Int) (w : World) (hg : Glob w) (ha : -2147483648 ≤ a ∧ a ≤ 2147483647) (hb0 : -2147483648 ≤ b ∧ b ≤ 2147483647) :
    Calls Tryd.prog 7 #[.int .i32 a, .int .i32 b] w fun e w' => e = .returned (.bool true) ∧ Below w.heap.size w w' := by
  by_cases hb : Bd (a, b)
  · by_cases hab : b < a
    · go_enter Tryd.func7, Tryd.ntmps7
      go_wp2_with fail
      refine (ranged_yes a b _ hb).mono ?_
      rintro e w1 ⟨rfl, rfl⟩
      go_wp2_with fail
      go_ret
      exact ⟨rfl, Below.refl _ _⟩
    · have hbb : 0 ≤ a ∧ a ≤ 1114111 ∧ 0 ≤ b ∧ b ≤ 1114111 := hb
      obtain ⟨b1, b2, b3, b4⟩ := hbb
      go_enter Tryd.func7, Tryd.ntmps7
      go_wp2_with fail
      refine (ranged_yes a b _ hb).mono ?_
      rintro e w1 ⟨rfl, rfl⟩
      go_wp2_with fail
      refine (sequences_any a b _ hg hb).mono ?_
      rintro e w1 ⟨ov, out, ws, rfl, h1, h2, h3, h4⟩
      obtain ⟨oa, oc, rfl⟩ := h2.form
      have HR := Lib.hid h2
      have HO := Lib.hid h3
      have HG := Lib.hid (fun q hq => (h1.good q hq).1)
      have HP := Lib.hid h1.rise
      have hsum := done_sum h1 b1 b4
      have hbt := btw_le b1 b4
      have hiff : 0 < out.length ↔ 0 < btw a b := by
        rw [← hsum]
        cases out with
        | nil => simp
        | cons q t =>
          have hnn : ∀ x ∈ t.map fun q => q.2 - q.1 + 1, 0 ≤ x := by
            intro x hx
            obtain ⟨q', hq, rfl⟩ := List.mem_map.1 hx
            have := (h1.good q' (by simp [hq])).1.2.2.1
            omega
          have := (sum_take hnn (t.map fun q => q.2 - q.1 + 1).length).1
          rw [List.take_length] at this
          have h5 := (h1.good q (by simp)).1.2.2.1
          simp
          omega
      have hbd := h2.bound
      clear h1 h2 h3 hsum
      go_wp2_with fail
      go_loopw [7] (fun i wr => ∃ k : Nat, 1 ≤ k ∧ (k ≤ out.length ∨ k = 1) ∧ i = .int .i64 k ∧ Below w1.heap.size w1 wr) (fun i _ => out.length - (intOf i).toNat)
      case atStart => exact ⟨1, Nat.le_refl _, Or.inr rfl, rfl, Below.refl _ _⟩
      case round =>
        obtain ⟨k, hk1, hk, rfl, hbw⟩ := hrel
        by_cases hlt : k < out.length
        · obtain ⟨j, rfl⟩ : ∃ j, k = j + 1 := ⟨k - 1, by omega⟩
          obtain ⟨bb, off, _, sv, hx, hv, hc⟩ := Reads.one id (l := ws) (by simpa using HR.out.below hbw) (show j < out.length by omega)
          cases hx
          obtain ⟨bb2, off2, _, sv2, hx, hv2, hc2⟩ := Reads.one id (l := ws) (by simpa using HR.out.below hbw) hlt
          cases hx
          have hq : out[j]? = some out[j] := List.getElem?_eq_getElem (by omega)
          have hq2 : out[j + 1]? = some out[j + 1] := List.getElem?_eq_getElem hlt
          have hpw := List.pairwise_iff_getElem.1 HP.out j (j + 1) (by omega) hlt (by omega)
          generalize out[j] = q at hq hpw
          generalize out[j + 1] = q2 at hq2 hpw
          have hrd := (reads_of_owns (HO.out j sv q hv hq)).below hbw
          have hrd2 := (reads_of_owns (HO.out (j + 1) sv2 q2 hv2 hq2)).below hbw
          have hgood := HG.out q (List.mem_of_getElem? hq)
          have hgood2 := HG.out q2 (List.mem_of_getElem? hq2)
          obtain ⟨ga, gc, rfl⟩ := hrd.form
          obtain ⟨ga2, gc2, rfl⟩ := hrd2.form
          simp only [id] at hc hc2
          have HL := Lib.hid (ends_less hgood hgood2 hpw)
          have HRD := Lib.hid hrd
          have HRD2 := Lib.hid hrd2
          have HD := Lib.hid (good_digits hgood)
          have HD2 := Lib.hid (good_digits hgood2)
          have w1' := wid_pos q.1
          have w4 := wid_le q.1
          have w1'2 := wid_pos q2.1
          have w42 := wid_le q2.1
          have hss : (endsStr 1 (seqOf q)).size ≤ maxLen := by rw [endsStr_size, show (seqOf q).length = wid q.1 from seqOf_len hgood]; unfold maxLen; omega
          have hss2 : (endsStr 0 (seqOf q2)).size ≤ maxLen := by rw [endsStr_size, show (seqOf q2).length = wid q2.1 from seqOf_len hgood2]; unfold maxLen; omega
          have i1 : ((j + 1 : Nat) : Int) - 1 = j := by omega
          have i2 : IntKind.i64.wrap (((j + 1 : Nat) : Int) - 1) = j := by rw [i1]; exact IntWalk.i64_in _ (by omega)
          clear hrd hrd2 hv hv2 hq hq2 hgood hgood2 hpw
          go_wp2_with fail
          have r1 := cell_regrown hc
          have r2 := cell_regrown hc2
          clear hc hc2
          refine wp_region_quiet_below (by kernel_rfl) (by kernel_rfl) ?_
          repeat (first | go_big_quiet_step (first | (go_at_call 24; first | with_reducible exact Calls.regrown_of (ends_one _ _ _ _ w1' w4 HD.out (HRD.out.below (below_regrown _ _ _))) | with_reducible exact Calls.regrown_of (ends_nil _ _ _ _ w1'2 w42 HD2.out (HRD2.out.below (below_regrown _ _ _)))) | (go_at_call 23; with_reducible exact Calls.regrown_of (less_yes _ _ _ hss hss2 HL.out))) | quiet_step (first | (go_at_call 24; first | with_reducible exact Calls.regrown_of (ends_one _ _ _ _ w1' w4 HD.out (HRD.out.below (below_regrown _ _ _))) | with_reducible exact Calls.regrown_of (ends_nil _ _ _ _ w1'2 w42 HD2.out (HRD2.out.below (below_regrown _ _ _)))) | (go_at_call 23; with_reducible exact Calls.regrown_of (less_yes _ _ _ hss hss2 HL.out))))
          refine wpQuiet_nil ?_
          intro _ hw'
          obtain ⟨⟨dq, osq⟩, hw''⟩ := hw'
          subst hw''
          have hbw2 := hbw.trans ((below_regrown wr dq osq).mono hbw.size)
          clear r1 r2 i1 i2
          go_wp2_with fail
          go_roundw
          case rel => exact ⟨j + 1 + 1, by omega, Or.inl (by omega), by go_num, hbw2⟩
          case measure => simp [intOf]; omega
        · clear hk
          by_cases hpos : 0 < out.length
          · have hpb := hiff.1 hpos
            clear hiff
            go_wp2_with fail
            refine (between_any a b _ b1 b2 b3 b4).mono ?_
            rintro e w2 ⟨rfl, rfl⟩
            go_wp2_with fail
            go_ret
            exact ⟨rfl, h4.trans (hbw.mono h4.size)⟩
          · have hpb : ¬ 0 < btw a b := fun h => hpos (hiff.2 h)
            have hpb2 : decide (0 < btw a b) = false := by simpa using hpb
            clear hiff hpb
            go_wp2_with fail
            refine (between_any a b _ b1 b2 b3 b4).mono ?_
            rintro e w2 ⟨rfl, rfl⟩
            go_wp2_with fail
            go_ret
            exact ⟨rfl, h4.trans (hbw.mono h4.size)⟩
  · go_enter Tryd.func7, Tryd.ntmps7
    go_wp2_with fail
    refine (ranged_no a b _ hb).mono ?_
    rintro e w1 ⟨rfl, rfl⟩
    go_wp2_with fail
    go_ret
    exact ⟨rfl, Below.refl _ _⟩
end Go.Proofs.YtanimdajohpggaaDoor.Seq
