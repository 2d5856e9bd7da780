/- spec.Letter: its walk. -/
import Derived.Test.YtanimdajohpggaaDoorUtf0
namespace Go.Proofs.YtanimdajohpggaaDoor.Utf0
open Go.ChangeShapes Go.WideShapes Go.ChangeAt Go.RowKit Go.Trav Go.Utf
set_option linter.unusedVariables false
set_option maxRecDepth 100000
theorem isl_yes (x : Int) (w : World) (h : Let x) : Calls Tryd.prog 17 #[.int .i64 x] w fun e w' => e = .returned (.bool true) ∧ w = w' := by
  unfold Let at h
  obtain ⟨h1, h2, h3⟩ := h
  by_cases h4 : x < 55296
  · clear h3
    go_enter Tryd.func17, Tryd.ntmps17
    go_wp2_with fail
    go_ret
    exact ⟨rfl, rfl⟩
  · have h5 : 57343 < x := by omega
    clear h3
    go_enter Tryd.func17, Tryd.ntmps17
    go_wp2_with fail
    go_ret
    exact ⟨rfl, rfl⟩
theorem isl_no (x : Int) (w : World) (h : ¬ Let x) : Calls Tryd.prog 17 #[.int .i64 x] w fun e w' => e = .returned (.bool false) ∧ w = w' := by
  unfold Let at h
  by_cases h1 : 0 ≤ x
  · by_cases h2 : x ≤ 1114111
    · have h3 : ¬ x < 55296 := by omega
      have h4 : ¬ 57343 < x := by omega
      clear h
      go_enter Tryd.func17, Tryd.ntmps17
      go_wp2_with fail
      go_ret
      exact ⟨rfl, rfl⟩
    · clear h
      go_enter Tryd.func17, Tryd.ntmps17
      go_wp2_with fail
      go_ret
      exact ⟨rfl, rfl⟩
  · clear h
    go_enter Tryd.func17, Tryd.ntmps17
    go_wp2_with fail
    go_ret
    exact ⟨rfl, rfl⟩
theorem reads_new (w : World) (l : List Value) (T : TypeId) (hl : l.length ≤ 1000) (n : Nat) (hn : l.length = n) (c : Array Value) (hc : c = l.toArray) :
    Reads (w.alloc (.cells c T)) (.slice (some ⟨w.heap.size, 0, none⟩) n n) n 1 l := by
  subst hc hn
  refine ⟨_, _, rfl, Nat.le_refl _, by unfold maxLen; omega, fun h => by simp at h, by omega, fun hp => ⟨_, 0, rfl, fun j u hj => ?_⟩⟩
  rw [Nat.zero_add]
  exact block_cell (heap_alloc_new _ _) (by simpa using hj)
theorem bytes_any (x : Int) (w : World) (h : Let x) : Calls Tryd.prog 20 #[.int .i64 x] w fun e w' => ∃ ov, e = .returned ov ∧ Reads w' ov (wid x) 1 ((ubytes x).map bI) ∧ Below w.heap.size w w' := by
  have h0 : 0 ≤ x := h.1
  have h9 : x ≤ 1114111 := h.2.1
  clear h
  rcases wid_cases x with ⟨e1, a1⟩ | ⟨e1, a1, a2⟩ | ⟨e1, a1, a2, a3⟩ | ⟨e1, a1, a2, a3⟩
  · have E := Lib.hid e1
    have B := Lib.hid (bytes1 a1)
    clear e1
    go_enter Tryd.func20, Tryd.ntmps20
    go_wp2_with fail
    go_ret
    rw [E.out, B.out]
    exact ⟨_, rfl, reads_new _ _ _ (by simp) _ rfl _ rfl, (Below.refl _ _).alloc (Nat.le_refl _) _⟩
  · have E := Lib.hid e1
    have B := Lib.hid (bytes2 a1 a2)
    have d1 : 0 ≤ x / 64 ∧ x / 64 ≤ 31 := by omega
    have d2 : 0 ≤ x % 64 ∧ x % 64 ≤ 63 := by omega
    clear e1
    go_enter Tryd.func20, Tryd.ntmps20
    go_wp2_with fail
    go_ret
    rw [E.out, B.out]
    exact ⟨_, rfl, reads_new _ _ _ (by simp) _ rfl _ rfl, (Below.refl _ _).alloc (Nat.le_refl _) _⟩
  · have E := Lib.hid e1
    have B := Lib.hid (bytes3 a1 a2 a3)
    have d1 : 0 ≤ x / 4096 ∧ x / 4096 ≤ 15 := by omega
    have d2 : 0 ≤ x / 64 % 64 ∧ x / 64 % 64 ≤ 63 := by omega
    have d3 : 0 ≤ x % 64 ∧ x % 64 ≤ 63 := by omega
    clear e1
    go_enter Tryd.func20, Tryd.ntmps20
    go_wp2_with fail
    go_ret
    rw [E.out, B.out]
    exact ⟨_, rfl, reads_new _ _ _ (by simp) _ rfl _ rfl, (Below.refl _ _).alloc (Nat.le_refl _) _⟩
  · have E := Lib.hid e1
    have B := Lib.hid (bytes4 a1 a2 a3)
    have d1 : 0 ≤ x / 262144 ∧ x / 262144 ≤ 4 := by omega
    have d2 : 0 ≤ x / 4096 % 64 ∧ x / 4096 % 64 ≤ 63 := by omega
    have d3 : 0 ≤ x / 64 % 64 ∧ x / 64 % 64 ≤ 63 := by omega
    have d4 : 0 ≤ x % 64 ∧ x % 64 ≤ 63 := by omega
    clear e1
    go_enter Tryd.func20, Tryd.ntmps20
    go_wp2_with fail
    go_ret
    rw [E.out, B.out]
    exact ⟨_, rfl, reads_new _ _ _ (by simp) _ rfl _ rfl, (Below.refl _ _).alloc (Nat.le_refl _) _⟩
theorem tail_any (c : Int) (w : World) : Calls Tryd.prog 59 #[.int .u8 c] w fun e w' => e = .returned (.bool (decide (tl c))) ∧ w = w' := by
  by_cases h1 : 128 ≤ c
  · by_cases h2 : c ≤ 191
    · have E : Hid (decide (tl c) = true) := Lib.hid (by simp [tl, h1, h2])
      go_enter Tryd.func59, Tryd.ntmps59
      go_wp2_with fail
      go_ret
      exact ⟨by rw [E.out]; rfl, rfl⟩
    · have E : Hid (decide (tl c) = false) := Lib.hid (by simp [tl, h1, h2])
      go_enter Tryd.func59, Tryd.ntmps59
      go_wp2_with fail
      go_ret
      exact ⟨by rw [E.out]; rfl, rfl⟩
  · have E : Hid (decide (tl c) = false) := Lib.hid (by simp [tl, h1])
    go_enter Tryd.func59, Tryd.ntmps59
    go_wp2_with fail
    go_ret
    exact ⟨by rw [E.out]; rfl, rfl⟩
theorem wide_any (c : Int) (w : World) (h0 : 0 ≤ c) (h9 : c ≤ 255) : Calls Tryd.prog 58 #[.int .u8 c] w fun e w' => e = .returned (.tuple #[.int .i64 ((wideP c).1 : Nat), .int .i64 (wideP c).2]) ∧ w = w' := by
  have hc : (c ≤ 127 ∧ wideP c = (1, c)) ∨ (¬ c ≤ 127 ∧ ¬ 194 ≤ c ∧ wideP c = (0, 0)) ∨ (¬ c ≤ 127 ∧ 194 ≤ c ∧ c ≤ 223 ∧ wideP c = (2, c - 192)) ∨ (¬ c ≤ 127 ∧ 194 ≤ c ∧ ¬ c ≤ 223 ∧ 224 ≤ c ∧ c ≤ 239 ∧ wideP c = (3, c - 224))
      ∨ (¬ c ≤ 127 ∧ 194 ≤ c ∧ ¬ c ≤ 223 ∧ 224 ≤ c ∧ ¬ c ≤ 239 ∧ 240 ≤ c ∧ c ≤ 244 ∧ wideP c = (4, c - 240)) ∨ (¬ c ≤ 127 ∧ 194 ≤ c ∧ ¬ c ≤ 223 ∧ 224 ≤ c ∧ ¬ c ≤ 239 ∧ 240 ≤ c ∧ ¬ c ≤ 244 ∧ wideP c = (0, 0)) := by
    unfold wideP
    split
    · left; exact ⟨by assumption, rfl⟩
    · rename_i n1
      right
      split
      · right; left; rename_i n2; exact ⟨n1, n2.1, n2.2, rfl⟩
      · rename_i n2
        split
        · rename_i n3; right; right; left; exact ⟨n1, by omega, by omega, n3.1, n3.2, rfl⟩
        · rename_i n3
          split
          · rename_i n4; right; right; right; left; exact ⟨n1, by omega, by omega, by omega, by omega, n4.1, n4.2, rfl⟩
          · rename_i n4
            by_cases h : 194 ≤ c
            · right; right; right; right; exact ⟨n1, h, by omega, by omega, by omega, by omega, by omega, rfl⟩
            · left; exact ⟨n1, h, rfl⟩
  rcases hc with ⟨k1, e⟩ | ⟨k1, k2, e⟩ | ⟨k1, k2, k3, e⟩ | ⟨k1, k2, k3, k4, k5, e⟩ | ⟨k1, k2, k3, k4, k5, k6, k7, e⟩ | ⟨k1, k2, k3, k4, k5, k6, k7, e⟩
  all_goals
    have E := Lib.hid e
    clear e
    try have j1 : ¬ 224 ≤ c := by omega
    try have j2 : ¬ 240 ≤ c := by omega
    go_enter Tryd.func58, Tryd.ntmps58
    go_wp2_with fail
    go_ret2
    exact ⟨by rw [E.out]; rfl, rfl⟩
theorem wideP_bd (c : Int) (h0 : 0 ≤ c) : (wideP c).1 ≤ 4 ∧ 0 ≤ (wideP c).2 ∧ (wideP c).2 ≤ 127 := by
  unfold wideP
  split
  · exact ⟨by omega, h0, by assumption⟩
  · split
    · rename_i n2; exact ⟨by omega, by simp only; omega, by simp only; omega⟩
    · split
      · rename_i n2; exact ⟨by omega, by simp only; omega, by simp only; omega⟩
      · split
        · rename_i n2; exact ⟨by omega, by simp only; omega, by simp only; omega⟩
        · exact ⟨by omega, by omega, by omega⟩
theorem wid_pos (x : Int) : 1 ≤ wid x := by rcases wid_cases x with ⟨e, _⟩ | ⟨e, _⟩ | ⟨e, _⟩ | ⟨e, _⟩ <;> omega
set_option maxHeartbeats 4000000 in
theorem letter_any (v : Value) (n : Nat) (l : List Int) (w : World) (h : Reads w v n 1 (l.map bI)) (hb : ∀ x ∈ l, 0 ≤ x ∧ x ≤ 255) :
    Calls Tryd.prog 43 #[v] w fun e w' => ∃ r k, e = .returned (.tuple #[.int .i64 r, .int .i64 (k : Nat)]) ∧ Begins l r k ∧ Below w.heap.size w w' := by
  have hbd := h.bound
  have hl : l.length = n := by have := h.len; simpa using this
  obtain ⟨ao, cap, rfl⟩ := h.form
  have H := Lib.hid h
  have HB := Lib.hid hb
  have HL := Lib.hid hl
  clear h hb hl
  rcases Nat.eq_zero_or_pos n with hn | hn
  · subst hn
    go_enter Tryd.func43, Tryd.ntmps43
    go_wp2_with fail
    go_ret2
    refine ⟨0, 0, rfl, Or.inl ⟨rfl, rfl, fun x hx hp => ?_⟩, Below.refl _ _⟩
    have h1 := hp.length_le
    rw [wid_len, HL.out] at h1
    have := wid_pos x
    omega
  · obtain ⟨b, off, _, c, hx, ec, cc⟩ := Reads.one bI H.out (k := 0) hn
    cases hx
    rw [Nat.add_zero] at cc
    unfold bI at cc
    have hc := HB.out c (List.mem_of_getElem? ec)
    have hwb := wideP_bd c hc.1
    have HW := Lib.hid (wide_any c w hc.1 hc.2)
    have HC := Lib.hid hc
    have EC := Lib.hid ec
    obtain ⟨N, hN⟩ : ∃ N, (wideP c).1 = N := ⟨_, rfl⟩
    obtain ⟨r0, hr0⟩ : ∃ r0, (wideP c).2 = r0 := ⟨_, rfl⟩
    rw [hN, hr0] at hwb HW
    have HN := Lib.hid hN
    have HR0 := Lib.hid hr0
    have HX : Hid (∀ x, Let x → ubytes x <+: l → N = wid x ∧ wid x ≤ n ∧ acc l r0 (wid x - 1) = x ∧ ∀ j, 1 ≤ j → j < wid x → tl (l[j]?.getD 0)) := Lib.hid (fun x hx hp => by
      obtain ⟨c', e1, e2, e3, e4, e5⟩ := begins_acc hx hp
      obtain rfl : c' = c := Option.some.inj (e1.symm.trans EC.out)
      rw [HN.out] at e2
      rw [HR0.out] at e4
      rw [HL.out] at e3
      exact ⟨e2, e3, e4, e5⟩)
    obtain ⟨hN4, hr1, hr2⟩ := hwb
    clear ec hc hN hr0
    rcases Nat.eq_zero_or_pos N with hN0 | hN0
    · subst hN0
      go_enter Tryd.func43, Tryd.ntmps43
      go_wp2_with fail
      refine HW.out.mono ?_
      rintro e w1 ⟨rfl, rfl⟩
      go_wp2_with fail
      go_ret2
      refine ⟨0, 0, rfl, Or.inl ⟨rfl, rfl, fun x hx hp => ?_⟩, Below.refl _ _⟩
      have h1 := (HX.out x hx hp).1
      have := wid_pos x
      omega
    · have q1 : ((N : Int) == 0) = false := beq_eq_false_iff_ne.2 (by omega)
      by_cases hNn : n < N
      · go_enter Tryd.func43, Tryd.ntmps43
        go_wp2_with fail
        refine HW.out.mono ?_
        rintro e w1 ⟨rfl, rfl⟩
        go_wp2_with fail
        go_ret2
        refine ⟨0, 0, rfl, Or.inl ⟨rfl, rfl, fun x hx hp => ?_⟩, Below.refl _ _⟩
        have h1 := HX.out x hx hp
        omega
      · go_enter Tryd.func43, Tryd.ntmps43
        go_wp2_with fail
        refine HW.out.mono ?_
        rintro e w1 ⟨rfl, rfl⟩
        go_wp2_with fail
        go_loopw [2, 3, 4] (fun rv nv iv wr => ∃ (i : Nat) (a : Int), nv = .int .i64 N ∧ iv = .int .i64 i ∧ rv = .int .i64 a ∧ w = wr ∧ 1 ≤ i ∧ i ≤ N ∧ 0 ≤ a ∧ Hid ((i = 1 ∧ a ≤ 127) ∨ (i = 2 ∧ a ≤ 8191) ∨ (i = 3 ∧ a ≤ 524287) ∨ (i = 4 ∧ a ≤ 33554431)) ∧ Hid (a = acc l r0 (i - 1)) ∧ Hid (∀ j, 1 ≤ j → j < i → tl (l[j]?.getD 0))) (fun _ _ iv _ => N - (intOf iv).toNat)
        case atStart => exact ⟨1, r0, rfl, rfl, rfl, rfl, by omega, by omega, hr1, Lib.hid (Or.inl ⟨rfl, hr2⟩), Lib.hid rfl, Lib.hid (fun j h1 h2 => by omega)⟩
        case round =>
          obtain ⟨i, a, rfl, rfl, rfl, rfl, hi1, hi2, ha0, HA, HE, HT⟩ := hrel
          by_cases hlt : i < N
          · obtain ⟨b', off', _, y, hx, ey, cy⟩ := Reads.one bI H.out (k := i) (by omega)
            cases hx
            unfold bI at cy
            have hy := HB.out y (List.mem_of_getElem? ey)
            have EY := Lib.hid ey
            clear ey
            have ha9 : a ≤ 524287 := by have := HA.out; omega
            have hI1 : (0 : Int) ≤ (i : Int) := by omega
            have hI2 : (i : Int) < (n : Int) := by omega
            go_wp2_with fail
            refine (tail_any y _).mono ?_
            rintro e w2 ⟨rfl, rfl⟩
            by_cases ht : tl y
            · have hd : decide (tl y) = true := by simpa using ht
              rw [hd]
              clear hd
              have ht1 : 128 ≤ y := ht.1
              have ht2 : y ≤ 191 := ht.2
              have HTY : Hid (tl y) := Lib.hid ht
              clear ht
              go_wp2_with fail
              go_roundw
              case rel =>
                refine ⟨i + 1, 64 * a + y - 128, by first | rfl | trivial, by go_num, by go_num, by first | rfl | trivial, by omega, by omega, by omega, Lib.hid (by have := HA.out; omega), Lib.hid ?_, Lib.hid (fun j h1 h2 => ?_)⟩
                · obtain ⟨k, rfl⟩ : ∃ k, i = k + 1 := ⟨i - 1, by omega⟩
                  show _ = 64 * acc l r0 k + l[k + 1]?.getD 0 - 128
                  rw [EY.out, ← show a = acc l r0 k from HE.out]
                  rfl
                · rcases Nat.lt_or_ge j i with h3 | h3
                  · exact HT.out j h1 h3
                  · obtain rfl : j = i := by omega
                    rw [EY.out]
                    exact HTY.out
              case measure => simp [intOf]; omega
            · have hd : decide (tl y) = false := by simpa using ht
              rw [hd]
              clear hd
              have HTY := Lib.hid ht
              clear ht
              go_wp2_with fail
              go_ret2
              refine ⟨0, 0, rfl, Or.inl ⟨rfl, rfl, fun x hx hp => ?_⟩, Below.refl _ _⟩
              have h1 := HX.out x hx hp
              have h2 := h1.2.2.2 i hi1 (by omega)
              rw [EY.out] at h2
              exact HTY.out h2
          · obtain rfl : i = N := by omega
            have hx9 : ∀ x, Let x → ubytes x <+: l → a = x := fun x hx hp => by
              have h1 := HX.out x hx hp
              rw [HE.out, h1.1]
              exact h1.2.2.1
            have HX9 := Lib.hid hx9
            clear hx9
            by_cases hL : Let a
            · have HLet := Lib.hid hL
              clear hL
              have HBY := Lib.hid (bytes_any a w HLet.out)
              have HIS := Lib.hid (isl_yes a w HLet.out)
              have HBG : Hid (wid a = i → ubytes a <+: l) := Lib.hid (fun hw => acc_begins EC.out HC.out.1 (by rw [HN.out, HL.out]; omega) (by rw [HR0.out, HN.out]; exact HE.out) (by rw [HN.out]; exact hw) (fun j h1 h2 => HT.out j h1 (by rw [HN.out] at h2; exact h2)))
              obtain ⟨m, hm⟩ : ∃ m, wid a = m := ⟨_, rfl⟩
              rw [hm] at HBY HBG
              have HM := Lib.hid hm
              clear hm
              by_cases hw : m = i
              · subst hw
                go_wp2_with fail
                refine HIS.out.mono ?_
                rintro e w2 ⟨rfl, rfl⟩
                go_wp2_with fail
                refine HBY.out.mono ?_
                rintro e w3 ⟨ov, rfl, hR, hb3⟩
                obtain ⟨oa, oc, rfl⟩ := hR.form
                clear hR
                go_wp2_with fail
                go_ret2
                exact ⟨a, m, rfl, Or.inr ⟨HLet.out, HM.out.symm, HBG.out (by first | rfl | trivial)⟩, hb3⟩
              · have q2 : ((m : Int) != (i : Int)) = true := by rw [bne_iff_ne]; omega
                go_wp2_with fail
                refine HIS.out.mono ?_
                rintro e w2 ⟨rfl, rfl⟩
                go_wp2_with fail
                refine HBY.out.mono ?_
                rintro e w3 ⟨ov, rfl, hR, hb3⟩
                obtain ⟨oa, oc, rfl⟩ := hR.form
                clear hR
                go_wp2_with fail
                go_ret2
                refine ⟨0, 0, rfl, Or.inl ⟨rfl, rfl, fun x hx hp => ?_⟩, hb3⟩
                have h1 := HX9.out x hx hp
                have h2 := (HX.out x hx hp).1
                rw [← h1, HM.out] at h2
                exact hw h2.symm
            · have HLet := Lib.hid hL
              clear hL
              go_wp2_with fail
              refine (isl_no a _ HLet.out).mono ?_
              rintro e w2 ⟨rfl, rfl⟩
              go_wp2_with fail
              go_ret2
              refine ⟨0, 0, rfl, Or.inl ⟨rfl, rfl, fun x hx hp => ?_⟩, Below.refl _ _⟩
              have := HX9.out x hx hp
              subst this
              exact HLet.out hx
end Go.Proofs.YtanimdajohpggaaDoor.Utf0
