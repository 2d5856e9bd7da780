/- Places: the law FnNormal. -/
import Derived.Test.YtpkkagiplockiaaNfa6
namespace Go.Proofs.Ytpkkagiplockiaa.Nfa
open Go.ChangeShapes Go.WideShapes Go.ChangeAt Go.RowKit Go.Trav Go.Nor Go.Proofs.Ytpkkagiplockiaa.Srt
set_option linter.unusedVariables false
set_option linter.unusedSimpArgs false
set_option maxRecDepth 100000
theorem eq_place (x y : Plc) (w : World) : (Op.equalIn 10000 25 (.agg #[.int .u32 (x.o : Nat), .int .u8 (x.d : Nat), .bool x.t]) (.agg #[.int .u32 (y.o : Nat), .int .u8 (y.d : Nat), .bool y.t])).run Try.prog w = .ok (decide (x = y)) w := by
  obtain ⟨xo, xd, xt⟩ := x
  obtain ⟨yo, yd, yt⟩ := y
  simp only [Plc.mk.injEq]
  by_cases h1 : xo = yo <;> by_cases h2 : xd = yd <;> by_cases h3 : xt = yt <;> simp [go_sem, h1, h2, h3] <;> omega
def Ok1 (x : Plc) : Prop := x.o ≤ 1000 ∧ x.d ≤ 100
def hit (S : List Plc) (k : Nat) (p : Plc) : Bool := decide (p ∈ S.take k)
theorem hit_succ {S : List Plc} {k : Nat} {p x : Plc} (hx : S[k]? = some x) : hit S (k + 1) p = (hit S k p || decide (x = p)) := by
  unfold hit
  rw [take_snoc' S k x hx, Bool.eq_iff_iff]
  simp only [decide_eq_true_eq, List.mem_append, List.mem_singleton, Bool.or_eq_true]
  exact ⟨fun h => h.imp id Eq.symm, fun h => h.imp id Eq.symm⟩
def zer (G : List Plc) (k : Nat) : Bool := decide (∃ g ∈ G.take k, g.o = 0)
theorem zer_succ {G : List Plc} {k : Nat} {x : Plc} (hx : G[k]? = some x) : zer G (k + 1) = (zer G k || decide (x.o = 0)) := by
  unfold zer
  rw [take_snoc' G k x hx, Bool.eq_iff_iff]
  simp only [decide_eq_true_eq, List.mem_append, List.mem_singleton, Bool.or_eq_true]
  exact ⟨fun ⟨g, h, e⟩ => h.elim (fun h => Or.inl ⟨g, h, e⟩) (fun h => Or.inr (h ▸ e)), fun h => h.elim (fun ⟨g, h, e⟩ => ⟨g, Or.inl h, e⟩) (fun e => ⟨x, Or.inr rfl, e⟩)⟩
def cvd (G : List Plc) (k m : Nat) (x : Plc) : Bool := decide (∃ g ∈ G.take k, fwd m g = x ∨ imp (fwd m g) x = true)
theorem cvd_succ {G : List Plc} {k m : Nat} {x g : Plc} (hg : G[k]? = some g) : cvd G (k + 1) m x = (cvd G k m x || (decide (fwd m g = x) || imp (fwd m g) x)) := by
  unfold cvd
  rw [take_snoc' G k g hg, Bool.eq_iff_iff]
  simp only [decide_eq_true_eq, List.mem_append, List.mem_singleton, Bool.or_eq_true]
  exact ⟨fun ⟨g', h, e⟩ => h.elim (fun h => Or.inl ⟨g', h, e⟩) (fun h => Or.inr (h ▸ e)), fun h => h.elim (fun ⟨g', h, e⟩ => ⟨g', Or.inl h, e⟩) (fun e => ⟨g, Or.inr rfl, e⟩)⟩
set_option maxHeartbeats 16000000 in
theorem law_normal (v : Value) (n : Nat) (S : List Plc) (w : World) (h : Reads w v n 3 (S.flatMap pC)) :
    Calls Try.prog 3 #[v] w fun e w' => e = .returned (.bool true) ∧ Below w.heap.size w w' := by
  obtain ⟨ao, cap, rfl⟩ := h.form
  have hS : S.length = n := h.recs pC pC_len (by omega)
  have HR := Lib.hid h
  have HN := Lib.hid hS
  clear h hS
  by_cases hn0 : n = 0
  · subst hn0
    go_enter Try.func3, Try.ntmps3
    go_wp2_with fail
    go_ret
    exact ⟨rfl, Below.refl _ _⟩
  by_cases hn1 : 60 < n
  · by_cases hn2 : 2147483647 < n
    · have hz : (2147483647 : Int) < (n : Int) := by omega
      go_enter Try.func3, Try.ntmps3
      go_wp2_with fail
      go_ret
      exact ⟨rfl, Below.refl _ _⟩
    · have hz : ¬ (2147483647 : Int) < (n : Int) := by omega
      have hz0 : ((n : Int) == 0) = false := beq_eq_false_iff_ne.2 (by omega)
      have hz1 : (60 : Int) < (n : Int) := by omega
      go_enter Try.func3, Try.ntmps3
      go_wp2_with fail
      go_ret
      exact ⟨rfl, Below.refl _ _⟩
  have hz : ¬ (2147483647 : Int) < (n : Int) := by omega
  have hz0 : ((n : Int) == 0) = false := beq_eq_false_iff_ne.2 (by omega)
  have hz1 : ¬ (60 : Int) < (n : Int) := by omega
  go_enter Try.func3, Try.ntmps3
  go_wp2_with fail
  go_loopw [3] (fun iv wr => ∃ k : Nat, iv = .int .i64 k ∧ k ≤ n ∧ Hid (∀ x ∈ S.take k, Ok1 x) ∧ wr = w) (fun iv _ => n - (intOf iv).toNat)
  case atStart => exact ⟨0, rfl, Nat.zero_le _, Lib.hid (fun x hx => by simp at hx), rfl⟩
  case round =>
    obtain ⟨k, rfl, h1, HO, rfl⟩ := hrel
    rename World => w
    by_cases hk : k < n
    · obtain ⟨b, off, cap', x, e, hx, c0, c1, c2⟩ := reads_at HR.out hk
      simp only [Value.slice.injEq] at e
      obtain ⟨rfl, -, rfl⟩ := e
      have HX := Lib.hid hx
      clear hx
      by_cases ho : 1000 < x.o
      · have t1 : (1000 : Int) < (x.o : Int) := by omega
        go_wp2_with fail
        go_ret
        exact ⟨rfl, Below.refl _ _⟩
      · have t1 : ¬ (1000 : Int) < (x.o : Int) := by omega
        by_cases hd : 100 < x.d
        · have t2 : (100 : Int) < (x.d : Int) := by omega
          go_wp2_with fail
          go_ret
          exact ⟨rfl, Below.refl _ _⟩
        · have t2 : ¬ (100 : Int) < (x.d : Int) := by omega
          go_wp2_with fail
          go_roundw
          case rel =>
            refine ⟨k + 1, by go_num, by omega, Lib.hid fun y hy => ?_, trivial⟩
            rw [take_snoc' S k x HX.out] at hy
            rcases List.mem_append.mp hy with g | g
            · exact HO.out y g
            · rw [List.mem_singleton.mp g]; exact ⟨by omega, by omega⟩
          case measure => simp [intOf] <;> omega
    · obtain rfl : k = n := by omega
      have hok : ∀ x ∈ S, Ok1 x := by
        have := HO.out
        rw [show S.take k = S from List.take_of_length_le (by have := HN.out; omega)] at this
        exact this
      have hne : S ≠ [] := by
        intro e
        have := HN.out
        rw [e] at this
        simp at this
        omega
      have hsm : ∀ x ∈ S, Sm x := fun x hx => ⟨by have := (hok x hx).1; omega, by have := (hok x hx).2; omega⟩
      have HC := Lib.hid (normal_any _ k S w HR.out hsm hne (by omega))
      have HOK := Lib.hid hok
      have HSM := Lib.hid hsm
      have HNE := Lib.hid hne
      clear hok hne hsm HO
      go_wp2_with fail
      refine HC.out.mono ?_
      rintro e w2 ⟨⟨v2, G, rfl, hp, hr⟩, hb⟩
      obtain ⟨p1, p2, p3, p4, p5, p6⟩ := normal_says HNE.out (fun x hx => (HOK.out x hx).1) hp
      obtain ⟨av, cv, rfl⟩ := hr.form
      generalize hmm : least (all S) = m at *
      have hGl : G.length ≤ 1000 := by
        rw [hp.length_eq, List.length_map]
        have := all_len S
        have := HN.out
        omega
      have HG := Lib.hid hr
      have HB := Lib.hid hb
      have P2 := Lib.hid p2
      have P3 := Lib.hid p3
      have P4 := Lib.hid p4
      have P5 := Lib.hid p5
      have hgs : ∀ g ∈ G, Sm g ∧ Sm (fwd m g) := fun g hg => ⟨⟨by have := p6 g hg; omega, by have h1 := (HOK.out _ (p2 g hg)).2; simp only [fwd] at h1; omega⟩, HSM.out _ (p2 g hg)⟩
      have HGS := Lib.hid hgs
      clear hr hb p2 p3 p4 p5 p6 hgs hp hmm HC
      generalize hq : G.length = q at *
      have HQ := Lib.hid hq
      clear hq
      go_wp2_with fail
      -- loop over the answer
      go_loopw [6, 7] (fun lv iv wr => ∃ i : Nat, iv = .int .i64 i ∧ i ≤ q ∧ lv = .bool (zer G i) ∧ Hid (Below w2.heap.size w2 wr)) (fun _ iv _ => q - (intOf iv).toNat)
      case atStart => exact ⟨0, rfl, Nat.zero_le _, by simp [zer], Lib.hid (Below.refl _ _)⟩
      case round =>
        obtain ⟨i, rfl, h2, rfl, HB2⟩ := hrel
        rename World => wr
        by_cases hi : i < q
        · obtain ⟨b2, off2, cap2, y, e, hy, d0, d1, d2⟩ := reads_at (HG.out.below HB2.out) hi
          simp only [Value.slice.injEq] at e
          obtain ⟨rfl, -, rfl⟩ := e
          have HY := Lib.hid hy
          have hym := List.mem_of_getElem? hy
          have HMV := Lib.hid (fun W => moved_any y m W (HGS.out y hym).1 (by omega))
          have HIN := Lib.hid (P2.out y hym)
          have hyo := (HGS.out y hym).1.1
          unfold pV at HMV
          clear hy hym
          go_wp2_with fail
          go_loopw [8, 9] (fun tv kv wq => ∃ j : Nat, kv = .int .i64 j ∧ j ≤ k ∧ tv = .bool (hit S j (fwd m y)) ∧ Hid (Below w2.heap.size w2 wq)) (fun _ kv _ => k - (intOf kv).toNat)
          case atStart => exact ⟨0, rfl, Nat.zero_le _, by simp [hit], HB2⟩
          case round =>
            obtain ⟨j, rfl, h3, rfl, HB3⟩ := hrel
            rename World => wq
            by_cases hj : j < k
            · obtain ⟨b, off, cap', x, e, hx, c0, c1, c2⟩ := reads_at (HR.out.below (HB.out.trans (HB3.out.mono HB.out.size))) hj
              simp only [Value.slice.injEq] at e
              obtain ⟨rfl, -, rfl⟩ := e
              obtain ⟨b3, off3, cap3, y', e', hy', e0, e1, e2⟩ := reads_at (HG.out.below HB3.out) hi
              simp only [Value.slice.injEq, Option.some.injEq, Addr.mk.injEq, and_true] at e'
              obtain ⟨⟨rfl, rfl⟩, -, rfl⟩ := e'
              obtain rfl : y = y' := by simpa using HY.out.symm.trans hy'
              have C0 := cell_regrown c0
              have C1 := cell_regrown c1
              have C2 := cell_regrown c2
              have E0 := cell_regrown e0
              have E1 := cell_regrown e1
              have E2 := cell_regrown e2
              have HX := Lib.hid hx
              have heq := fun W => eq_place x (fwd m y) W
              clear hx hy' d0 d1 d2
              cases ht : hit S j (fwd m y) with
              | true =>
                go_wp2_with fail
                go_quiet (fail)
                go_wp2_with fail
                go_roundw
                case rel => exact ⟨j + 1, by go_num, by omega, by rw [hit_succ HX.out, ht]; rfl, Lib.hid (by repeat (first | exact HB3.out | refine below_drewN ?_ _))⟩
                case measure => simp [intOf] <;> omega
              | false =>
                go_wp2_with fail
                refine wp_region_quiet_below (by kernel_rfl) (by kernel_rfl) ?_
                repeat (first | go_big_quiet_step ((go_at_call 6; exact Calls.regrown_of (HMV.out _))) | quiet_step ((go_at_call 6; exact Calls.regrown_of (HMV.out _))))
                refine wpQuiet_nil ?_
                intro _ hw'
                obtain ⟨⟨dq, osq⟩, hw''⟩ := hw'
                subst hw''
                go_wp2_with fail
                go_roundw
                case rel => exact ⟨j + 1, by go_num, by omega, by rw [hit_succ HX.out, ht, Bool.false_or], Lib.hid (HB3.out.trans ((below_regrown _ _ _).mono HB3.out.size))⟩
                case measure => simp [intOf] <;> omega
            · have ht : hit S j (fwd m y) = true := by
                unfold hit
                rw [show S.take j = S from List.take_of_length_le (by have := HN.out; omega)]
                exact decide_eq_true HIN.out
              rw [ht]
              obtain ⟨b3, off3, cap3, y', e', hy', e0, e1, e2⟩ := reads_at (HG.out.below HB3.out) hi
              simp only [Value.slice.injEq, Option.some.injEq, Addr.mk.injEq, and_true] at e'
              obtain ⟨⟨rfl, rfl⟩, -, rfl⟩ := e'
              obtain rfl : y = y' := by simpa using HY.out.symm.trans hy'
              clear hy' d0 d1 d2 ht
              cases hz3 : zer G i with
              | true =>
                go_wp2_with fail
                go_roundw
                case rel => exact ⟨i + 1, by go_num, by omega, by rw [zer_succ HY.out, hz3]; rfl, HB3⟩
                case measure => simp [intOf] <;> omega
              | false =>
                by_cases hy0 : y.o = 0
                · have t5 : ((y.o : Int) == 0) = true := by simp [hy0]
                  go_wp2_with fail
                  go_roundw
                  case rel => exact ⟨i + 1, by go_num, by omega, by rw [zer_succ HY.out, hz3, decide_eq_true hy0]; rfl, HB3⟩
                  case measure => simp [intOf] <;> omega
                · have t5 : ((y.o : Int) == 0) = false := beq_eq_false_iff_ne.2 (by omega)
                  go_wp2_with fail
                  go_roundw
                  case rel => exact ⟨i + 1, by go_num, by omega, by rw [zer_succ HY.out, hz3, decide_eq_false hy0]; rfl, HB3⟩
                  case measure => simp [intOf] <;> omega
        · obtain rfl : i = q := by omega
          have hz4 : zer G i = true := by
            unfold zer
            rw [show G.take i = G from List.take_of_length_le (by have := HQ.out; omega)]
            exact decide_eq_true P3.out
          rw [hz4]
          clear hz4
          go_wp2_with fail
          go_loopw [10] (fun iv wq => ∃ a : Nat, iv = .int .i64 a ∧ a ≤ k ∧ Hid (Below w2.heap.size w2 wq)) (fun iv _ => k - (intOf iv).toNat)
          case atStart => exact ⟨0, rfl, Nat.zero_le _, HB2⟩
          case round =>
            clear HB2
            obtain ⟨a, rfl, h3, HB2⟩ := hrel
            rename World => wq
            by_cases ha : a < k
            · obtain ⟨x, hx⟩ : ∃ x, S[a]? = some x := ⟨_, List.getElem?_eq_getElem (by have := HN.out; omega)⟩
              have HX := Lib.hid hx
              have HCV := Lib.hid (P4.out x (List.mem_of_getElem? hx))
              have hsx := HSM.out x (List.mem_of_getElem? hx)
              clear hx
              go_wp2_with fail
              go_loopw [11, 12] (fun tv kv wq => ∃ j : Nat, kv = .int .i64 j ∧ j ≤ i ∧ tv = .bool (cvd G j m x) ∧ Hid (Below w2.heap.size w2 wq)) (fun _ kv _ => i - (intOf kv).toNat)
              case atStart => exact ⟨0, rfl, Nat.zero_le _, by simp [cvd], HB2⟩
              case round =>
                obtain ⟨j, rfl, h5, rfl, HB3⟩ := hrel
                rename World => wq
                by_cases hj : j < i
                · obtain ⟨b, off, cap', x', e, hx', c0, c1, c2⟩ := reads_at (HR.out.below (HB.out.trans (HB3.out.mono HB.out.size))) ha
                  simp only [Value.slice.injEq] at e
                  obtain ⟨rfl, -, rfl⟩ := e
                  obtain rfl : x = x' := by simpa using HX.out.symm.trans hx'
                  obtain ⟨b3, off3, cap3, y, e', hy', e0, e1, e2⟩ := reads_at (HG.out.below HB3.out) hj
                  simp only [Value.slice.injEq] at e'
                  obtain ⟨rfl, -, rfl⟩ := e'
                  have hym := List.mem_of_getElem? hy'
                  have HMV := Lib.hid (fun W => moved_any y m W (HGS.out y hym).1 (by omega))
                  have hyo := (HGS.out y hym).1.1
                  have hsy := (HGS.out y hym).2
                  unfold pV at HMV
                  have HY := Lib.hid hy'
                  clear hx' hy' hym
                  go_wp2_with fail
                  refine (HMV.out _).mono ?_
                  rintro e w3 ⟨rfl, hb3⟩
                  have HB4 := Lib.hid (HB3.out.trans (hb3.mono HB3.out.size))
                  have hx3 := HR.out.below (HB.out.trans (HB4.out.mono HB.out.size))
                  obtain ⟨b4, off4, cap4, x4, e4, hx4, C0, C1, C2⟩ := reads_at (hx3.alloc (.cells #[.int .u32 ((fwd m y).o : Nat), .int .u8 ((fwd m y).d : Nat), .bool (fwd m y).t] 25)) ha
                  simp only [Value.slice.injEq, Option.some.injEq, Addr.mk.injEq, and_true] at e4
                  obtain ⟨⟨rfl, rfl⟩, -, rfl⟩ := e4
                  obtain rfl : x = x4 := by simpa using HX.out.symm.trans hx4
                  have hnb : (w3.alloc (.cells #[.int .u32 ((fwd m y).o : Nat), .int .u8 ((fwd m y).d : Nat), .bool (fwd m y).t] 25)).heap[w3.heap.size]? = some (.cells #[.int .u32 ((fwd m y).o : Nat), .int .u8 ((fwd m y).d : Nat), .bool (fwd m y).t] 25 (0, 0)) := heap_alloc_new w3 _
                  have D0 := block_cell (i := 0) (u := .int .u32 ((fwd m y).o : Nat)) hnb rfl
                  have D1 := block_cell (i := 1) (u := .int .u8 ((fwd m y).d : Nat)) hnb rfl
                  have D2 := block_cell (i := 2) (u := .bool (fwd m y).t) hnb rfl
                  have HB5 := Lib.hid (HB4.out.alloc HB4.out.size (.cells #[.int .u32 ((fwd m y).o : Nat), .int .u8 ((fwd m y).d : Nat), .bool (fwd m y).t] 25))
                  clear hb3 hx3 hnb hx4 c0 c1 c2 e0 e1 e2
                  go_upto_region 31 with (fail)
                  generalize w3.alloc (.cells #[.int .u32 ((fwd m y).o : Nat), .int .u8 ((fwd m y).d : Nat), .bool (fwd m y).t] 25) = W4 at C0 C1 C2 D0 D1 D2 HB5 ⊢
                  have C0' := cell_regrown C0
                  have C1' := cell_regrown C1
                  have C2' := cell_regrown C2
                  have D0' := cell_regrown D0
                  have D1' := cell_regrown D1
                  have D2' := cell_regrown D2
                  have heq := fun W => eq_place (fwd m y) x W
                  have HIM := Lib.hid (fun W => implies_any (fwd m y) x W hsy hsx)
                  unfold pV at HIM
                  cases ht : cvd G j m x with
                  | true =>
                    go_wp2_with fail
                    go_quiet (fail)
                    go_wp2_with fail
                    go_roundw
                    case rel => exact ⟨j + 1, by go_num, by omega, by rw [cvd_succ HY.out, ht]; rfl, Lib.hid (by repeat (first | exact HB5.out | refine below_drewN ?_ _))⟩
                    case measure => simp [intOf] <;> omega
                  | false =>
                    by_cases hxe : fwd m y = x
                    · have he1 : decide (fwd m y = x) = true := decide_eq_true hxe
                      rw [he1] at heq
                      go_wp2_with fail
                      go_quiet (fail)
                      go_wp2_with fail
                      go_roundw
                      case rel => exact ⟨j + 1, by go_num, by omega, by rw [cvd_succ HY.out, ht, he1]; rfl, Lib.hid (by repeat (first | exact HB5.out | refine below_drewN ?_ _))⟩
                      case measure => simp [intOf] <;> omega
                    · have he1 : decide (fwd m y = x) = false := decide_eq_false hxe
                      rw [he1] at heq
                      go_wp2_with fail
                      refine wp_region_quiet_below (by kernel_rfl) (by kernel_rfl) ?_
                      repeat (first | go_big_quiet_step ((go_at_call 7; exact Calls.regrown_of (HIM.out _))) | quiet_step ((go_at_call 7; exact Calls.regrown_of (HIM.out _))))
                      refine wpQuiet_nil ?_
                      intro _ hw'
                      obtain ⟨⟨dq, osq⟩, hw''⟩ := hw'
                      subst hw''
                      go_wp2_with fail
                      go_roundw
                      case rel => exact ⟨j + 1, by go_num, by omega, by rw [cvd_succ HY.out, ht, he1]; rfl, Lib.hid (HB5.out.trans ((below_regrown _ _ _).mono HB5.out.size))⟩
                      case measure => simp [intOf] <;> omega
                · have ht : cvd G j m x = true := by
                    unfold cvd
                    rw [show G.take j = G from List.take_of_length_le (by have := HQ.out; omega)]
                    obtain ⟨g, hg, e⟩ := HCV.out
                    exact decide_eq_true ⟨g, hg, Or.inr e⟩
                  rw [ht]
                  go_wp2_with fail
                  go_roundw
                  case rel => exact ⟨a + 1, by go_num, by omega, HB3⟩
                  case measure => simp [intOf] <;> omega
            · have HND := Lib.hid (needed_any _ i G wq (HG.out.below HB2.out) (fun g hg => (HGS.out g hg).1) (by omega) P5.out)
              go_wp2_with fail
              refine HND.out.mono ?_
              rintro e w3 ⟨rfl, hb3⟩
              go_wp2_with fail
              go_ret
              exact ⟨rfl, HB.out.trans ((HB2.out.trans (hb3.mono HB2.out.size)).mono HB.out.size)⟩
end Go.Proofs.Ytpkkagiplockiaa.Nfa
