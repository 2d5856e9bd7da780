/- spec.Right: what it tells. -/
import Derived.Test.YtkbonmjbfpdchaaDoorStates1
namespace Go.Proofs.YtkbonmjbfpdchaaDoor.Node
open Go.ChangeShapes Go.WideShapes Go.ChangeAt Go.RowKit Go.Trav Go.Sort
set_option linter.unusedVariables false
set_option linter.unusedSimpArgs false
set_option maxRecDepth 100000
/-- State i can be encoded: as far as the addresses need it. -/
def RightSt (i : Nat) (x : StV) : Prop := x.l.length ≤ 256 ∧ (x.l.length = 0 → x.o ≠ 0) ∧ (x.f = false → x.o = 0) ∧ ∀ (k : Nat) (a : Arc), x.l[k]? = some a → -1 ≤ a.2.2 ∧ a.2.2 < (i : Int)
def RightL (S : List StV) : Prop := ∀ i x, S[i]? = some x → RightSt i x
/-- A test that tells P where it says yes. -/
def Says (P : Prop) (e : Ending) : Prop := ∃ b, e = .returned (.bool b) ∧ (b = true → P)
set_option maxHeartbeats 40000000 in
theorem right_any (v : Value) (n : Nat) (S : List StV) (w : World) (h : States w v n S) (hn : n ≤ 2000) (hla : ∀ x ∈ S, x.l.length ≤ 2147483647) :
    Calls Tryd.prog 6 #[v] w fun e w' => Says (RightL S) e ∧ Below w.heap.size w w' := by
  obtain ⟨ao, cap, rfl⟩ := h.cells.form
  have H := Lib.hid h
  clear h
  go_enter Tryd.func6, Tryd.ntmps6
  go_wp2_with fail
  go_loopw [3] (fun ix wr => ∃ i : Nat, ix = .int .i64 i ∧ i ≤ n ∧ Below w.heap.size w wr ∧ Hid (∀ j, j < i → ∀ x, S[j]? = some x → RightSt j x)) (fun ix _ => n - (intOf ix).toNat)
  case atStart => exact ⟨0, rfl, Nat.zero_le _, Below.refl _ _, Lib.hid (fun j hj => by omega)⟩
  case round =>
    obtain ⟨i, rfl, hi, hb, HK⟩ := hrel
    rename World => w0
    by_cases hlt : i < n
    · obtain ⟨b, off, _, x, hx, e1, c0, c1, c2, ha⟩ := (H.out.below hb).at hlt
      cases hx
      obtain ⟨xa, xcap, hxv⟩ := ha.form
      rw [hxv] at c2 ha
      have E1 := Lib.hid e1
      have HA := Lib.hid ha
      have hll := hla x (List.mem_of_getElem? e1)
      obtain ⟨xf, xo, xv, xl⟩ := x
      obtain ⟨m, hm⟩ : ∃ m, xl.length = m := ⟨_, rfl⟩
      simp only [hm] at c0 c1 c2 hll hxv
      have HM := Lib.hid hm
      clear e1 ha hxv hm
      by_cases hA : m ≤ 256
      · obtain ⟨C, hC⟩ : ∃ C : Array Value, C = #[.bool xf, .int .u64 xo, .slice xa m xcap] := ⟨_, rfl⟩
        have HC := Lib.hid hC
        clear hC
        have hcase : (((m : Int) == 0) = true ∧ (xo == 0) = true ∧ (xo != 0) = false) ∨ (xf = false ∧ (xo == 0) = false ∧ (xo != 0) = true) ∨ (((m : Int) == 0) = true ∧ (xo == 0) = false ∧ (xo != 0) = true ∧ xf = true) ∨ (((m : Int) == 0) = false ∧ xf = true) ∨ (((m : Int) == 0) = false ∧ xf = false ∧ (xo == 0) = true ∧ (xo != 0) = false) := by
          rcases Bool.eq_false_or_eq_true ((m : Int) == 0) with h1 | h1 <;> rcases Bool.eq_false_or_eq_true (xo == 0) with h2 | h2 <;> cases xf <;> simp_all
        have hst : (((m : Int) == 0) = true ∧ (xo == 0) = true) ∨ (xf = false ∧ (xo == 0) = false) ∨ ((m = 0 → xo ≠ 0) ∧ (xf = false → xo = 0)) := by
          rcases Bool.eq_false_or_eq_true ((m : Int) == 0) with h1 | h1 <;> rcases Bool.eq_false_or_eq_true (xo == 0) with h2 | h2 <;> cases xf <;> simp_all
        have HST := Lib.hid hst
        clear hst
        rcases hcase with ⟨z1, z2, z3⟩ | ⟨rfl, z2, z3⟩ | ⟨z1, z2, z3, rfl⟩ | ⟨z1, rfl⟩ | ⟨z1, rfl, z2, z3⟩
        · go_wp2_with fail
          go_ret
          exact ⟨⟨false, rfl, fun h => by cases h⟩, hb.alloc hb.size _⟩
        · rcases Bool.eq_false_or_eq_true ((m : Int) == 0) with h1 | h1
          · go_wp2_with fail
            go_ret
            exact ⟨⟨false, rfl, fun h => by cases h⟩, hb.alloc hb.size _⟩
          · go_wp2_with fail
            go_ret
            exact ⟨⟨false, rfl, fun h => by cases h⟩, hb.alloc hb.size _⟩
        all_goals (
          go_wp2_with fail
          go_loopw [5] (fun kx wr => ∃ k : Nat, kx = .int .i64 k ∧ k ≤ m ∧ Below w0.heap.size w0 wr ∧ Hid (wr.heap[w0.heap.size]? = some (.cells C 30 (0, 0))) ∧ Hid (∀ (j : Nat), j < k → ∀ a : Arc, xl[j]? = some a → -1 ≤ a.2.2 ∧ a.2.2 < (i : Int))) (fun kx _ => m - (intOf kx).toNat)
          case atStart => exact ⟨0, rfl, Nat.zero_le _, (Below.refl _ _).alloc (Nat.le_refl _) _, Lib.hid (by rw [HC.out]; exact heap_alloc_new _ _), Lib.hid (fun j hj => by omega)⟩
          case round =>
            obtain ⟨k, rfl, hk, hb1, HB, HK1⟩ := hrel
            rename World => wr
            have d2 : wr.cell? ⟨w0.heap.size, 2, none⟩ = some (.slice xa m xcap) := block_cell HB.out (by rw [HC.out]; rfl)
            have hbw := hb.trans (hb1.mono hb.size)
            by_cases hlk : k < m
            · obtain ⟨b', off', _, i1, o1, t1, hx', e2, f0, f1, f2⟩ := Arcs.at (Reads.below HA.out hb1) (by rw [HM.out]; exact hlk)
              cases hx'
              have E2 := Lib.hid e2
              clear e2
              have hnext : -1 ≤ t1 → t1 < (i : Int) → Hid (∀ (j : Nat), j < k + 1 → ∀ a : Arc, xl[j]? = some a → -1 ≤ a.2.2 ∧ a.2.2 < (i : Int)) := fun h1 h2 => Lib.hid (fun j hj a ha => by
                rcases Nat.lt_or_ge j k with h3 | h3
                · exact HK1.out j h3 a ha
                · obtain rfl : j = k := by omega
                  obtain rfl : a = _ := Option.some.inj (ha.symm.trans E2.out)
                  exact ⟨h1, h2⟩)
              have HNX := Lib.hid hnext
              clear hnext
              by_cases ht1 : t1 < -1
              · have q1 : decide (t1 < -1) = true := by simpa using ht1
                go_wp2_with fail
                go_quiet (fail)
                go_wp2_with fail
                go_ret
                exact ⟨⟨false, rfl, fun h => by cases h⟩, below_drewN hbw _⟩
              · have q1 : decide (t1 < -1) = false := by simpa using ht1
                by_cases ht2 : (i : Int) ≤ t1
                · have q2 : decide ((i : Int) ≤ t1) = true := by simpa using ht2
                  go_wp2_with fail
                  go_quiet (fail)
                  go_wp2_with fail
                  go_ret
                  exact ⟨⟨false, rfl, fun h => by cases h⟩, below_drewN hbw _⟩
                · have q2 : decide ((i : Int) ≤ t1) = false := by simpa using ht2
                  by_cases hk0 : k = 0
                  · subst hk0
                    have q3 : decide ((0 : Int) < ((0 : Nat) : Int)) = false := by decide
                    go_wp2_with fail
                    go_quiet (fail)
                    go_wp2_with fail
                    go_roundw
                    case rel => exact ⟨1, rfl, by omega, below_drewN hb1 _, HB, HNX.out (by omega) (by omega)⟩
                    case measure => simp [intOf]; omega
                  · obtain ⟨k', rfl⟩ : ∃ k', k = k' + 1 := ⟨k - 1, by omega⟩
                    obtain ⟨b'', off'', _, i2, o2, t2, hx', e2, g0, g1, g2⟩ := Arcs.at (k := k') (Reads.below HA.out hb1) (by rw [HM.out]; omega)
                    cases hx'
                    have ek : (((k' + 1 : Nat) : Int) - 1) = (k' : Int) := by omega
                    have ew : IntKind.i64.wrap (k' : Int) = (k' : Int) := IntWalk.i64_in _ (by omega)
                    have q3 : decide ((0 : Int) < ((k' + 1 : Nat) : Int)) = true := by rw [decide_eq_true_eq]; omega
                    by_cases hle : i1 ≤ i2
                    · have q4 : decide (i1 ≤ i2) = true := by simpa using hle
                      go_wp2_with fail
                      go_quiet (fail)
                      go_wp2_with fail
                      go_ret
                      exact ⟨⟨false, rfl, fun h => by cases h⟩, below_drewN hbw _⟩
                    · have q4 : decide (i1 ≤ i2) = false := by simpa using hle
                      go_wp2_with fail
                      go_quiet (fail)
                      go_wp2_with fail
                      go_roundw
                      case rel => exact ⟨k' + 1 + 1, by go_num, by omega, below_drewN hb1 _, HB, HNX.out (by omega) (by omega)⟩
                      case measure => simp [intOf]; omega
            · obtain rfl : k = m := by omega
              go_wp2_with fail
              go_roundw
              case rel =>
                refine ⟨i + 1, by go_num, by omega, hbw, Lib.hid (fun j hj y hy => ?_)⟩
                rcases Nat.lt_or_ge j i with h1 | h1
                · exact HK.out j h1 y hy
                · obtain rfl : j = i := by omega
                  obtain rfl : y = _ := Option.some.inj (hy.symm.trans E1.out)
                  refine ⟨by simp only [HM.out]; omega, ?_, ?_, ?_⟩
                  · simp only [HM.out]
                    rcases HST.out with ⟨h2, h3⟩ | ⟨h2, h3⟩ | ⟨h2, h3⟩
                    all_goals simp_all
                  · rcases HST.out with ⟨h2, h3⟩ | ⟨h2, h3⟩ | ⟨h2, h3⟩
                    all_goals simp_all
                  · intro k a hk
                    exact HK1.out k (by have h3 : k < xl.length := (List.getElem?_eq_some_iff.1 hk).1; have := HM.out; omega) a hk
              case measure => simp [intOf]; omega)
      · go_wp2_with fail
        go_ret
        exact ⟨⟨false, rfl, fun h => by cases h⟩, hb.alloc hb.size _⟩
    · obtain rfl : i = n := by omega
      go_wp2_with fail
      go_ret
      exact ⟨⟨true, rfl, fun _ j x hx => HK.out j (by have := (List.getElem?_eq_some_iff.1 hx).1; have := H.out.len; omega) x hx⟩, hb⟩
end Go.Proofs.YtkbonmjbfpdchaaDoor.Node
