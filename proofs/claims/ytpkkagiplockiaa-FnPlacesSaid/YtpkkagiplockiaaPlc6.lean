/- The edit distance's walk: spec.step. -/
import Derived.Test.YtpkkagiplockiaaPlcP
import Derived.Test.YtpkkagiplockiaaRows
import Derived.Test.YtpkkagiplockiaaLib2
import Derived.Deep.QuietTactic
import Derived.BigQuiet
import Derived.WalkLawsBesides
import Derived.Deep.DeepCutAuto
namespace Go.Proofs.Ytpkkagiplockiaa.Ed
open Go.ChangeShapes Go.WideShapes Go.ChangeAt Go.RowKit Go.Trav Go.Nor
set_option linter.unusedVariables false
set_option linter.unusedSimpArgs false
set_option maxRecDepth 100000
/-- The letters of a list, and none behind it. -/
def ltr (l : List Int) (j : Nat) : Int := l[j]?.getD (-1)
/-- A row of the table: element k of row i. -/
def TabAt (w : World) (Db N : Nat) (i k : Nat) (x : Nat) : Prop := ∃ b, w.cell? ⟨Db, i, none⟩ = some (.slice (some ⟨b, 0, none⟩) N N) ∧ w.cell? ⟨b, k, none⟩ = some (.int .i64 x)
set_option maxHeartbeats 8000000 in
theorem step_any (Db M N i k na nb : Nat) (av bv : Value) (la lb : List Int) (sw : Bool) (w : World) (hT : ∀ i' k', i' ≤ i → k' ≤ k → (i' < i ∨ k' < k) → TabAt w Db N i' k' (D sw (ltr la) (ltr lb) i' k'))
    (ha : Reads w av na 1 (la.map (Value.int .i64))) (hb : Reads w bv nb 1 (lb.map (Value.int .i64))) (hi : i ≤ na) (hk : k ≤ nb) (hM : M = na + 1) (hN : N = nb + 1) (hna : na ≤ 1000) (hnb : nb ≤ 1000) (hD : ∀ i' k', D sw (ltr la) (ltr lb) i' k' ≤ i' + k') :
    Calls Try.prog 25 #[.slice (some ⟨Db, 0, none⟩) M M, av, bv, .int .i64 i, .int .i64 k, .bool sw] w fun e w' => e = .returned (.int .i64 (D sw (ltr la) (ltr lb) i k : Nat)) ∧ ∃ q, w' = w.drewN q := by
  obtain ⟨aa, ac, rfl⟩ := ha.form
  obtain ⟨ba, bc, rfl⟩ := hb.form
  cases i with
  | zero =>
    rw [D_zero]
    clear hT ha hb hD
    go_enter Try.func25, Try.ntmps25
    go_wp2_with fail
    go_ret
    exact ⟨by simp, 0, rfl⟩
  | succ i =>
    cases k with
    | zero =>
      rw [D_left]
      have t1 : ((i : Int) + 1 == 0) = false := beq_eq_false_iff_ne.2 (by omega)
      clear hT ha hb hD
      go_enter Try.func25, Try.ntmps25
      go_wp2_with fail
      go_ret
      exact ⟨by simp, 0, rfl⟩
    | succ k =>
      obtain ⟨b1, p1, p2⟩ := hT i (k + 1) (by omega) (Nat.le_refl _) (Or.inl (by omega))
      obtain ⟨b2, r1, r2⟩ := hT (i + 1) k (Nat.le_refl _) (by omega) (Or.inr (by omega))
      obtain ⟨b1', p1', p3⟩ := hT i k (by omega) (by omega) (Or.inl (by omega))
      have : b1 = b1' := by rw [p1] at p1'; simpa using p1'
      subst this
      have dx := hD i (k + 1)
      have dy := hD (i + 1) k
      have dz := hD i k
      obtain ⟨x, hx⟩ : ∃ x, x = D sw (ltr la) (ltr lb) i (k + 1) := ⟨_, rfl⟩
      obtain ⟨y, hy⟩ : ∃ y, y = D sw (ltr la) (ltr lb) (i + 1) k := ⟨_, rfl⟩
      obtain ⟨z, hz⟩ : ∃ z, z = D sw (ltr la) (ltr lb) i k := ⟨_, rfl⟩
      rw [← hx] at p2 dx
      rw [← hy] at r2 dy
      rw [← hz] at p3 dz
      obtain ⟨ab, ao, ac', u, ea, hu, ca⟩ := Reads.one (Value.int .i64) ha (show i < na by omega)
      simp only [Value.slice.injEq] at ea
      obtain ⟨rfl, -, rfl⟩ := ea
      obtain ⟨bb, bo, bc', v, eb, hv, cb⟩ := Reads.one (Value.int .i64) hb (show k < nb by omega)
      simp only [Value.slice.injEq] at eb
      obtain ⟨rfl, -, rfl⟩ := eb
      have hlu : ltr la i = u := by unfold ltr; rw [hu]; rfl
      have hlv : ltr lb k = v := by unfold ltr; rw [hv]; rfl
      have t1 : ((i : Int) + 1 == 0) = false := beq_eq_false_iff_ne.2 (by omega)
      have t2 : ((k : Int) + 1 == 0) = false := beq_eq_false_iff_ne.2 (by omega)
      have HT := Lib.hid hT
      have HA := Lib.hid ha
      have HB := Lib.hid hb
      have HDD := Lib.hid hD
      have HX := Lib.hid (And.intro hx (And.intro hy hz))
      have HU := Lib.hid (And.intro hlu hlv)
      have HMN := Lib.hid (And.intro hM hN)
      have hM1 : (i : Int) + 1 < (M : Int) := by omega
      have hN1 : (k : Int) + 1 < (N : Int) := by omega
      clear hT ha hb hD hx hy hz hu hv hlu hlv p1' hM hN
      go_enter Try.func25, Try.ntmps25
      go_upto_region 3 with fail
      go_cut [13] from 23 (fun s13 wc => s13 = .int .i64 ((min x y + 1 : Nat)) ∧ ∃ q, wc = w.drewN q)
      case first =>
        by_cases hxy : x ≤ y
        · have h1 : (x : Int) ≤ (y : Int) := by omega
          have h2 : ¬ (y : Int) < (x : Int) := by omega
          go_quiet (fail)
          go_wp2_with fail
          go_meet
          case rel => exact ⟨by congr 1; omega, nq, rfl⟩
        · have h1 : ¬ (x : Int) ≤ (y : Int) := by omega
          have h2 : (y : Int) < (x : Int) := by omega
          have h3 : ¬ (x : Int) < (y : Int) := by omega
          go_quiet (fail)
          go_wp2_with fail
          go_meet
          case rel => exact ⟨by congr 1; omega, nq, rfl⟩
      case rest =>
        obtain ⟨rfl, q1, rfl⟩ := hcut
        obtain ⟨n1, hn1⟩ : ∃ n1, n1 = min x y + 1 := ⟨_, rfl⟩
        rw [← hn1]
        have hn1' : n1 ≤ 3000 := by omega
        have HN1 := Lib.hid hn1
        clear hn1
        go_upto_region 4 with fail
        go_quiet (fail)
        go_upto_if 51 with fail
        go_cut [13, 51] from 52 (fun s13 s51 wc => s13 = .int .i64 ((min n1 (z + if u = v then 0 else 1) : Nat)) ∧ ∃ q, wc = w.drewN q)
        case first =>
          by_cases huv : u = v
          · have t5 : (u == v) = true := by simp [huv]
            have HUV := Lib.hid huv
            clear huv
            by_cases hz2 : n1 ≤ z
            · have h1 : (n1 : Int) ≤ (z : Int) := by omega
              have h2 : ¬ (z : Int) < (n1 : Int) := by omega
              go_wp2_with fail
              go_meet
              case rel => exact ⟨by rw [if_pos HUV.out]; congr 1; omega, _, rfl⟩
            · have h1 : ¬ (n1 : Int) ≤ (z : Int) := by omega
              have h2 : (z : Int) < (n1 : Int) := by omega
              have h3 : ¬ (n1 : Int) < (z : Int) := by omega
              go_wp2_with fail
              go_meet
              case rel => exact ⟨by rw [if_pos HUV.out]; congr 1; omega, _, rfl⟩
          · have t5 : (u == v) = false := beq_eq_false_iff_ne.2 huv
            by_cases hz2 : n1 ≤ z + 1
            · have h1 : (n1 : Int) ≤ (z : Int) + 1 := by omega
              have h2 : ¬ (z : Int) + 1 < (n1 : Int) := by omega
              go_wp2_with fail
              go_meet
              case rel => exact ⟨by rw [if_neg huv]; congr 1; omega, _, rfl⟩
            · have h1 : ¬ (n1 : Int) ≤ (z : Int) + 1 := by omega
              have h2 : (z : Int) + 1 < (n1 : Int) := by omega
              have h3 : ¬ (n1 : Int) < (z : Int) + 1 := by omega
              go_wp2_with fail
              go_meet
              case rel => exact ⟨by rw [if_neg huv]; congr 1; omega, _, rfl⟩
        case rest =>
          obtain ⟨rfl, q2, rfl⟩ := hcut
          have hpl : min n1 (z + if u = v then 0 else 1) = plainD sw (ltr la) (ltr lb) i k := by
            unfold plainD
            rw [HN1.out, HX.out.1, HX.out.2.1, HX.out.2.2, HU.out.1, HU.out.2]
          rw [hpl]
          obtain ⟨pd, hpd⟩ : ∃ pd, pd = plainD sw (ltr la) (ltr lb) i k := ⟨_, rfl⟩
          rw [← hpd]
          have hpd' : pd ≤ 3000 := by rw [hpd, ← hpl]; omega
          have HPD := Lib.hid hpd
          clear hpl hpd
          go_upto_region 7 with fail
          by_cases hsw : sw = true ∧ 1 ≤ i ∧ 1 ≤ k
          · obtain ⟨rfl, hi1, hk1⟩ := hsw
            obtain ⟨i, rfl⟩ : ∃ j, i = j + 1 := ⟨i - 1, by omega⟩
            obtain ⟨k, rfl⟩ : ∃ j, k = j + 1 := ⟨k - 1, by omega⟩
            obtain ⟨b3, s1, s2⟩ := HT.out i k (by omega) (by omega) (Or.inl (by omega))
            obtain ⟨ab', ao', ac2, u2, ea, hu2, ca2⟩ := Reads.one (Value.int .i64) HA.out (show i < na by omega)
            simp only [Value.slice.injEq, Option.some.injEq, Addr.mk.injEq, and_true] at ea
            obtain ⟨⟨rfl, rfl⟩, -, rfl⟩ := ea
            obtain ⟨bb', bo', bc2, v2, eb, hv2, cb2⟩ := Reads.one (Value.int .i64) HB.out (show k < nb by omega)
            simp only [Value.slice.injEq, Option.some.injEq, Addr.mk.injEq, and_true] at eb
            obtain ⟨⟨rfl, rfl⟩, -, rfl⟩ := eb
            have hlu : ltr la i = u2 := by unfold ltr; rw [hu2]; rfl
            have hlv : ltr lb k = v2 := by unfold ltr; rw [hv2]; rfl
            have HU2 := Lib.hid (And.intro hlu hlv)
            have hD2 := HDD.out i k
            obtain ⟨z2, hz2⟩ : ∃ z2, z2 = D true (ltr la) (ltr lb) i k := ⟨_, rfl⟩
            rw [← hz2] at s2 hD2
            have HZ2 := Lib.hid hz2
            have hfin := D_eq2 (sw := true) (a := ltr la) (b := ltr lb) i k
            have HF := Lib.hid hfin
            have g1 : (1 : Int) < (i : Int) + 1 + 1 := by omega
            have g2 : (1 : Int) < (k : Int) + 1 + 1 := by omega
            clear hlu hlv hu2 hv2 hz2 hfin
            by_cases e1 : u = v2
            · have t6 : (u == v2) = true := by simp [e1]
              have E1 := Lib.hid e1
              clear e1
              by_cases e2 : u2 = v
              · have t7 : (u2 == v) = true := by simp [e2]
                have E2 := Lib.hid e2
                clear e2
                have hs : Sw true (ltr la) (ltr lb) i k := ⟨rfl, by rw [HU.out.1, HU2.out.2]; exact E1.out, by rw [HU2.out.1, HU.out.2]; exact E2.out⟩
                have HSW := Lib.hid hs
                clear hs
                go_quiet (fail)
                by_cases hz3 : pd ≤ z2 + 1
                · have h1 : (pd : Int) ≤ (z2 : Int) + 1 := by omega
                  have h2 : ¬ (z2 : Int) + 1 < (pd : Int) := by omega
                  go_wp2_with fail
                  go_ret
                  have hv : D true (ltr la) (ltr lb) (i + 1 + 1) (k + 1 + 1) = pd := by
                    rw [show i + 1 + 1 = i + 2 from rfl, show k + 1 + 1 = k + 2 from rfl, HF.out, if_pos HSW.out, ← HPD.out, ← HZ2.out]
                    exact Nat.min_eq_left hz3
                  rw [hv]
                  exact ⟨rfl, by first | exact ⟨_, rfl⟩ | exact ⟨_, World.drewN_drewN _ _ _⟩⟩
                · have h1 : ¬ (pd : Int) ≤ (z2 : Int) + 1 := by omega
                  have h2 : (z2 : Int) + 1 < (pd : Int) := by omega
                  have h3 : ¬ (pd : Int) < (z2 : Int) + 1 := by omega
                  go_wp2_with fail
                  go_ret
                  have hv : D true (ltr la) (ltr lb) (i + 1 + 1) (k + 1 + 1) = z2 + 1 := by
                    rw [show i + 1 + 1 = i + 2 from rfl, show k + 1 + 1 = k + 2 from rfl, HF.out, if_pos HSW.out, ← HPD.out, ← HZ2.out]
                    exact Nat.min_eq_right (by omega)
                  rw [hv]
                  exact ⟨rfl, by first | exact ⟨_, rfl⟩ | exact ⟨_, World.drewN_drewN _ _ _⟩⟩
              · have t7 : (u2 == v) = false := beq_eq_false_iff_ne.2 e2
                have hs : ¬ Sw true (ltr la) (ltr lb) i k := fun h => e2 (by rw [← HU2.out.1, ← HU.out.2]; exact h.2.2)
                have HSW := Lib.hid hs
                clear hs
                go_quiet (fail)
                go_wp2_with fail
                go_ret
                rw [show i + 1 + 1 = i + 2 from rfl, show k + 1 + 1 = k + 2 from rfl, HF.out, if_neg HSW.out, ← HPD.out]
                exact ⟨rfl, by first | exact ⟨_, rfl⟩ | exact ⟨_, World.drewN_drewN _ _ _⟩⟩
            · have t6 : (u == v2) = false := beq_eq_false_iff_ne.2 e1
              have hs : ¬ Sw true (ltr la) (ltr lb) i k := fun h => e1 (by rw [← HU2.out.2, ← HU.out.1]; exact h.2.1)
              have HSW := Lib.hid hs
              clear hs
              go_quiet (fail)
              go_wp2_with fail
              go_ret
              rw [show i + 1 + 1 = i + 2 from rfl, show k + 1 + 1 = k + 2 from rfl, HF.out, if_neg HSW.out, ← HPD.out]
              exact ⟨rfl, by first | exact ⟨_, rfl⟩ | exact ⟨_, World.drewN_drewN _ _ _⟩⟩
          · have hfin : D sw (ltr la) (ltr lb) (i + 1) (k + 1) = pd := by
              rw [HPD.out]
              rcases D_or (sw := sw) (a := ltr la) (b := ltr lb) i k with h | ⟨i', k', rfl, rfl, h, _⟩
              · exact h
              · exact absurd ⟨h.1, by omega, by omega⟩ hsw
            have HF := Lib.hid hfin
            clear hfin
            cases sw with
            | false =>
              go_quiet (fail)
              go_wp2_with fail
              go_ret
              exact ⟨by rw [HF.out]; rfl, by first | exact ⟨_, rfl⟩ | exact ⟨_, World.drewN_drewN _ _ _⟩⟩
            | true =>
              by_cases hi1 : 1 ≤ i
              · have hk1 : ¬ 1 ≤ k := fun h => hsw ⟨rfl, hi1, h⟩
                have g1 : (1 : Int) < (i : Int) + 1 := by omega
                have g2 : ¬ (1 : Int) < (k : Int) + 1 := by omega
                have g2' : decide ((1 : Int) < (k : Int) + 1) = false := decide_eq_false g2
                clear hsw
                go_quiet (fail)
                go_wp2_with fail
                go_ret
                exact ⟨by rw [HF.out]; rfl, by first | exact ⟨_, rfl⟩ | exact ⟨_, World.drewN_drewN _ _ _⟩⟩
              · have g1 : ¬ (1 : Int) < (i : Int) + 1 := by omega
                have g1' : decide ((1 : Int) < (i : Int) + 1) = false := decide_eq_false g1
                clear hsw
                go_quiet (fail)
                go_wp2_with fail
                go_ret
                exact ⟨by rw [HF.out]; rfl, by first | exact ⟨_, rfl⟩ | exact ⟨_, World.drewN_drewN _ _ _⟩⟩
end Go.Proofs.Ytpkkagiplockiaa.Ed
