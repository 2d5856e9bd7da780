/- impl.number: which state has an address. -/
import Derived.Test.YtkbonmjbfpdchaaDoorEncRun
namespace Go.Proofs.YtkbonmjbfpdchaaDoor.Buf
open Go.ChangeShapes Go.WideShapes Go.ChangeAt Go.RowKit Go.Trav
set_option linter.unusedVariables false
set_option linter.unusedSimpArgs false
set_option maxRecDepth 100000
theorem number_zero (av : Value) (w : World) : Calls Tryd.prog 25 #[av, .int .i64 0] w fun e w' => e = .returned (.int .i64 (-1)) ∧ w = w' := by
  go_enter Tryd.func25, Tryd.ntmps25
  go_wp2_with fail
  go_ret
  exact ⟨rfl, rfl⟩
theorem number_any (av : Value) (n i a : Nat) (ads : List Nat) (w : World) (h : Reads w av n 1 (ads.map aV)) (hi : ads[i]? = some a) (h0 : a ≠ 0) (hf : ∀ j, j < i → ads[j]? ≠ some a) :
    Calls Tryd.prog 25 #[av, .int .i64 (a : Nat)] w fun e w' => e = .returned (.int .i64 (i : Nat)) ∧ w = w' := by
  have hl : ads.length = n := by have := h.len; simpa using this
  have hin : i < n := by have := (List.getElem?_eq_some_iff.1 hi).1; omega
  have hbd := h.bound
  obtain ⟨ao, cap, rfl⟩ := h.form
  have H := Lib.hid h
  have HI := Lib.hid hi
  have HF := Lib.hid hf
  have z0 : ((a : Int) == 0) = false := beq_eq_false_iff_ne.2 (by omega)
  clear h hi hf hl h0
  go_enter Tryd.func25, Tryd.ntmps25
  go_wp2_with fail
  go_loop [11] (fun ix => ∃ k : Nat, ix = .int .i64 k ∧ k ≤ i) (fun ix => n - (intOf ix).toNat)
  case atStart => exact ⟨0, rfl, Nat.zero_le _⟩
  case round =>
    obtain ⟨k, rfl, hk⟩ := hrel
    obtain ⟨b1, o1, _, x, hx, hq, hc⟩ := Reads.one aV H.out (show k < n by omega)
    cases hx
    unfold aV at hc
    have hI1 : (0 : Int) ≤ (k : Int) := by omega
    have hI2 : (k : Int) < (n : Int) := by omega
    by_cases hki : k = i
    · subst hki
      obtain rfl : x = a := Option.some.inj (hq.symm.trans HI.out)
      have z1 : ((x : Int) == (x : Int)) = true := beq_self_eq_true _
      clear hq
      go_wp2_with fail
      go_ret
      exact ⟨rfl, rfl⟩
    · have hne : x ≠ a := fun e => HF.out k (by omega) (by rw [hq, e])
      have z1 : ((x : Int) == (a : Int)) = false := beq_eq_false_iff_ne.2 (by omega)
      clear hq hne
      go_wp2_with fail
      go_round
      case rel => exact ⟨k + 1, by go_num, by omega⟩
      case measure => simp [intOf]; omega
end Go.Proofs.YtkbonmjbfpdchaaDoor.Buf
