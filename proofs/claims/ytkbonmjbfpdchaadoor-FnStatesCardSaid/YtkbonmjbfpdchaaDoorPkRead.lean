/- readPackedUint. -/
import Derived.Test.YtkbonmjbfpdchaaDoorRows
import Derived.Test.YtkbonmjbfpdchaaDoorPkSpec
import Derived.Test.YtkbonmjbfpdchaaDoorLib
import Derived.Deep.QuietTactic
import Derived.BigQuiet
import Derived.Deep.AppendLies
import Derived.Lib.QuietBelow
namespace Go.Proofs.YtkbonmjbfpdchaaDoor.PkS
open Go.ChangeShapes Go.WideShapes Go.ChangeAt Go.RowKit Go.Trav Go.Pk
set_option linter.unusedVariables false
set_option maxRecDepth 100000
theorem or_pack (m x k : Nat) (hk : k < 8) (hm : m < 256 ^ k) (hx : x < 256) : bits .or .u64 (m : Int) (IntKind.u64.wrap ((x : Int) * 2 ^ (k * 8))) = ((m + 256 ^ k * x : Nat) : Int) := by
  have e : (256 : Nat) ^ k = 2 ^ (k * 8) := by rw [Nat.mul_comm, show (256 : Nat) = 2 ^ 8 from rfl, ← Nat.pow_mul]
  have h1 : x * 2 ^ (k * 8) < 18446744073709551616 := by
    have h2 : (2 : Nat) ^ (k * 8) ≤ 2 ^ 56 := Nat.pow_le_pow_right (by omega) (by omega)
    have h3 : x * 2 ^ (k * 8) ≤ 255 * 2 ^ 56 := Nat.mul_le_mul (by omega) h2
    have : (255 : Nat) * 2 ^ 56 < 18446744073709551616 := by decide
    omega
  have h4 : m < 18446744073709551616 := by
    have h2 : (2 : Nat) ^ (k * 8) ≤ 2 ^ 56 := Nat.pow_le_pow_right (by omega) (by omega)
    have : (2 : Nat) ^ 56 < 18446744073709551616 := by decide
    omega
  have h5 : (x : Int) * 2 ^ (k * 8) = ((x * 2 ^ (k * 8) : Nat) : Int) := by simp
  rw [h5]
  have h6 : IntKind.u64.wrap ((x * 2 ^ (k * 8) : Nat) : Int) = ((x * 2 ^ (k * 8) : Nat) : Int) := by
    generalize x * 2 ^ (k * 8) = y at *
    simp [IntKind.wrap, IntKind.bits, IntKind.signed]
    omega
  rw [h6, u64_or_nat _ _ h4 h1, e, Nat.or_comm, Nat.mul_comm x]
  rw [← Nat.two_pow_add_eq_or_of_lt (by rw [← e]; exact hm)]
  rw [Nat.add_comm]
theorem read_any (v : Value) (n : Nat) (l : List Nat) (w : World) (h : Reads w v n 1 (l.map bN)) (h8 : n ≤ 8) (hb : ∀ x ∈ l, x < 256) : Calls Tryd.prog 91 #[v] w fun e w' => e = .returned (.int .u64 (unpacked l)) ∧ w = w' := by
  obtain ⟨aa, ac, rfl⟩ := h.form
  have hl : l.length = n := by have := h.len; simpa using this
  have H := Lib.hid h
  have HB := Lib.hid hb
  have HL := Lib.hid hl
  clear h hb hl
  go_enter Tryd.func91, Tryd.ntmps91
  go_wp2_with fail
  go_loop [2, 7] (fun rv ix => ∃ k m : Nat, ix = .int .i64 k ∧ rv = .int .u64 m ∧ k ≤ n ∧ Hid (m = unpacked (l.take k))) (fun _ ix => n - (intOf ix).toNat)
  case atStart => exact ⟨0, 0, rfl, rfl, Nat.zero_le _, Lib.hid rfl⟩
  case round =>
    obtain ⟨k, m, rfl, rfl, hk, HM⟩ := hrel
    by_cases hlt : k < n
    · obtain ⟨b1, o1, _, x, hx, hq, hc⟩ := Reads.one bN H.out hlt
      cases hx
      unfold bN at hc
      have hx256 : x < 256 := HB.out x (List.mem_of_getElem? hq)
      have HQ := Lib.hid hq
      clear hq
      have hl : (l.take k).length = k := by rw [List.length_take]; have := HL.out; omega
      have hm : m < 256 ^ k := by rw [HM.out]; have := unpacked_lt (l.take k) (fun y hy => HB.out y (List.mem_of_mem_take hy)); rwa [hl] at this
      have ho := or_pack m x k (by omega) hm hx256
      have HO := Lib.hid ho
      have HM2 := Lib.hid hm
      have HLT := Lib.hid hl
      clear ho hm hl
      go_wp2_with fail
      go_round
      case rel =>
        refine ⟨k + 1, m + 256 ^ k * x, by go_num, by rw [HO.out], by omega, Lib.hid ?_⟩
        rw [take_snoc' _ _ _ HQ.out, unpacked_snoc, HLT.out, HM.out]
      case measure => simp [intOf]; omega
    · obtain rfl : n = k := by omega
      have e : m = unpacked l := by rw [HM.out, List.take_of_length_le (by rw [HL.out]; exact Nat.le_refl _)]
      subst e
      go_wp2_with fail
      go_ret
      exact ⟨rfl, rfl⟩
end Go.Proofs.YtkbonmjbfpdchaaDoor.PkS
