/- Numbers in few bytes: the reference's functions, packedSize, readPackedUint. -/
import Derived.Test.YtkbonmjbfpdchaaDoorRows
import Derived.Test.YtkbonmjbfpdchaaDoorPk
import Derived.Test.YtkbonmjbfpdchaaDoorLib
import Derived.Deep.QuietTactic
import Derived.BigQuiet
import Derived.Deep.AppendLies
import Derived.Lib.QuietBelow
namespace Go.Proofs.YtkbonmjbfpdchaaDoor.PkS
open Go.ChangeShapes Go.WideShapes Go.ChangeAt Go.RowKit Go.Trav Go.Pk
set_option linter.unusedVariables false
set_option maxRecDepth 100000
theorem Tryd.infoB5 : (Tryd.prog.info? 5).map (fun i => (i.zero, i.size, i.bytes)) = some (some (.int .u8 0), 1, 1) := by kernel_rfl
def bN (x : Nat) : Value := .int .u8 (x : Int)
theorem size_any (v : Nat) (w : World) (hv : v < 18446744073709551616) : Calls Tryd.prog 50 #[.int .u64 v] w fun e w' => e = .returned (.int .i64 (size v)) ∧ w = w' := by
  have HV := Lib.hid hv
  clear hv
  go_enter Tryd.func50, Tryd.ntmps50
  go_wp2_with fail
  go_loop [0, 3] (fun n k => ∃ m j : Nat, n = .int .u64 m ∧ k = .int .i64 j ∧ m ≤ v ∧ 1 ≤ j ∧ j ≤ 8 ∧ Hid (size v + 1 = size m + j)) (fun n _ => (intOf n).toNat)
  case atStart => exact ⟨v, 1, rfl, rfl, Nat.le_refl _, by omega, by omega, Lib.hid rfl⟩
  case round =>
    obtain ⟨m, j, rfl, rfl, hm, hj, hj8, HE⟩ := hrel
    by_cases h255 : 255 < m
    · have hs := size_step h255 (by have := HV.out; omega)
      have hb := size_bd v
      have hb2 := size_bd (m / 256)
      have HS := Lib.hid hs
      have hj7 : j ≤ 7 := by have := HE.out; omega
      have hmx : (m : Int) ≤ 18446744073709551615 := by have := HV.out; omega
      clear hs hb hb2
      go_wp2_with fail
      go_round
      case rel => exact ⟨m / 256, j + 1, by simp, by go_num, by omega, by omega, by omega, Lib.hid (by have := HE.out; have := HS.out; omega)⟩
      case measure => simp [intOf]; omega
    · have hs := size_small (n := m) (by omega)
      obtain rfl : j = size v := by have := HE.out; omega
      clear hs
      go_wp2_with fail
      go_ret
      exact ⟨rfl, rfl⟩
theorem ps0 (v : Nat) (w : World) (h1 : v < 256) : Calls Tryd.prog 83 #[.int .u64 v] w fun e w' => e = .returned (.int .i64 1) ∧ w = w' := by
  have t0 : decide ((v : Int) < 256) = true := by simp; omega
  clear h1
  go_enter Tryd.func83, Tryd.ntmps83
  go_wp2_with fail
  go_ret
  exact ⟨rfl, rfl⟩
theorem ps1 (v : Nat) (w : World) (h0 : 256 ≤ v) (h1 : v < 65536) : Calls Tryd.prog 83 #[.int .u64 v] w fun e w' => e = .returned (.int .i64 2) ∧ w = w' := by
  have t0 : decide ((v : Int) < 256) = false := by simp; omega
  have t1 : decide ((v : Int) < 65536) = true := by simp; omega
  clear h0 h1
  go_enter Tryd.func83, Tryd.ntmps83
  go_wp2_with fail
  go_ret
  exact ⟨rfl, rfl⟩
theorem ps2 (v : Nat) (w : World) (h0 : 65536 ≤ v) (h1 : v < 16777216) : Calls Tryd.prog 83 #[.int .u64 v] w fun e w' => e = .returned (.int .i64 3) ∧ w = w' := by
  have t0 : decide ((v : Int) < 256) = false := by simp; omega
  have t1 : decide ((v : Int) < 65536) = false := by simp; omega
  have t2 : decide ((v : Int) < 16777216) = true := by simp; omega
  clear h0 h1
  go_enter Tryd.func83, Tryd.ntmps83
  go_wp2_with fail
  go_ret
  exact ⟨rfl, rfl⟩
theorem ps3 (v : Nat) (w : World) (h0 : 16777216 ≤ v) (h1 : v < 4294967296) : Calls Tryd.prog 83 #[.int .u64 v] w fun e w' => e = .returned (.int .i64 4) ∧ w = w' := by
  have t0 : decide ((v : Int) < 256) = false := by simp; omega
  have t1 : decide ((v : Int) < 65536) = false := by simp; omega
  have t2 : decide ((v : Int) < 16777216) = false := by simp; omega
  have t3 : decide ((v : Int) < 4294967296) = true := by simp; omega
  clear h0 h1
  go_enter Tryd.func83, Tryd.ntmps83
  go_wp2_with fail
  go_ret
  exact ⟨rfl, rfl⟩
theorem ps4 (v : Nat) (w : World) (h0 : 4294967296 ≤ v) (h1 : v < 1099511627776) : Calls Tryd.prog 83 #[.int .u64 v] w fun e w' => e = .returned (.int .i64 5) ∧ w = w' := by
  have t0 : decide ((v : Int) < 256) = false := by simp; omega
  have t1 : decide ((v : Int) < 65536) = false := by simp; omega
  have t2 : decide ((v : Int) < 16777216) = false := by simp; omega
  have t3 : decide ((v : Int) < 4294967296) = false := by simp; omega
  have t4 : decide ((v : Int) < 1099511627776) = true := by simp; omega
  clear h0 h1
  go_enter Tryd.func83, Tryd.ntmps83
  go_wp2_with fail
  go_ret
  exact ⟨rfl, rfl⟩
theorem ps5 (v : Nat) (w : World) (h0 : 1099511627776 ≤ v) (h1 : v < 281474976710656) : Calls Tryd.prog 83 #[.int .u64 v] w fun e w' => e = .returned (.int .i64 6) ∧ w = w' := by
  have t0 : decide ((v : Int) < 256) = false := by simp; omega
  have t1 : decide ((v : Int) < 65536) = false := by simp; omega
  have t2 : decide ((v : Int) < 16777216) = false := by simp; omega
  have t3 : decide ((v : Int) < 4294967296) = false := by simp; omega
  have t4 : decide ((v : Int) < 1099511627776) = false := by simp; omega
  have t5 : decide ((v : Int) < 281474976710656) = true := by simp; omega
  clear h0 h1
  go_enter Tryd.func83, Tryd.ntmps83
  go_wp2_with fail
  go_ret
  exact ⟨rfl, rfl⟩
theorem ps6 (v : Nat) (w : World) (h0 : 281474976710656 ≤ v) (h1 : v < 72057594037927936) : Calls Tryd.prog 83 #[.int .u64 v] w fun e w' => e = .returned (.int .i64 7) ∧ w = w' := by
  have t0 : decide ((v : Int) < 256) = false := by simp; omega
  have t1 : decide ((v : Int) < 65536) = false := by simp; omega
  have t2 : decide ((v : Int) < 16777216) = false := by simp; omega
  have t3 : decide ((v : Int) < 4294967296) = false := by simp; omega
  have t4 : decide ((v : Int) < 1099511627776) = false := by simp; omega
  have t5 : decide ((v : Int) < 281474976710656) = false := by simp; omega
  have t6 : decide ((v : Int) < 72057594037927936) = true := by simp; omega
  clear h0 h1
  go_enter Tryd.func83, Tryd.ntmps83
  go_wp2_with fail
  go_ret
  exact ⟨rfl, rfl⟩
theorem ps7 (v : Nat) (w : World) (h0 : 72057594037927936 ≤ v) : Calls Tryd.prog 83 #[.int .u64 v] w fun e w' => e = .returned (.int .i64 8) ∧ w = w' := by
  have t0 : decide ((v : Int) < 256) = false := by simp; omega
  have t1 : decide ((v : Int) < 65536) = false := by simp; omega
  have t2 : decide ((v : Int) < 16777216) = false := by simp; omega
  have t3 : decide ((v : Int) < 4294967296) = false := by simp; omega
  have t4 : decide ((v : Int) < 1099511627776) = false := by simp; omega
  have t5 : decide ((v : Int) < 281474976710656) = false := by simp; omega
  have t6 : decide ((v : Int) < 72057594037927936) = false := by simp; omega
  clear h0 
  go_enter Tryd.func83, Tryd.ntmps83
  go_wp2_with fail
  go_ret
  exact ⟨rfl, rfl⟩
theorem ps_any (v : Nat) (w : World) : Calls Tryd.prog 83 #[.int .u64 v] w fun e w' => e = .returned (.int .i64 (size v)) ∧ w = w' := by
  rcases size_cases v with h | h | h | h | h | h | h | h
  · rw [h.2]; exact ps0 v w h.1
  · rw [h.2.2]; exact ps1 v w h.1 h.2.1
  · rw [h.2.2]; exact ps2 v w h.1 h.2.1
  · rw [h.2.2]; exact ps3 v w h.1 h.2.1
  · rw [h.2.2]; exact ps4 v w h.1 h.2.1
  · rw [h.2.2]; exact ps5 v w h.1 h.2.1
  · rw [h.2.2]; exact ps6 v w h.1 h.2.1
  · rw [h.2]; exact ps7 v w h.1
theorem packed_any (v n : Nat) (w : World) (hv : v < 18446744073709551616) (hn : n ≤ 1000) : Calls Tryd.prog 29 #[.int .u64 v, .int .i64 n] w fun e w' => ∃ sv, e = .returned sv ∧ Reads w' sv n 1 ((packed v n).map bN) ∧ Below w.heap.size w w' := by
  have HV := Lib.hid hv
  clear hv
  go_enter Tryd.func29, Tryd.ntmps29
  go_wp2_with fail
  go_loopw [0, 5, 6] (fun x out ix wr => ∃ k m : Nat, x = .int .u64 m ∧ Hid (m = v / 256 ^ k) ∧ ix = .int .i64 k ∧ k ≤ n ∧ Hid (wr.ownsRow w.heap.size 5 1 out k ((packed v k).map bN)) ∧ Below w.heap.size w wr) (fun _ _ ix _ => n - (intOf ix).toNat)
  case atStart => exact ⟨0, v, rfl, Lib.hid (by simp), rfl, Nat.zero_le _, Lib.hid (World.ownsRow_nil _ _ _ _), Below.refl _ _⟩
  case round =>
    obtain ⟨k, m, rfl, HM, rfl, hk, HO, hb⟩ := hrel
    by_cases hlt : k < n
    · have hbs : w.heap.size ≤ wr.heap.size := hb.size
      have hmx : (m : Int) ≤ 18446744073709551615 := by have h1 := HM.out; have h2 := HV.out; have h3 := Nat.div_le_self v (256 ^ k); omega
      go_wp2_with (at_builtin; refine wpList_append_one rfl (.tmp 12) (.tmp 16) 35 rfl w.heap.size 5 _ 1 1 Tryd.underlying35 Tryd.infoB5 rfl (by decide) (by decide) _ _ _ rfl HO.out #[.int .u8 ((m : Int) % 256)] _ _ rfl rfl rfl (by simp [Value.oneCell']) (by omega) (by omega) ?_; intro ao9 cap9 w9 hown9 hgr9 hat9; have hb9 := below_own hb HO.out _ hgr9 hbs; have HO9 := Lib.hid hown9; clear hown9 hgr9 hat9)
      go_roundw
      case rel =>
        refine ⟨k + 1, m / 256, by simp, Lib.hid ?_, by go_num, by omega, ?_, hb9⟩
        · rw [HM.out, Nat.pow_succ, Nat.div_div_eq_div_mul]
        · have := HO9.out
          rw [packed_succ, List.map_append]
          have e : ([v / 256 ^ k % 256].map bN) = (#[Value.int .u8 ((m : Int) % 256)]).toList := by rw [← HM.out]; simp [bN]
          rw [e]
          exact Lib.hid this
      case measure => simp [intOf]; omega
    · obtain rfl : n = k := by omega
      go_wp2_with fail
      go_ret
      exact ⟨_, rfl, reads_of_owns HO.out, hb⟩
end Go.Proofs.YtkbonmjbfpdchaaDoor.PkS
