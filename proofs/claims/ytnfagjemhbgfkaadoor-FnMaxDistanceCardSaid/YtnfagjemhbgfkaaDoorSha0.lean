/- sha256: RotateLeft32. -/
import Derived.Test.YtnfagjemhbgfkaaDoorRows
import Derived.Test.YtnfagjemhbgfkaaDoorLib
import Derived.Test.YtnfagjemhbgfkaaDoorLib2
import Derived.Laws.BitsAllLaws
import Derived.Deep.QuietTactic
import Derived.BigQuiet
import Derived.WalkLawsBesides
namespace Go.Proofs.YtnfagjemhbgfkaaDoor.Sha
open Go.ChangeShapes Go.WideShapes Go.ChangeAt Go.RowKit Go.Trav
set_option linter.unusedVariables false
set_option linter.unusedSimpArgs false
set_option maxRecDepth 100000
def ro (s : Nat) (x : Int) : Int := bits .or .u32 (x * 2 ^ s % 4294967296) (x / 2 ^ (32 - s))
set_option maxHeartbeats 1000000 in
theorem rl_any (x k : Int) (s : Nat) (w : World) (hk : bits .and .u64 (IntKind.u64.wrap k) 31 = (s : Int)) (hs : s < 32) : Calls Tryd.prog 86 #[.int .u32 x, .int .i64 k] w fun e w' => e = .returned (.int .u32 (ro s x)) ∧ w' = w := by
  go_enter Tryd.func86, Tryd.ntmps86
  go_wp2
  go_ret
  exact ⟨rfl, rfl⟩
theorem rl_6 (x : Int) (w : World) : Calls Tryd.prog 86 #[.int .u32 x, .int .i64 (-6)] w fun e w' => e = .returned (.int .u32 (ro 26 x)) ∧ w' = w := rl_any x (-6) 26 w (by decide) (by decide)
theorem rl_11 (x : Int) (w : World) : Calls Tryd.prog 86 #[.int .u32 x, .int .i64 (-11)] w fun e w' => e = .returned (.int .u32 (ro 21 x)) ∧ w' = w := rl_any x (-11) 21 w (by decide) (by decide)
theorem rl_25 (x : Int) (w : World) : Calls Tryd.prog 86 #[.int .u32 x, .int .i64 (-25)] w fun e w' => e = .returned (.int .u32 (ro 7 x)) ∧ w' = w := rl_any x (-25) 7 w (by decide) (by decide)
theorem rl_2 (x : Int) (w : World) : Calls Tryd.prog 86 #[.int .u32 x, .int .i64 (-2)] w fun e w' => e = .returned (.int .u32 (ro 30 x)) ∧ w' = w := rl_any x (-2) 30 w (by decide) (by decide)
theorem rl_13 (x : Int) (w : World) : Calls Tryd.prog 86 #[.int .u32 x, .int .i64 (-13)] w fun e w' => e = .returned (.int .u32 (ro 19 x)) ∧ w' = w := rl_any x (-13) 19 w (by decide) (by decide)
theorem rl_22 (x : Int) (w : World) : Calls Tryd.prog 86 #[.int .u32 x, .int .i64 (-22)] w fun e w' => e = .returned (.int .u32 (ro 10 x)) ∧ w' = w := rl_any x (-22) 10 w (by decide) (by decide)
theorem rl_17 (x : Int) (w : World) : Calls Tryd.prog 86 #[.int .u32 x, .int .i64 (-17)] w fun e w' => e = .returned (.int .u32 (ro 15 x)) ∧ w' = w := rl_any x (-17) 15 w (by decide) (by decide)
theorem rl_19 (x : Int) (w : World) : Calls Tryd.prog 86 #[.int .u32 x, .int .i64 (-19)] w fun e w' => e = .returned (.int .u32 (ro 13 x)) ∧ w' = w := rl_any x (-19) 13 w (by decide) (by decide)
theorem rl_7 (x : Int) (w : World) : Calls Tryd.prog 86 #[.int .u32 x, .int .i64 (-7)] w fun e w' => e = .returned (.int .u32 (ro 25 x)) ∧ w' = w := rl_any x (-7) 25 w (by decide) (by decide)
theorem rl_18 (x : Int) (w : World) : Calls Tryd.prog 86 #[.int .u32 x, .int .i64 (-18)] w fun e w' => e = .returned (.int .u32 (ro 14 x)) ∧ w' = w := rl_any x (-18) 14 w (by decide) (by decide)
/-- By any literal; for a walk in one order. -/
theorem rl_q (x k : Int) (w : World) (m : Nat) (hk : bits .and .u64 (IntKind.u64.wrap k) 31 = (((32 + k).toNat : Nat) : Int) ∧ (32 + k).toNat < 32) : Calls Tryd.prog 86 #[.int .u32 x, .int .i64 k] (w.drewN m) fun e w' => e = .returned (.int .u32 (ro (32 + k).toNat x)) ∧ ∃ n, w' = w.drewN n := (rl_any x k _ _ hk.1 hk.2).mono fun _ _ h => ⟨h.1, m, h.2⟩
end Go.Proofs.YtnfagjemhbgfkaaDoor.Sha
