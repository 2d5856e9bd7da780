/- The functions around fromNfa, and the law: a builder tells the greatest distance with which it was made. -/
import Derived.Test.YtnfagjemhbgfkaaDoorFnf1
namespace Go.Proofs.YtnfagjemhbgfkaaDoor.Hsh
open Go.ChangeShapes Go.WideShapes Go.ChangeAt Go.RowKit Go.Trav Go.Nor Go.Proofs.YtnfagjemhbgfkaaDoor.Sha Go.Proofs.YtnfagjemhbgfkaaDoor.Nfa Go.Proofs.YtnfagjemhbgfkaaDoor.Srt Go.Proofs.YtnfagjemhbgfkaaDoor.Jsn
set_option linter.unusedVariables false
set_option linter.unusedSimpArgs false
set_option maxRecDepth 100000
theorem nl_any (m : Nat) (sw : Bool) (w : World) :
    Calls Tryd.prog 7 #[.int .u8 m, .bool sw] w fun e w' => ∃ L, e = .returned (.pointer (some ⟨L, 0, none⟩)) ∧ LaAt w' L m sw ∧ Below w.heap.size w w' := by
  go_enter Tryd.func7, Tryd.ntmps7
  go_wp2_with fail
  go_ret
  exact ⟨w.heap.size, rfl, heap_alloc_new w _, (Below.refl _ _).alloc (Nat.le_refl _) _⟩
theorem nb_any (K : Nat → Int) (m : Nat) (sw : Bool) (w : World) (hm : m ≤ 2) (hK : KAt w K) :
    Calls Tryd.prog 5 #[.int .u8 m, .bool sw] w fun e w' => ∃ B P, e = .returned (.tuple #[.pointer (some ⟨B, 0, none⟩), .nilIface]) ∧ w'.cell? ⟨B, 0, none⟩ = some (.pointer (some ⟨P, 0, none⟩)) ∧ w'.cell? ⟨P, 2, none⟩ = some (.int .u8 m) ∧ Below w.heap.size w w' := by
  have HK := Lib.hid hK
  clear hK
  go_enter Tryd.func5, Tryd.ntmps5
  go_wp2_with fail
  refine (nl_any m sw w).mono ?_
  rintro e w1 ⟨L, rfl, hL, hB⟩
  have HL := Lib.hid hL
  have HB := Lib.hid hB
  clear hL hB
  go_wp2_with fail
  refine (from_any K L m sw w1 HL.out hm (HK.out.mod (Mod.of_below (F := fun _ => False) HB.out) (fun h => h))).mono ?_
  rintro e w2 ⟨P, rfl, hc, hB2⟩
  have HC := Lib.hid hc
  have HB2 := Lib.hid hB2
  clear hc hB2
  go_wp2_with fail
  go_ret2
  refine ⟨w2.heap.size, P, rfl, block_cell (heap_alloc_new w2 _) rfl, ?_, (HB.out.trans (HB2.out.mono HB.out.size)).alloc (Nat.le_trans HB.out.size HB2.out.size) _⟩
  exact ((Mod.refl (fun _ => False) w2).alloc _).cell HC.out (fun h => h)
theorem md_any (B P m : Nat) (w : World) (h1 : w.cell? ⟨B, 0, none⟩ = some (.pointer (some ⟨P, 0, none⟩))) (h2 : w.cell? ⟨P, 2, none⟩ = some (.int .u8 m)) :
    Calls Tryd.prog 6 #[.pointer (some ⟨B, 0, none⟩)] w fun e w' => e = .returned (.int .u8 m) ∧ w' = w := by
  go_enter Tryd.func6, Tryd.ntmps6
  go_wp2_with fail
  go_ret
  exact ⟨rfl, rfl⟩
theorem im_any (K : Nat → Int) (m : Nat) (sw : Bool) (w : World) (hm : m ≤ 2) (hK : KAt w K) :
    Calls Tryd.prog 4 #[.int .u8 m, .bool sw] w fun e w' => e = .returned (.tuple #[.int .u8 m, .bool true]) ∧ Below w.heap.size w w' := by
  have HK := Lib.hid hK
  clear hK
  go_enter Tryd.func4, Tryd.ntmps4
  go_wp2_with fail
  refine (nb_any K m sw w hm HK.out).mono ?_
  rintro e w1 ⟨B, P, rfl, h1, h2, hB⟩
  have HB := Lib.hid hB
  clear hB
  go_wp2_with fail
  refine (md_any B P m w1 h1 h2).mono ?_
  rintro e w2 ⟨rfl, rfl⟩
  go_wp2_with fail
  go_ret2
  exact ⟨rfl, HB.out⟩
theorem law_any (K : Nat → Int) (m : Nat) (sw : Bool) (w : World) (hm : m < 256) (hK : KAt w K) :
    Calls Tryd.prog 3 #[.int .u8 m, .bool sw] w fun e w' => e = .returned (.bool true) ∧ Below w.heap.size w w' := by
  have HK := Lib.hid hK
  clear hK
  go_enter Tryd.func3, Tryd.ntmps3
  by_cases h2 : m ≤ 2
  · have h3 : ¬ (2 : Int) < (m : Int) := by omega
    go_wp2_with fail
    refine (im_any K m sw w h2 HK.out).mono ?_
    rintro e w1 ⟨rfl, hB⟩
    have HB := Lib.hid hB
    clear hB
    go_wp2_with fail
    go_ret
    exact ⟨by simp, HB.out⟩
  · have h3 : (2 : Int) < (m : Int) := by omega
    go_wp2_with fail
    go_ret
    exact ⟨rfl, Below.refl _ _⟩
end Go.Proofs.YtnfagjemhbgfkaaDoor.Hsh
