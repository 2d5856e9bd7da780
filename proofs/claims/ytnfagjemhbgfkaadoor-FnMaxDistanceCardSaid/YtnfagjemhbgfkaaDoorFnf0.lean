/- fromNfa's small callees: normalize of the empty set, initialStates, maxDistance, getFromID. -/
import Derived.Test.YtnfagjemhbgfkaaDoorHsh1
import Derived.Test.YtnfagjemhbgfkaaDoorNormX
import Derived.Test.YtnfagjemhbgfkaaDoorPlm5
namespace Go.Proofs.YtnfagjemhbgfkaaDoor.Hsh
open Go.ChangeShapes Go.WideShapes Go.ChangeAt Go.RowKit Go.Trav Go.Nor Go.Proofs.YtnfagjemhbgfkaaDoor.Sha Go.Proofs.YtnfagjemhbgfkaaDoor.Nfa Go.Proofs.YtnfagjemhbgfkaaDoor.Srt Go.Proofs.YtnfagjemhbgfkaaDoor.Jsn
set_option linter.unusedVariables false
set_option linter.unusedSimpArgs false
set_option maxRecDepth 100000
set_option maxHeartbeats 2000000 in
theorem maxd_any (L m : Nat) (sw : Bool) (w : World) (h : LaAt w L m sw) : Calls Tryd.prog 13 #[.pointer (some ⟨L, 0, none⟩)] w fun e w' => e = .returned (.int .u8 m) ∧ w' = w := by
  have c0 := block_cell (i := 0) (u := .int .u8 m) h rfl
  clear h
  go_enter Tryd.func13, Tryd.ntmps13
  go_wp2_with fail
  go_ret
  exact ⟨rfl, rfl⟩
set_option maxHeartbeats 2000000 in
theorem getid_any (H n cap i : Nat) (g : Nat) (m : Option Nat) (w : World) (h : w.heap[H]? = some (.cells #[.map m, .slice (some ⟨g, 0, none⟩) n cap] 58 (0, 0))) (hi : i < n) :
    Calls Tryd.prog 15 #[.pointer (some ⟨H, 0, none⟩), .int .i64 i] w fun e w' => e = .returned (.pointer (some ⟨g, i, none⟩)) ∧ w' = w := by
  have c1 := block_cell (i := 1) h rfl
  have h0 : (0 : Int) ≤ (i : Int) := by omega
  have h1 : (i : Int) < (n : Int) := by omega
  clear h
  go_enter Tryd.func15, Tryd.ntmps15
  go_wp2_with fail
  go_ret
  exact ⟨by simp [Act.eval], rfl⟩
set_option maxHeartbeats 4000000 in
theorem sort0_any (p : Option Addr) (c : Nat) (w : World) : Calls Tryd.prog 23 #[.iface 75 (.slice p 0 c)] w fun e w' => e = .returned (.tuple #[]) ∧ Below w.heap.size w w' := by
  have mN := len_reached p 0 c
  have eN : ∀ args w, (callFunc 72 args).run Tryd.prog w = .ok (.enter 72 args) w := enters_of Tryd.func72 (by kernel_rfl) rfl
  have HN := Lib.hid (len_any p 0 c w)
  go_enter Tryd.func23, Tryd.ntmps23
  go_wp2_with fail
  refine HN.out.mono ?_
  rintro e w1 ⟨rfl, hw1⟩
  have HW1 := Lib.hid hw1
  clear hw1
  go_wp2_with fail
  (try simp only [Exit.inBlock, Exit.then])
  refine bodyPost_ret (results_none rfl _ _ _) rfl ?_
  exact ⟨rfl, HW1.out⟩
set_option maxHeartbeats 4000000 in
theorem norm0_any (base M : Nat) (v : Value) (w : World) (h : MsAt w base M v []) : Calls Tryd.prog 17 #[.pointer (some ⟨M, 0, none⟩)] w fun e w' => e = .returned (.int .u32 0) ∧ MsAt w' base M v [] ∧ Below w.heap.size w w' := by
  obtain ⟨ao, cap, rfl⟩ := ownsRow_form h.row
  have cM := block_cell (i := 0) (u := .slice ao 0 cap) h.blk rfl
  have HS := Lib.hid (sort0_any ao cap w)
  have HH := Lib.hid h
  clear h
  go_enter Tryd.func17, Tryd.ntmps17
  go_wp2_with fail
  go_loopw [3, 12] (fun mv iv wr => mv = .int .u32 4294967295 ∧ iv = .int .i64 0 ∧ wr = w) (fun _ _ _ => 0)
  case atStart => exact ⟨rfl, rfl, rfl⟩
  case round =>
    obtain ⟨rfl, rfl, rfl⟩ := hrel
    go_wp2_with fail
    go_loopw [6] (fun iv wq => iv = .int .i64 0 ∧ wq = wr) (fun _ _ => 0)
    case atStart => exact ⟨rfl, rfl⟩
    case round =>
      obtain ⟨rfl, rfl⟩ := hrel
      go_wp2_with fail
      refine HS.out.mono ?_
      rintro e w1 ⟨rfl, hw1⟩
      have HW1 := Lib.hid hw1
      clear hw1
      go_wp2_with fail
      go_ret
      exact ⟨rfl, HH.out.below HW1.out, HW1.out⟩
set_option maxHeartbeats 4000000 in
theorem ini_any (p : Value) (w : World) : Calls Tryd.prog 12 #[p] w fun e w' => ∃ M v, e = .returned (.pointer (some ⟨M, 0, none⟩)) ∧ MsAt w' w.heap.size M v [⟨0, 0, false⟩] ∧ Below w.heap.size w w' := by
  have hz : MsAt (w.alloc (.cells #[.slice none 0 0] 50)) w.heap.size w.heap.size (.slice none 0 0) [] := ⟨heap_alloc_new w _, ⟨rfl, .inl ⟨rfl, rfl⟩⟩, Nat.le_refl _⟩
  have HZ := Lib.hid hz
  clear hz
  go_enter Tryd.func12, Tryd.ntmps12
  go_wp2_with fail
  have hz2 : MsAt ((w.alloc (.cells #[.slice none 0 0] 50)).alloc (.cells #[.int .u32 0, .int .u8 0, .bool false] 71)) w.heap.size w.heap.size (.slice none 0 0) [] := HZ.out.below ((Below.refl _ _).alloc (Nat.le_refl _) _)
  refine (add2_any w.heap.size w.heap.size (.slice none 0 0) [] ⟨0, 0, false⟩ _ hz2 (fun s hs => by cases hs) (by constructor <;> decide) (by simp)).mono ?_
  rintro e w2 ⟨rfl, ⟨v', hM, -⟩, hm⟩
  have hb : Below w.heap.size w w2 := (((Below.refl _ _).alloc (Nat.le_refl _) _).alloc (by simp) _).trans (hm.toBelow (by simp; omega) (fun k hk hF => by
    rcases hF with hF | hF
    · omega
    · cases hF))
  have HM := Lib.hid hM
  have HB := Lib.hid hb
  clear hM hm hb hz2
  go_wp2_with fail
  go_ret
  exact ⟨_, v', rfl, HM.out, HB.out⟩
end Go.Proofs.YtnfagjemhbgfkaaDoor.Hsh
