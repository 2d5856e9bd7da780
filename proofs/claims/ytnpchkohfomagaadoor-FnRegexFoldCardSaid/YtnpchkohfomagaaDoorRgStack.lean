/- The automaton of instructions: the builder's stack. -/
import Derived.Test.YtnpchkohfomagaaDoorRgBld
import Derived.Test.YtnpchkohfomagaaDoorLib2
namespace Go.Proofs.YtnpchkohfomagaaDoor.Rgw
open Go.ChangeShapes Go.WideShapes Go.ChangeAt Go.RowKit Go.Trav Go.Pk Go.Rg Go.Maps Go.Proofs.YtnpchkohfomagaaDoor.Sparse
set_option linter.unusedVariables false
set_option linter.unusedSimpArgs false
set_option maxRecDepth 100000
theorem Tryd.infoInt : (Tryd.prog.info? 3).map (fun i => (i.zero, i.size, i.bytes)) = some (some (.int .i64 0), 1, 8) := by kernel_rfl
theorem pop_nil (base : Nat) (v : Value) (w : World) (h : w.ownsRow base 3 1 v 0 []) :
    Calls Tryd.prog 69 #[v] w fun e w' => e = .returned (.tuple #[v, .int .i64 0]) ∧ w = w' := by
  obtain ⟨ao, cap, rfl⟩ := ownsRow_form h
  clear h
  go_enter Tryd.func69, Tryd.ntmps69
  go_wp2_with fail
  go_ret2
  exact ⟨rfl, rfl⟩
theorem pop_some (base : Nat) (v : Value) (st : List Nat) (x : Nat) (w : World) (h : w.ownsRow base 3 1 v (st ++ [x]).length ((st ++ [x]).map iN)) (hl : st.length ≤ 1000000) :
    Calls Tryd.prog 69 #[v] w fun e w' => ∃ v', e = .returned (.tuple #[v', .int .i64 (x : Int)]) ∧ Mod (fun _ => False) w w' ∧ w'.ownsRow base 3 1 v' st.length (st.map iN) ∧ v'.ownBlock = v.ownBlock := by
  have hlen : (st ++ [x]).length = st.length + 1 := by simp
  rw [hlen] at h
  obtain ⟨g, cap, rfl, h1, h2, h3, hc⟩ := ownsRow_at h (by simp)
  have hx := (hc st.length (iN x) (by simp)).1
  unfold iN at hx
  have hcut := ownsRow_cut h (Nat.le_succ st.length)
  have hcut' : w.ownsRow base 3 1 (.slice (some ⟨g, 0, none⟩) st.length cap) st.length (st.map iN) := by simpa using hcut
  have HCUT := Lib.hid hcut'
  clear h hc hcut hcut' hlen
  go_enter Tryd.func69, Tryd.ntmps69
  go_wp2_with fail
  have hi1 : (0 : Int) ≤ (st.length : Int) := by omega
  have hi2 : (st.length : Int) ≤ (cap : Int) := by omega
  go_quiet (fail)
  go_wp2_with fail
  go_ret2
  have hmd : Mod (fun _ => False) w (w.drewN nq) := Mod.drewN (Mod.refl _ _) nq
  exact ⟨.slice (some ⟨g, 0, none⟩) st.length cap, rfl, hmd, ownsRow_mod HCUT.out hmd (fun _ _ h => h), rfl⟩
theorem push_any (base : Nat) (v : Value) (st : List Nat) (x : Nat) (w : World) (h : w.ownsRow base 3 1 v st.length (st.map iN)) (hl : st.length ≤ 1000000) (hb : base ≤ w.heap.size) :
    Calls Tryd.prog 71 #[v, .int .i64 (x : Int)] w fun e w' => ∃ v', e = .returned v' ∧ w'.ownsRow base 3 1 v' (st ++ [x]).length ((st ++ [x]).map iN) ∧ Mod (fun k => v.ownBlock = some k) w w' ∧ (v'.ownBlock = v.ownBlock ∨ v'.ownBlock = some (w.heap.size + 1)) := by
  obtain ⟨ao, cap, rfl⟩ := ownsRow_form h
  have H := Lib.hid h
  clear h
  go_enter Tryd.func71, Tryd.ntmps71
  go_wp2_with (at_builtin; refine wpList_append_one rfl (.tmp 5) (.tmp 7) 151 rfl base 3 _ 1 8 Tryd.underlying151 Tryd.infoInt rfl (by decide) (by decide) _ _ _ rfl H.out #[.int .i64 (x : Int)] _ _ rfl (by simp) rfl (by simp [Value.oneCell']) (by omega) hb ?_; intro ao5 cap5 w5 hown5 hgr5 hat5)
  go_ret
  exact ⟨_, rfl, by simpa [iN] using hown5, ((Mod.refl _ _).alloc _).grown hgr5 fun k hk _ => hk, hat5⟩
end Go.Proofs.YtnpchkohfomagaaDoor.Rgw
