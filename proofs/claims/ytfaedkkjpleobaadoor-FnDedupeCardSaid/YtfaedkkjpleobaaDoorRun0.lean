/- laws.runes. -/
import Derived.Test.YtfaedkkjpleobaaDoorUtf3
import Derived.Test.YtfaedkkjpleobaaDoorUtf6
namespace Go.Proofs.YtfaedkkjpleobaaDoor.Utf0
open Go.ChangeShapes Go.WideShapes Go.ChangeAt Go.RowKit Go.Trav Go.Utf
set_option linter.unusedVariables false
set_option maxRecDepth 100000
theorem Tryd.info21 : (Tryd.prog.info? 21).map (fun i => (i.zero, i.size, i.bytes)) = some (some (.int .i32 0), 1, 4) := by kernel_rfl
theorem let_wrap {x : Int} (h : Let x) : IntKind.i32.wrap x = x := by
  unfold Let at h
  exact IntWalk.i32_in _ (by omega)
theorem runes_any (v : Value) (n : Nat) (l : List Int) (w : World) (h : Reads w v n 1 (l.map iV)) (hL : ∀ q ∈ l, Let q) (hn : n ≤ 1000000) :
    Calls Tryd.prog 6 #[v] w fun e w' => ∃ ov, e = .returned ov ∧ Reads w' ov n 1 (l.map rV) ∧ Below w.heap.size w w' := by
  have hl : l.length = n := by have := h.len; simpa using this
  obtain ⟨ao, cap, rfl⟩ := h.form
  have H := Lib.hid h
  have HLN := Lib.hid hl
  have HL := Lib.hid hL
  clear h hl hL
  go_enter Tryd.func6, Tryd.ntmps6
  go_wp2_with fail
  go_loopw [3, 4] (fun ov iv wr => ∃ (O : Value) (i : Nat), O = ov ∧ iv = .int .i64 i ∧ i ≤ n ∧ Hid (wr.ownsRow w.heap.size 21 1 O i ((l.take i).map rV)) ∧ Below w.heap.size w wr) (fun _ iv _ => n - (intOf iv).toNat)
  case atStart => exact ⟨_, 0, rfl, rfl, by omega, Lib.hid (World.ownsRow_nil _ _ _ _), Below.refl _ _⟩
  case round =>
    obtain ⟨O, i, rfl, rfl, hi, HO, hb⟩ := hrel
    by_cases hlt : i < n
    · obtain ⟨b, off, _, x, hx, ex, cx⟩ := Reads.one iV (H.out.below hb) hlt
      cases hx
      unfold iV at cx
      have hw := let_wrap (HL.out x (List.mem_of_getElem? ex))
      have hs := hb.size
      have HN : Hid ((l.take (i + 1)).map rV = (l.take i).map rV ++ [rV x]) := Lib.hid (by rw [take_snoc' _ _ _ ex, List.map_append]; rfl)
      clear ex
      go_wp2_with (at_builtin; refine wpList_append_one rfl (.tmp 11) (.tmp 17) 26 rfl w.heap.size 21 _ 1 4 Tryd.underlying26 Tryd.info21 rfl (by decide) (by decide) _ _ _ rfl HO.out #[rV x] _ _ rfl (by simp) rfl (by simp [Value.oneCell', rV]) (by omega) hs ?_; intro ao5 cap5 w5 hown5 hgr5 hat5; have HX := Lib.hid hown5; have hbl5 := below_own hb HO.out _ hgr5 hs; clear hown5 hgr5 hat5)
      go_roundw
      case rel => exact ⟨_, i + 1, rfl, by go_num, by omega, Lib.hid (by rw [HN.out]; exact HX.out), hbl5⟩
      case measure => simp [intOf]; omega
    · obtain rfl : i = n := by omega
      go_wp2_with fail
      go_ret
      exact ⟨_, rfl, by have := reads_of_owns HO.out; rwa [List.take_of_length_le (by rw [HLN.out]; exact Nat.le_refl _)] at this, hb⟩
theorem cnt_one {l : List Int} {x : Int} (h : l.Nodup) (hx : x ∈ l) : cnt l x = 1 := by
  unfold cnt
  induction l with
  | nil => simp at hx
  | cons a r ih =>
    obtain ⟨h1, h2⟩ := List.nodup_cons.1 h
    rw [List.countP_cons]
    by_cases e : a = x
    · subst e
      have : r.countP (fun y => y == a) = 0 := List.countP_eq_zero.2 (fun y hy => by
        intro he
        have : y = a := by simpa using he
        exact h1 (this ▸ hy))
      simp [this]
    · rcases List.mem_cons.1 hx with rfl | hx
      · exact absurd rfl e
      · have := ih h2 hx
        simp [this, e]
theorem cnt_pos {l : List Int} {x : Int} (hx : x ∈ l) : 0 < cnt l x := List.countP_pos_iff.2 ⟨x, hx, by simp⟩
end Go.Proofs.YtfaedkkjpleobaaDoor.Utf0
