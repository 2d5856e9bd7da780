/- zzFits8: its contract (over States0). -/
import Derived.Test.YtkbonmjbfpdchaaDoorStates0
namespace Go.Proofs.YtkbonmjbfpdchaaDoor.Node
open Go.ChangeShapes Go.WideShapes Go.ChangeAt Go.RowKit Go.Trav Go.Sort
set_option linter.unusedVariables false
set_option linter.unusedSimpArgs false
theorem fits8_any (v : Value) (n : Nat) (S : List StV) (w : World) (h : States w v n S) :
    Calls Tryd.prog 5 #[v] w fun e w' => (∃ b, e = .returned (.bool b) ∧ (b = true → n ≤ 2147483647 ∧ ∀ x ∈ S, x.l.length ≤ 2147483647)) ∧ Below w.heap.size w w' := by
  obtain ⟨ao, cap, rfl⟩ := h.cells.form
  have H := Lib.hid h
  have hbd := h.cells.bound
  clear h
  by_cases hn : n ≤ 2147483647
  · go_enter Tryd.func5, Tryd.ntmps5
    go_wp2
    go_loopw [10] (fun i wr => ∃ k : Nat, i = .int .i64 k ∧ k ≤ n ∧ Below w.heap.size w wr ∧ Hid (∀ j, j < k → ∀ x, S[j]? = some x → x.l.length ≤ 2147483647)) (fun i _ => n - (intOf i).toNat)
    case atStart => exact ⟨0, rfl, Nat.zero_le _, Below.refl _ _, Lib.hid (fun j hj => by omega)⟩
    case round =>
      obtain ⟨k, rfl, hk, hb, HK⟩ := hrel
      by_cases hlt : k < n
      · obtain ⟨b, off, _, x, hx, e1, c0, c1, c2, ha⟩ := (H.out.below hb).at hlt
        cases hx
        obtain ⟨xa, xcap, hxv⟩ := ha.form
        rw [hxv] at c2
        have E1 := Lib.hid e1
        clear e1 ha hxv
        go_wp2_with fail
        refine (fits9 _ _ _ _ _ _).mono ?_
        rintro e w2 ⟨rfl, hb2⟩
        have hb3 := (hb.alloc hb.size (.cells #[.bool x.f, .int .u64 x.o, .slice xa x.l.length xcap] 30 (0, 0))).trans (hb2.mono (by have := hb.size; simp; omega))
        by_cases hl : x.l.length ≤ 2147483647
        · have hd : decide (x.l.length ≤ 2147483647) = true := by simpa using hl
          rw [hd]
          clear hd
          go_wp2
          go_roundw
          case rel =>
            refine ⟨k + 1, by go_num, by omega, hb3, Lib.hid (fun j hj y hy => ?_)⟩
            rcases Nat.lt_or_ge j k with h1 | h1
            · exact HK.out j h1 y hy
            · obtain rfl : j = k := by omega
              obtain rfl : y = x := Option.some.inj (hy.symm.trans E1.out)
              exact hl
          case measure => simp [intOf]; omega
        · have hd : decide (x.l.length ≤ 2147483647) = false := by simpa using hl
          rw [hd]
          clear hd
          go_wp2
          go_ret
          exact ⟨⟨false, rfl, fun h => by cases h⟩, hb3⟩
      · obtain rfl : k = n := by omega
        go_wp2
        go_ret
        refine ⟨⟨true, rfl, fun _ => ⟨hn, fun x hx => ?_⟩⟩, hb⟩
        obtain ⟨j, hj⟩ := List.getElem?_of_mem hx
        exact HK.out j (by have := (List.getElem?_eq_some_iff.1 hj).1; have := H.out.len; omega) x hj
  · go_enter Tryd.func5, Tryd.ntmps5
    go_wp2
    go_ret
    exact ⟨⟨false, rfl, fun h => by cases h⟩, Below.refl _ _⟩
end Go.Proofs.YtkbonmjbfpdchaaDoor.Node
