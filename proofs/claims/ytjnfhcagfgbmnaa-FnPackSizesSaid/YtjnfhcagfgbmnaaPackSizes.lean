/- PROVED: the Go law FnPackSizes returns true at every input that the row speaks of; no further condition. (Frame by the kit's proof-skeleton.mjs.) -/
import Derived.Test.YtjnfhcagfgbmnaaRows
import Derived.WalkKit
import Derived.ProofKit
import Derived.OpenShut
import Derived.ShutString
namespace Go.Proofs.Ytjnfhcagfgbmnaa.fnPackSizes
open Go.ChangeShapes Go.WideShapes Go.ChangeAt Go.RowKit
open Go.ChangeMaps (open_string shut_string)
set_option linter.unusedVariables false      -- a walk need not use every 'w<i>' (that an integer argument fits its kind)

theorem own : ownKnob Try.prog.godebug = none := by kernel_rfl

theorem or_all : ∀ a : Fin 9, ∀ b : Fin 9, bits BinOp.or IntKind.u8 ((a.val * 16 : Nat) : Int) (b.val : Nat) = ((a.val * 16 + b.val : Nat) : Int) := by decide
theorem or_pack (a b : Int) (ha : 0 ≤ a) (ha' : a ≤ 8) (hb : 0 ≤ b) (hb' : b ≤ 8) : bits BinOp.or IntKind.u8 (a * 16) b = a * 16 + b := by
  obtain ⟨m, rfl⟩ := Int.eq_ofNat_of_zero_le ha
  obtain ⟨n, rfl⟩ := Int.eq_ofNat_of_zero_le hb
  have := or_all ⟨m, by omega⟩ ⟨n, by omega⟩
  simpa using this
theorem enc (a b : Int) (ha : 0 ≤ a) (ha' : a ≤ 8) (hb : 0 ≤ b) (hb' : b ≤ 8) (w : World) :
    Calls Try.prog 45 #[.int .i64 a, .int .i64 b] w fun e w' => e = .returned (.int .u8 (a * 16 + b)) ∧ w = w' := by
  go_enter Try.func45, Try.ntmps45
  go_wp2
  go_ret
  exact ⟨by simp [or_pack a b ha ha' hb hb'], rfl⟩
theorem enc29 (a b : Int) (ha : 0 ≤ a) (ha' : a ≤ 8) (hb : 0 ≤ b) (hb' : b ≤ 8) (w : World) :
    Calls Try.prog 29 #[.int .i64 a, .int .i64 b] w fun e w' => e = .returned (.int .u8 (a * 16 + b)) ∧ w = w' := by
  go_enter Try.func29, Try.ntmps29
  go_wp2_with (go_at_call 45; refine (enc _ _ ha ha' hb hb' _).mono ?_; rintro e w' ⟨rfl, rfl⟩)
  go_ret
  exact ⟨by simp, rfl⟩
theorem dec (c : Int) (ha : 0 ≤ c) (ha' : c ≤ 255)  (w : World) :
    Calls Try.prog 46 #[.int .u8 c] w fun e w' => e = .returned (.tuple #[.int .i64 (c / 16), .int .i64 (c % 16)]) ∧ w = w' := by
  go_enter Try.func46, Try.ntmps46
  go_wp2
  go_ret2
  exact ⟨by simp, rfl⟩
theorem dec30 (c : Int) (ha : 0 ≤ c) (ha' : c ≤ 255)  (w : World) :
    Calls Try.prog 30 #[.int .u8 c] w fun e w' => e = .returned (.tuple #[.int .i64 (c / 16), .int .i64 (c % 16)]) ∧ w = w' := by
  go_enter Try.func30, Try.ntmps30
  go_wp2_with (go_at_call 46; refine (dec _ ha ha' _).mono ?_; rintro e w' ⟨rfl, rfl⟩)
  go_ret2
  exact ⟨by simp, rfl⟩
theorem packs (a b : Int) (ha : 0 ≤ a) (ha' : a ≤ 8) (hb : 0 ≤ b) (hb' : b ≤ 8) (w : World) :
    Calls Try.prog 17 #[.int .i64 a, .int .i64 b] w fun e w' => e = .returned (.tuple #[.int .u8 (a * 16 + b), .int .i64 a, .int .i64 b]) ∧ w = w' := by
  go_enter Try.func17, Try.ntmps17
  go_wp2_with fail
  refine (enc29 _ _ ha ha' hb hb' _).mono ?_
  rintro e w' ⟨rfl, rfl⟩
  go_wp2_with fail
  refine (dec30 _ (by omega) (by omega) _).mono ?_
  rintro e w' ⟨rfl, rfl⟩
  have e1 : (a * 16 + b) / 16 = a := by omega
  have e2 : (a * 16 + b) % 16 = b := by omega
  rw [e1, e2]
  clear e1 e2
  go_wp2_with fail
  go_ret3
  exact ⟨by simp, rfl⟩
theorem walk (a0 : Int) (a1 : Int) (w0 : (Lit.int .i64 a0).wf = true) (w1 : (Lit.int .i64 a1).wf = true) (w : World) :
    Calls Try.prog 7 #[.int .i64 a0, .int .i64 a1] w fun e w' => e = .returned (.bool true) ∧ Grown w w' := by
  have b0 := bounds_i64 w0
  have b1 := bounds_i64 w1
  by_cases h : a0 < 0
  · go_enter Try.func7, Try.ntmps7
    go_wp2
    go_ret
    exact ⟨by simp, by repeat (first | exact Grown.refl _ | apply Grown.drew | apply Grown.alloc)⟩
  · by_cases h2 : 8 < a0
    · go_enter Try.func7, Try.ntmps7
      go_wp2
      go_ret
      exact ⟨by simp, by repeat (first | exact Grown.refl _ | apply Grown.drew | apply Grown.alloc)⟩
    · by_cases h3 : a1 < 0
      · go_enter Try.func7, Try.ntmps7
        go_wp2
        go_ret
        exact ⟨by simp, by repeat (first | exact Grown.refl _ | apply Grown.drew | apply Grown.alloc)⟩
      · by_cases h4 : 8 < a1
        · go_enter Try.func7, Try.ntmps7
          go_wp2
          go_ret
          exact ⟨by simp, by repeat (first | exact Grown.refl _ | apply Grown.drew | apply Grown.alloc)⟩
        · by_cases h5 : a0 = 0
          · subst h5
            by_cases h6 : a1 = 0
            · subst h6
              go_enter Try.func7, Try.ntmps7
              go_wp2_with (go_at_call 17; refine (packs _ _ (by omega) (by omega) (by omega) (by omega) _).mono ?_; rintro e w' ⟨rfl, rfl⟩)
              go_ret
              exact ⟨by simp, by repeat (first | exact Grown.refl _ | apply Grown.drew | apply Grown.alloc)⟩
            · go_enter Try.func7, Try.ntmps7
              go_wp2_with (go_at_call 17; refine (packs _ _ (by omega) (by omega) (by omega) (by omega) _).mono ?_; rintro e w' ⟨rfl, rfl⟩)
              go_ret
              exact ⟨by simp, by repeat (first | exact Grown.refl _ | apply Grown.drew | apply Grown.alloc)⟩
          · go_enter Try.func7, Try.ntmps7
            go_wp2_with (go_at_call 17; refine (packs _ _ (by omega) (by omega) (by omega) (by omega) _).mono ?_; rintro e w' ⟨rfl, rfl⟩)
            go_ret
            exact ⟨by simp, by repeat (first | exact Grown.refl _ | apply Grown.drew | apply Grown.alloc)⟩

/-! ### THE ROW's STEP: WRITTEN OUT: LEAVE IT -/
set_option maxRecDepth 100000 in
theorem lifted (os : Os) (started : os.Started) (H : Type) (enc : TypeId × Value → H) :
    ReturnsInHanded {} Try.checked os 7 .any (Rows.fnPackSizesSpec.pre6 enc Try.prog Try.f7 Rows.fnPackSizesRow.domain false) (Rows.fnPackSizesSpec.post enc Try.prog Try.f7 false true false false) := by
  refine returnsInHanded_of_change (C := Try.checked) own started (by kernel_rfl) Try.func7
    (ChangeSpec.witness6 (enc := enc) (C := Try.checked) false ⟨#[], #[.int .i64 0, .int .i64 0], []⟩ 8 (by kernel_rfl) (by kernel_rfl) (by kernel_rfl) (by kernel_rfl)) ?_
  intro W base args ds gs before hval0 hW hcnd _
  have hval : ∀ (j : Nat) t v, Try.f7.params[j]? = some t → args[j]? = some v → Value.okWide Try.prog W .any base t v := hval0
  have hW' := hW
  obtain ⟨p, q, hA0, hV, rfl, hfz, hnd⟩ := hW
  have hA : DataW.TrodAll enc Try.prog W 0 (fun _ => true) true Try.f7.params.toList args.toList ds p := hA0
  rw [Try.params7] at hA hval
  obtain ⟨v0, vs0, d0, ds0, p0, q0, hargs, rfl, rfl, h0, r0⟩ := trodAll_cons hA
  obtain ⟨v1, vs1, d1, ds1, p1, q1, rfl, rfl, rfl, h1, r1⟩ := trodAll_cons r0
  obtain ⟨rfl, rfl, rfl⟩ := trodAll_nil r1
  obtain rfl : args = #[v0, v1] := by cases args; simp_all
  obtain ⟨rfl, rfl⟩ := trodVars_none hV
  obtain ⟨a0, rfl, rfl, rfl, w0⟩ := open_int Try.underlying3 (hval 0 3 v0 rfl rfl) h0
  obtain ⟨a1, rfl, rfl, rfl, w1⟩ := open_int Try.underlying3 (hval 1 3 v1 rfl rfl) h1
  clear hA0 hval0
  simp only [List.append_nil] at hW'
  refine (walk a0 a1 w0 w1 W).mono fun e W' ⟨he, hg⟩ => ?_
  subst he
  exact ⟨_, rfl, post_of_same (pa := []) (pv := []) hW' (fun _ _ _ => (trodAll_cons_mk (shut_bool Try.underlying4 _) trodAll_mk0)) (fun sp _ => (trodAll_cons_mk (shut_int Try.underlying3 w0) (trodAll_cons_mk (shut_int Try.underlying3 w1) trodAll_mk0))) (fun _ _ => rfl) rfl
    (hg.frame _) hg.2.1 (ok_one (by kernel_rfl) rfl (okWide_bool_mk Try.underlying4 _))⟩

theorem over : Rows.fnPackSizesRow.holds Try.pinned (OpenSpec.ofChange Rows.fnPackSizesSpec) :=
  OpenClaim.holds_of_wide 7 Try.f7 rfl rfl rfl rfl rfl rfl rfl ⟨rfl, rfl, rfl, rfl, rfl⟩ rfl rfl rfl rfl rfl (by kernel_rfl) Try.func7 (by kernel_rfl)
    (of_decide_eq_true (by kernel_rfl)) (by unfold Func.isWrapper; first | (rw [if_pos (by decide +kernel)]; kernel_rfl) | (rw [if_neg (by decide +kernel)]; exact ⟨rfl, rfl⟩))
    (fun os started H enc _ => lifted os started H enc)

/-- ████ THE STATEMENT ████ -/
theorem proved : Rows.FnPackSizesSaid :=
  over
#print axioms proved
end Go.Proofs.Ytjnfhcagfgbmnaa.fnPackSizes
