/- vellum.AutomatonContains over any automaton whose methods' contracts are given. -/
import Derived.Test.YtanimdajohpggaaPath
namespace Go.Proofs.Ytanimdajohpggaa.Path
open Go.ChangeShapes Go.WideShapes Go.ChangeAt Go.RowKit Go.Trav
set_option linter.unusedVariables false
set_option maxRecDepth 100000
/-- What is answered of the bytes that are left. -/
def cont (mt cn : Int → Bool) (ac : Int → Int → Int) : Int → List Int → Bool
  | st, [] => mt st
  | st, b :: r => if cn st then cont mt cn ac (ac st b) r else false
set_option maxHeartbeats 4000000 in
theorem contains_any {T : TypeId} {v rv : Value} {ok : Int → Prop} {start : Int} {mt cn al : Int → Bool} {ac : Int → Int → Int} (w : World) (X : Aut T v rv ok start mt cn al ac w) (h1 : ∀ s, ok s → s ≠ 1) (kv : Value) (m : Nat) (l : List Int) (hr : Reads w kv m 1 (l.map fun b => .int .u8 b)) (hb : ∀ b ∈ l, 0 ≤ b ∧ b ≤ 255) (hm : m ≤ 2147483647) :
    Calls Try.prog 36 #[.iface T v, kv] w fun e w' => e = .returned (.bool (cont mt cn ac start l)) ∧ Below w.heap.size w w' := by
  have hl : l.length = m := by have := hr.len; simpa using this
  obtain ⟨ko, kc, rfl⟩ := hr.form
  have h0 := X.mS
  have h2 := X.mI
  have h3 := X.mC
  have h5 := X.mA
  have h6 := X.nA
  have h7 := X.eS
  have h8 := X.eI
  have h9 := X.eC
  have h11 := X.eA
  have HR := Lib.hid hr
  have HL := Lib.hid hl
  clear hr hl
  go_enter Try.func36, Try.ntmps36
  go_wp2_with fail
  refine (X.cS _ (Below.refl _ _)).mono ?_
  rintro e w1 ⟨rfl, hb1⟩
  go_wp2_with fail
  go_loopw [5, 6] (fun iv sv wr => ∃ (k : Nat) (st : Int), iv = .int .i64 k ∧ sv = .int .i64 st ∧ k ≤ m ∧ Hid (ok st) ∧ Hid (cont mt cn ac st (l.drop k) = cont mt cn ac start l) ∧ Hid (Below w.heap.size w wr)) (fun iv _ _ => m - (intOf iv).toNat)
  case atStart => exact ⟨0, start, rfl, rfl, Nat.zero_le _, Lib.hid X.ok0, Lib.hid (by rw [List.drop_zero]), Lib.hid hb1⟩
  case round =>
    obtain ⟨k, st, rfl, rfl, hk, HO, HC, HW⟩ := hrel
    rename World => wr
    go_wp2_with fail
    refine (X.cC _ _ HW.out HO.out).mono ?_
    rintro e w2 ⟨rfl, hb2⟩
    have HW2 := Lib.hid (HW.out.trans (hb2.mono HW.out.size))
    clear hb2
    have hs2 := HW2.out.size
    by_cases hlt : k < m
    · obtain ⟨bk, ofk, _, b, hx, eb, cb⟩ := Reads.one (fun b => Value.int .u8 b) (HR.out.below HW2.out) hlt
      cases hx
      have hbb := hb b (List.mem_of_getElem? eb)
      have hd : l.drop k = b :: l.drop (k + 1) := by
        have hlk : k < l.length := by rw [HL.out]; exact hlt
        rw [List.drop_eq_getElem_cons hlk]
        rw [List.getElem?_eq_getElem hlk] at eb
        rw [Option.some.inj eb]
      have hcc := HC.out
      rw [hd, cont] at hcc
      have HCC := Lib.hid hcc
      have hI1 : (0 : Int) ≤ (k : Int) := by omega
      have hI2 : (k : Int) < (m : Int) := by omega
      clear hd hcc eb
      cases hcn : cn st with
      | false =>
        have HCN := Lib.hid hcn
        have hne : ((k : Int) == (m : Int)) = false := beq_eq_false_iff_ne.2 (by omega)
        clear hcn
        go_wp2_with fail
        go_ret
        exact ⟨by have := HCC.out; rw [HCN.out] at this; rw [← this]; rfl, HW2.out⟩
      | true =>
        have HCN := Lib.hid hcn
        clear hcn
        have hokA := X.okA st b HO.out hbb.1 hbb.2
        have hn1 : ((ac st b) == 1) = false := beq_eq_false_iff_ne.2 (h1 _ hokA)
        have HOA := Lib.hid hokA
        have cb' := cell_regrown cb
        clear hokA
        go_wp2_with fail
        refine wp_region_quiet_below (by kernel_rfl) (by kernel_rfl) ?_
        repeat (first | go_big_quiet_step ((exact Calls.regrown_of (X.cA _ _ _ (HW2.out.trans ((below_regrown _ _ _).mono hs2)) HO.out hbb.1 hbb.2))) | quiet_step ((exact Calls.regrown_of (X.cA _ _ _ (HW2.out.trans ((below_regrown _ _ _).mono hs2)) HO.out hbb.1 hbb.2))))
        refine wpQuiet_nil ?_
        intro _ hw'
        obtain ⟨⟨dq, osq⟩, hw''⟩ := hw'
        subst hw''
        have HW3 := Lib.hid (HW2.out.trans ((below_regrown w2 dq osq).mono hs2))
        go_wp2_with fail
        first
          | (go_roundw
             case rel => exact ⟨k + 1, _, by go_num, rfl, by omega, HOA, Lib.hid (by have := HCC.out; rw [HCN.out] at this; exact this), HW3⟩
             case measure => simp [intOf]; omega)
          | (refine ⟨⟨k + 1, _, by go_num, rfl, by omega, HOA, Lib.hid (by have := HCC.out; rw [HCN.out] at this; exact this), HW3⟩, ?_⟩
             simp [intOf]
             omega)
    · obtain rfl : k = m := by omega
      have hcc := HC.out
      rw [List.drop_eq_nil_of_le (by rw [HL.out]; exact Nat.le_refl _), cont] at hcc
      have HCC := Lib.hid hcc
      clear hcc
      have hq1 : ((k : Int) == (k : Int)) = true := by simp
      cases hcn : cn st
      all_goals
        have HCN := Lib.hid hcn
        clear hcn
        go_wp2_with fail
        refine (X.cI _ _ HW2.out HO.out).mono ?_
        rintro e w3 ⟨rfl, hb3⟩
        have HW3 := Lib.hid (HW2.out.trans (hb3.mono hs2))
        clear hb3
        go_wp2_with fail
        go_ret
        exact ⟨by rw [HCC.out]; rfl, HW3.out⟩
end Go.Proofs.Ytanimdajohpggaa.Path
