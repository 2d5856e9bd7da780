/- Places: told, numbers. -/
import Derived.Test.YtpkkagiplockiaaPlc7
import Derived.Test.YtpkkagiplockiaaApp
namespace Go.Proofs.Ytpkkagiplockiaa.Ed
open Go.ChangeShapes Go.WideShapes Go.ChangeAt Go.RowKit Go.Trav Go.Nor
set_option linter.unusedVariables false
set_option linter.unusedSimpArgs false
set_option maxRecDepth 100000
/-- A letter's number. -/
def Let (x : Int) : Prop := 0 ≤ x ∧ x ≤ 1114111 ∧ (x < 55296 ∨ 57343 < x)
instance (x : Int) : Decidable (Let x) := by unfold Let; infer_instance
theorem isl_yes (x : Int) (w : World) (h : Let x) : Calls Try.prog 19 #[.int .i64 x] w fun e w' => e = .returned (.bool true) ∧ w = w' := by
  unfold Let at h
  obtain ⟨h1, h2, h3⟩ := h
  by_cases h4 : x < 55296
  · clear h3
    go_enter Try.func19, Try.ntmps19
    go_wp2_with fail
    go_ret
    exact ⟨rfl, rfl⟩
  · have h5 : 57343 < x := by omega
    clear h3
    go_enter Try.func19, Try.ntmps19
    go_wp2_with fail
    go_ret
    exact ⟨rfl, rfl⟩
theorem isl_no (x : Int) (w : World) (h : ¬ Let x) : Calls Try.prog 19 #[.int .i64 x] w fun e w' => e = .returned (.bool false) ∧ w = w' := by
  unfold Let at h
  by_cases h1 : 0 ≤ x
  · by_cases h2 : x ≤ 1114111
    · have h3 : ¬ x < 55296 := by omega
      have h4 : ¬ 57343 < x := by omega
      clear h
      go_enter Try.func19, Try.ntmps19
      go_wp2_with fail
      go_ret
      exact ⟨rfl, rfl⟩
    · clear h
      go_enter Try.func19, Try.ntmps19
      go_wp2_with fail
      go_ret
      exact ⟨rfl, rfl⟩
  · clear h
    go_enter Try.func19, Try.ntmps19
    go_wp2_with fail
    go_ret
    exact ⟨rfl, rfl⟩
theorem told_any (m d : Nat) (w : World) (hm : m ≤ 8) (hd : d ≤ 1000) :
    Calls Try.prog 13 #[.int .u8 (min d (m + 1) : Nat), .int .u8 m, .int .i64 d] w fun e w' => e = .returned (.bool true) ∧ w' = w := by
  by_cases h : d ≤ m + 1
  · rw [Nat.min_eq_left h]
    have h1 : (d : Int) ≤ (m : Int) + 1 := by omega
    have h2 : ¬ (m : Int) + 1 < (d : Int) := by omega
    go_enter Try.func13, Try.ntmps13
    go_wp2_with fail
    go_ret
    exact ⟨by simp, rfl⟩
  · rw [Nat.min_eq_right (by omega)]
    have h1 : ¬ (d : Int) ≤ (m : Int) + 1 := by omega
    have h2 : (m : Int) + 1 < (d : Int) := by omega
    have h3 : ¬ (d : Int) < (m : Int) + 1 := by omega
    go_enter Try.func13, Try.ntmps13
    go_wp2_with fail
    go_ret
    exact ⟨by simp, rfl⟩
theorem reads1 (w : World) (a : Int) : Reads (w.alloc (.cells #[.int .i64 a] 3)) (.slice (some ⟨w.heap.size, 0, none⟩) 1 1) 1 1 [.int .i64 a] := by
  refine ⟨_, 1, rfl, Nat.le_refl _, by unfold maxLen; omega, fun h => (by cases h), rfl, fun _ => ⟨_, _, rfl, fun j u hj => ?_⟩⟩
  match j with
  | 0 => simp at hj; subst hj; exact block_cell (heap_alloc_new w _) rfl
  | j + 1 => simp at hj
/-- What numbers answers: the letters, where all are letters and no more than 40. -/
def IsNums (n : Nat) (l : List Int) (w' : World) (e : Ending) : Prop :=
  (n ≤ 40 ∧ (∀ x ∈ l, Let x) ∧ ∃ v', e = .returned (.tuple #[v', .bool true]) ∧ Reads w' v' n 1 (l.map (Value.int .i64))) ∨ e = .returned (.tuple #[.slice none 0 0, .bool false])
set_option maxHeartbeats 4000000 in
theorem nums_any (v : Value) (n : Nat) (l : List Int) (w : World) (h : Reads w v n 1 (l.map (Value.int .i32))) (hb : ∀ x ∈ l, -2147483648 ≤ x ∧ x ≤ 2147483647) :
    Calls Try.prog 9 #[v, .int .i64 40] w fun e w' => IsNums n l w' e ∧ Below w.heap.size w w' := by
  obtain ⟨ao, cap, rfl⟩ := h.form
  have hl : l.length = n := by have := h.len; simpa using this
  have HR := Lib.hid h
  have HN := Lib.hid hl
  have HBD := Lib.hid hb
  clear h hl hb
  by_cases h40 : 40 < n
  · have t1 : (40 : Int) < (n : Int) := by omega
    go_enter Try.func9, Try.ntmps9
    go_wp2_with fail
    go_ret2
    exact ⟨Or.inr rfl, Below.refl _ _⟩
  · have t1 : ¬ (40 : Int) < (n : Int) := by omega
    go_enter Try.func9, Try.ntmps9
    go_wp2_with fail
    go_loopw [6, 7] (fun ov iv wr => ∃ k : Nat, iv = .int .i64 k ∧ k ≤ n ∧ Hid (Below w.heap.size w wr) ∧ Hid (wr.ownsRow w.heap.size 3 1 ov k ((l.take k).map (Value.int .i64))) ∧ Hid (∀ x ∈ l.take k, Let x)) (fun _ iv _ => n - (intOf iv).toNat)
    case atStart => exact ⟨0, rfl, Nat.zero_le _, Lib.hid (Below.refl _ _), Lib.hid (World.ownsRow_nil _ _ _ _), Lib.hid (fun x hx => by simp at hx)⟩
    case round =>
      obtain ⟨k, rfl, hk, HB, HO, HL⟩ := hrel
      rename World => wr
      obtain ⟨ov, oc, rfl⟩ := ownsRow_form HO.out
      by_cases hkn : k < n
      · obtain ⟨b, off, cap', x, e, hx, c0⟩ := Reads.one (Value.int .i32) (HR.out.below HB.out) hkn
        simp only [Value.slice.injEq] at e
        obtain ⟨rfl, -, rfl⟩ := e
        obtain ⟨hx1, hx2⟩ := HBD.out x (List.mem_of_getElem? hx)
        have HX := Lib.hid hx
        clear hx
        by_cases hlet : Let x
        · have HI := Lib.hid (isl_yes x wr hlet)
          have HLE := Lib.hid hlet
          clear hlet
          go_wp2_with fail
          refine HI.out.mono ?_
          rintro e w2 ⟨rfl, rfl⟩
          go_wp2_with (first
            | (at_builtin; (refine wpList_append_reads rfl (.tmp 25) (.tmp 31) 32 rfl w.heap.size 3 (.int .i64 0) 1 8 Try.underlying32 Try.info3 rfl (by decide) (by decide) (.slice ov k oc) k ((l.take k).map (Value.int .i64)) rfl (HO.out.alloc _) (.slice (some ⟨wr.heap.size, 0, none⟩) 1 1) 1 [.int .i64 x] rfl (reads1 wr x) (by simp [Value.oneCell']) (by omega) (by simp; have := HB.out.size; omega) ?_; intro ao6 cap6 w6 hown6 hgr6 hat6; have HX6 := Lib.hid (And.intro hown6 (And.intro hgr6 hat6)); clear hown6 hgr6 hat6))
            | fail)
          go_roundw
          case rel =>
            obtain ⟨x1, x2, x3⟩ := HX6.out
            refine ⟨k + 1, by go_num, by omega, Lib.hid (below_own HB.out HO.out (.cells #[.int .i64 x] 3) x2 HB.out.size), Lib.hid ?_, Lib.hid fun y hy => ?_⟩
            · rw [take_snoc' l k x HX.out, List.map_append]; exact x1
            · rw [take_snoc' l k x HX.out] at hy
              rcases List.mem_append.mp hy with g | g
              · exact HL.out y g
              · rw [List.mem_singleton.mp g]; exact HLE.out
          case measure => simp [intOf] <;> omega
        · have HI := Lib.hid (isl_no x wr hlet)
          clear hlet
          go_wp2_with fail
          refine HI.out.mono ?_
          rintro e w2 ⟨rfl, rfl⟩
          go_wp2_with fail
          go_ret2
          exact ⟨Or.inr rfl, HB.out⟩
      · obtain rfl : k = n := by omega
        have eS : l.take k = l := List.take_of_length_le (by have := HN.out; omega)
        go_wp2_with fail
        go_ret2
        refine ⟨Or.inl ⟨by omega, ?_, _, rfl, ?_⟩, HB.out⟩
        · have := HL.out; rwa [eS] at this
        · have := reads_of_owns HO.out; rwa [eS] at this
end Go.Proofs.Ytpkkagiplockiaa.Ed
