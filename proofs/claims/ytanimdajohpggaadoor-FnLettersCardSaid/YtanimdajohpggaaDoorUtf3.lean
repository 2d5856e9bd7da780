/- laws.count. -/
import Derived.Test.YtanimdajohpggaaDoorUtf2
namespace Go.Proofs.YtanimdajohpggaaDoor.Utf0
open Go.ChangeShapes Go.WideShapes Go.ChangeAt Go.RowKit Go.Trav Go.Utf
set_option linter.unusedVariables false
set_option maxRecDepth 100000
def rV (x : Int) : Value := .int .i32 x
/-- How often r is among the letters. -/
def cnt (l : List Int) (r : Int) : Nat := l.countP fun x => x == r
theorem cnt_snoc {l : List Int} {k : Nat} {x r : Int} (h : l[k]? = some x) : cnt (l.take (k + 1)) r = cnt (l.take k) r + if x == r then 1 else 0 := by
  unfold cnt
  rw [take_snoc' _ _ _ h, List.countP_append, List.countP_singleton]
theorem count_any (v : Value) (n : Nat) (l : List Int) (r : Int) (w : World) (h : Reads w v n 1 (l.map rV)) (hn : n ≤ 1000000) :
    Calls Tryd.prog 31 #[v, .int .i32 r] w fun e w' => e = .returned (.int .i64 (cnt l r : Nat)) ∧ w = w' := by
  have hl : l.length = n := by have := h.len; simpa using this
  obtain ⟨ao, cap, rfl⟩ := h.form
  have H := Lib.hid h
  have HL := Lib.hid hl
  clear h hl
  go_enter Tryd.func31, Tryd.ntmps31
  go_wp2_with fail
  go_loopw [5, 6] (fun cv iv wr => ∃ i c : Nat, iv = .int .i64 i ∧ cv = .int .i64 c ∧ i ≤ n ∧ c ≤ i ∧ w = wr ∧ Hid (c = cnt (l.take i) r)) (fun _ iv _ => n - (intOf iv).toNat)
  case atStart => exact ⟨0, 0, rfl, rfl, by omega, by omega, rfl, Lib.hid (by simp [cnt])⟩
  case round =>
    obtain ⟨i, c, rfl, rfl, hi, hc, rfl, HC⟩ := hrel
    by_cases hlt : i < n
    · obtain ⟨b, off, _, x, hx, ex, cx⟩ := Reads.one rV H.out hlt
      cases hx
      unfold rV at cx
      have hs := cnt_snoc (r := r) ex
      have HS := Lib.hid hs
      clear hs ex
      by_cases hq : x = r
      · have hb : (x == r) = true := by simpa using hq
        have HS2 : Hid (cnt (l.take (i + 1)) r = c + 1) := Lib.hid (by rw [HS.out, hb, HC.out]; rfl)
        clear hq
        go_wp2_with fail
        go_roundw
        case rel => exact ⟨i + 1, c + 1, by go_num, by go_num, by omega, by omega, by first | rfl | trivial, Lib.hid HS2.out.symm⟩
        case measure => simp [intOf]; omega
      · have hb : (x == r) = false := by simpa using hq
        have HS2 : Hid (cnt (l.take (i + 1)) r = c) := Lib.hid (by rw [HS.out, hb, HC.out]; rfl)
        clear hq
        go_wp2_with fail
        go_roundw
        case rel => exact ⟨i + 1, c, by go_num, by first | rfl | trivial, by omega, by omega, by first | rfl | trivial, Lib.hid HS2.out.symm⟩
        case measure => simp [intOf]; omega
    · obtain rfl : i = n := by omega
      have HC2 : Hid (cnt l r = c) := Lib.hid (by rw [HC.out, List.take_of_length_le (by rw [HL.out]; omega)])
      go_wp2_with fail
      go_ret
      exact ⟨by rw [HC2.out]; rfl, rfl⟩
end Go.Proofs.YtanimdajohpggaaDoor.Utf0
