/- The reference's Covered over the sequences of NewSequences; the three laws. -/
import Derived.Test.YtanimdajohpggaaDoorSeq6
import Derived.Test.YtanimdajohpggaaDoorSeq7
namespace Go.Proofs.YtanimdajohpggaaDoor.Seq
open Go.ChangeShapes Go.WideShapes Go.ChangeAt Go.RowKit Go.Trav Go.Utf
set_option linter.unusedVariables false
set_option maxRecDepth 100000
def cnt (out : List (Int × Int)) (x : Int) (k : Nat) : Nat := ((out.take k).filter fun q => covB q x).length
theorem cnt_le (out : List (Int × Int)) (x : Int) (k : Nat) : cnt out x k ≤ k := by
  unfold cnt
  exact Nat.le_trans (List.length_filter_le _ _) (List.length_take_le _ _)
theorem cnt_succ (out : List (Int × Int)) (x : Int) (k : Nat) (q : Int × Int) (h : out[k]? = some q) : cnt out x (k + 1) = cnt out x k + if covB q x then 1 else 0 := by
  unfold cnt
  rw [take_snoc' _ _ _ h, List.filter_append, List.length_append]
  congr 1
  simp only [List.filter_cons, List.filter_nil]
  split <;> simp
theorem covered_any (base : Nat) (v1 v2 : Value) (out : List (Int × Int)) (ws : List Value) (x : Int) (w : World) (hr : Reads w v1 out.length 1 ws) (ho : Owns base w ws out) (hg : ∀ q ∈ out, Utf.Good q.1 q.2) (hb : Reads w v2 (wid x) 1 ((ubytes x).map bV)) :
    Calls Tryd.prog 19 #[v1, v2] w fun e w' => e = .returned (.int .i64 (cnt out x out.length)) ∧ ∃ k, w' = w.drewN k := by
  obtain ⟨ao, cap, rfl⟩ := hr.form
  have hbd := hr.bound
  have HR := Lib.hid hr
  have HO := Lib.hid ho
  have HG := Lib.hid hg
  have HB := Lib.hid hb
  clear hr ho hg hb
  go_enter Tryd.func19, Tryd.ntmps19
  go_wp2_with fail
  go_loopw [5, 6] (fun n i wr => ∃ k : Nat, k ≤ out.length ∧ i = .int .i64 k ∧ n = .int .i64 (cnt out x k) ∧ (∃ q, wr = w.drewN q)) (fun _ i _ => out.length - (intOf i).toNat)
  case atStart => exact ⟨0, Nat.zero_le _, rfl, rfl, ⟨0, rfl⟩⟩
  case round =>
    obtain ⟨k, hk, rfl, rfl, ⟨nq, rfl⟩⟩ := hrel
    have hcl := cnt_le out x k
    by_cases hlt : k < out.length
    · obtain ⟨b, off, _, sv, hx, hv, hc⟩ := Reads.one id (l := ws) (by simpa using HR.out.drewN nq) hlt
      cases hx
      have hq : out[k]? = some out[k] := List.getElem?_eq_getElem hlt
      generalize out[k] = q at hq
      have hrd := reads_of_owns (HO.out k sv q hv hq)
      have hgood := HG.out q (List.mem_of_getElem? hq)
      have HC := Lib.hid (cnt_succ out x k q hq)
      have HRD := Lib.hid (hrd.drewN nq)
      have HBD := Lib.hid (HB.out.drewN nq)
      simp only [id] at hc
      clear hrd hv hq
      cases hcv : covB q x with
      | true =>
        have HV := Lib.hid hcv
        clear hcv
        go_wp2_with fail
        refine (covers_q _ _ q x true _ HV.out hgood HRD.out HBD.out).mono ?_
        rintro e w2 ⟨rfl, kk, rfl⟩
        go_wp2_with fail
        go_roundw
        case rel => exact ⟨k + 1, by omega, by go_num, by rw [HC.out, HV.out]; go_num, ⟨_, rfl⟩⟩
        case measure => simp [intOf]; omega
      | false =>
        have HV := Lib.hid hcv
        clear hcv
        go_wp2_with fail
        refine (covers_q _ _ q x false _ HV.out hgood HRD.out HBD.out).mono ?_
        rintro e w2 ⟨rfl, kk, rfl⟩
        go_wp2_with fail
        go_roundw
        case rel => exact ⟨k + 1, by omega, by go_num, by rw [HC.out, HV.out]; go_num, ⟨_, rfl⟩⟩
        case measure => simp [intOf]; omega
    · obtain rfl : k = out.length := by omega
      go_wp2_with fail
      go_ret
      exact ⟨rfl, _, rfl⟩
end Go.Proofs.YtanimdajohpggaaDoor.Seq
