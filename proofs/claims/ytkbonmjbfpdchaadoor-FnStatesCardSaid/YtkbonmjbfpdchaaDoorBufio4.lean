/- bufio.Writer: Write where the buffer fills. -/
import Derived.Test.YtkbonmjbfpdchaaDoorBufio3
import Derived.Laws.CopyOwn
namespace Go.Proofs.YtkbonmjbfpdchaaDoor.Buf
open Go.ChangeShapes Go.WideShapes Go.ChangeAt Go.RowKit Go.Trav
set_option linter.unusedVariables false
set_option maxRecDepth 100000
/-- What stands behind one round. -/
def Half (w wr : World) (i : Ids) (bs : List Nat) (v1 : Value) : Prop := At wr { i with v := v1 } bs [] ∧ Mod i.F w wr ∧ (v1.ownBlock = i.v.ownBlock ∨ ∃ g, v1.ownBlock = some g ∧ w.heap.size ≤ g)
set_option maxHeartbeats 1000000 in
theorem write_over (i : Ids) (done pend l : List Nat) (ab ao n c r : Nat) (w : World) (h : At w i done pend) (hn : l.length = n) (hr : 4096 - pend.length = r) (hr1 : 1 ≤ r) (hrn : r < n) (hn4 : n ≤ 4096) (hnc : n ≤ c) (hdl : done.length + 4096 ≤ 4294967296)
    (hsrc : ∀ j x, (l.map bN)[j]? = some x → w.cell? ⟨ab, ao + j, none⟩ = some x) (hF : ¬ i.F ab) :
    Calls Tryd.prog 82 #[.pointer (some ⟨i.q, 0, none⟩), .slice (some ⟨ab, ao, none⟩) n c] w fun e w' => e = .returned (.tuple #[.int .i64 n, .nilIface]) ∧ Goes w w' i (done ++ pend ++ l.take r) (l.drop r) := by
  have hle := h.le
  have hz : decide ((4096 : Int) - pend.length < n) = true := by simp; omega
  have hab : ab < w.heap.size := by
    have hj : (l.map bN)[0]? = some ((l.map bN)[0]'(by simp; omega)) := List.getElem?_eq_getElem _
    exact World.block_lt_of_cell? w _ (hsrc 0 _ hj)
  obtain ⟨arr, hf, hfs, hft⟩ := h.fb
  have HS := Lib.hid hsrc
  have HH := Lib.hid h
  have HFF := Lib.hid hf
  have HFS := Lib.hid hfs
  have HFT := Lib.hid hft
  have HN := Lib.hid hn
  have HDL := Lib.hid hdl
  have HAB := Lib.hid hab
  generalize hp : pend.length = k at *
  have HP := Lib.hid hp
  have HR := Lib.hid hr
  have hk1 : 1 ≤ k := by omega
  have hk4 : k < 4096 := by omega
  have hkr : k + r = 4096 := by omega
  have HKR := Lib.hid hkr
  clear h hsrc hf hfs hft hp hn hdl hab hkr
  have HC := Lib.hid (show w.cell? ⟨i.q, 2, none⟩ = some (.int .i64 k) by have := block_cell (i := 2) HH.out.bw rfl; rw [HP.out] at this; exact this)
  have hk0 : ((k : Int) == 0) = false := beq_eq_false_iff_ne.2 (by omega)
  have hI1 : (0 : Int) ≤ (k : Int) := by omega
  have hI2 : (k : Int) ≤ 4096 := by omega
  have hI3 : (0 : Int) ≤ (r : Int) := by omega
  have hI4 : (r : Int) ≤ n := by omega
  have hne : ¬ 4096 = k := by omega
  have hne2 : ¬ c = r := by omega
  clear hr
  go_enter Tryd.func82, Tryd.ntmps82
  go_wp2_with fail
  go_loopw [1, 4] (fun p nn wr => (p = .slice (some ⟨ab, ao, none⟩) n c ∧ nn = .int .i64 0 ∧ w = wr) ∨ (∃ v1, p = .slice (some ⟨ab, ao + r, none⟩) (n - r) (c - r) ∧ nn = .int .i64 r ∧ Hid (Half w wr i (done ++ pend ++ l.take r) v1))) (fun _ _ wr => match wr.cell? ⟨i.q, 2, none⟩ with | some (.int _ x) => x.toNat | _ => 0)
  case atStart => exact Or.inl ⟨rfl, rfl, rfl⟩
  case round =>
    rcases hrel with ⟨rfl, rfl, rfl⟩ | ⟨v1, rfl, rfl, HA⟩
    · go_wp2_with fail
      refine (avail_any i.q i.f k _ _ _ (by have := HH.out.bw; rw [HP.out] at this; exact this) hle).mono ?_
      rintro e w1 ⟨rfl, q, hw1⟩
      have hh : w1.heap = w.heap := by rw [hw1]; rfl
      have hm1 : Mod i.F w w1 := by rw [hw1]; exact (Mod.refl _ _).drewN q
      have c0' : w1.cell? ⟨i.q, 0, none⟩ = some .nilIface := block_cell (HH.out.same hh).bw rfl
      have c1' : w1.cell? ⟨i.q, 1, none⟩ = some (.slice (some ⟨i.f, 0, none⟩) 4096 4096) := block_cell (HH.out.same hh).bw rfl
      have c2' := cell_same HC.out hh
      have HH1 := Lib.hid hh
      clear hw1 hh
      go_wp2_with fail
      refine (buffered_any i.q k _ _ _ _ (by have := (HH.out.same HH1.out).bw; rw [HP.out] at this; exact this)).mono ?_
      rintro e w1' ⟨rfl, rfl⟩
      have hA1 : At w1.drew i done pend := HH.out.same HH1.out
      have htl : (l.take r).length = r := by rw [List.length_take, HN.out]; omega
      have hcp := pour_run w1.drew i.f k (4096 - k) 0 c ⟨ab, ao, none⟩ (l.take r) n arr (by rw [show w1.drew.heap = w.heap from HH1.out]; exact HFF.out) HFS.out rfl hle (by rw [htl]; have := HR.out; omega) (fun j x hj => by
        rw [addr_add]
        refine cell_same (HS.out j x ?_) HH1.out
        rw [List.map_take, List.getElem?_take] at hj
        split at hj
        · exact hj
        · cases hj)
      rw [htl, HR.out] at hcp
      have hput := hA1.pour (l := l.take r) (arr := arr) (by rw [show w1.drew.heap = w.heap from HH1.out]; exact HFF.out) HFS.out (by rw [HP.out]; exact HFT.out) (by rw [HP.out, htl]; have := HKR.out; omega)
      rw [HP.out, htl, Int.natCast_add] at hput
      have hqb : (w1.drew.setRow i.f (poured arr k (l.take r))).heap[i.q]? = some (.cells #[.nilIface, .slice (some ⟨i.f, 0, none⟩) 4096 4096, .int .i64 k, .iface 100 (.pointer (some ⟨i.b, 0, none⟩))] 190 (0, 0)) := by
        rw [setRow_other _ _ _ _ HH.out.ne.1]; have := hA1.bw; rw [HP.out] at this; exact this
      have d2 : (w1.drew.setRow i.f (poured arr k (l.take r))).cell? ⟨i.q, 2, none⟩ = some (.int .i64 k) := block_cell hqb rfl
      have d3 : (w1.drew.setRow i.f (poured arr k (l.take r))).frozen? ⟨i.q, 2, none⟩ = false := block_free hqb
      have HPUT := Lib.hid hput
      have hr : 4096 - k = r := HR.out
      clear hA1 hput hqb htl
      go_wp2_with fail
      go_still_tail 10, (by kernel_rfl)
      change wpList _ _ _ _ _ w1.drew
      go_wp2_with fail
      refine (flush_any i done (pend ++ l.take r) _ HPUT.out.1 (by have := HDL.out; omega)).mono ?_
      rintro e w2 ⟨rfl, v2, hA2, hm2, hv2⟩
      have HA2 := Lib.hid hA2
      have HV2 := Lib.hid hv2
      clear hA2 hv2
      go_wp2_with fail
      go_roundw
      case rel =>
        have hs1 := hm1.size
        refine Or.inr ⟨v2, by simp, by simp, ?_⟩
        have hm12 : Mod i.F w ((w1.drew.setRow i.f (poured arr k (l.take r))).setCell ⟨i.q, 2, none⟩ (.int .i64 (↑k + ↑r))) := hm1.trans ((mod_of_heap rfl rfl rfl rfl : Mod i.F w1 w1.drew).trans HPUT.out.2)
        refine Lib.hid ⟨by rw [List.append_assoc]; exact HA2.out, hm12.trans hm2, ?_⟩
        rcases HV2.out with h | ⟨g, h, h'⟩
        · exact Or.inl h
        · exact Or.inr ⟨g, h, Nat.le_trans hm12.size h'⟩
      case measure =>
        have e2 : w2.cell? ⟨i.q, 2, none⟩ = some (.int .i64 0) := block_cell HA2.out.bw rfl
        rw [e2, HC.out]
        simp
        omega
    · have hA := HA.out.1
      have hmA := HA.out.2.1
      have HV1 := Lib.hid HA.out.2.2
      obtain ⟨arr2, hf2, hfs2, hft2⟩ := hA.fb
      have hnr : n - r ≤ 4096 := by omega
      have hzz : decide ((4096 : Int) < (n - r : Nat)) = false := by simp; omega
      have e0 : wr.cell? ⟨i.q, 0, none⟩ = some .nilIface := block_cell hA.bw rfl
      have e1 : wr.cell? ⟨i.q, 1, none⟩ = some (.slice (some ⟨i.f, 0, none⟩) 4096 4096) := block_cell hA.bw rfl
      have e2 : wr.cell? ⟨i.q, 2, none⟩ = some (.int .i64 0) := block_cell hA.bw rfl
      have hnew : ¬ ({ i with v := v1 } : Ids).F ab := fun h => hF (F_step (w1 := w) HV1.out ab HAB.out h)
      have HAA := Lib.hid hA
      have HF2 := Lib.hid hf2
      clear hA hf2
      go_wp2_with fail
      refine (avail_any i.q i.f 0 _ _ _ HAA.out.bw (by omega)).mono ?_
      rintro e w1 ⟨rfl, q, hw1⟩
      have hh : w1.heap = wr.heap := by rw [hw1]; rfl
      have hm1 : Mod ({ i with v := v1 } : Ids).F wr w1 := by rw [hw1]; exact (Mod.refl _ _).drewN q
      have e0' := cell_same e0 hh
      have e1' := cell_same e1 hh
      have e2' := cell_same e2 hh
      have hA1 : At w1.drew { i with v := v1 } (done ++ pend ++ l.take r) [] := HAA.out.same hh
      have hdl2 : (l.drop r).length = n - r := by rw [List.length_drop, HN.out]
      have hcp := pour_run w1.drew i.f 0 4096 0 (c - r) ⟨ab, ao + r, none⟩ (l.drop r) (n - r) arr2 (by rw [show w1.drew.heap = wr.heap from hh]; exact HF2.out) hfs2 rfl (by omega) (by rw [hdl2]; omega) (fun j x hj => by
        rw [addr_add, Nat.add_assoc]
        refine cell_same (hmA.cell (HS.out (r + j) x ?_) hF) hh
        rw [List.map_drop, List.getElem?_drop] at hj
        exact hj)
      rw [hdl2] at hcp
      have hput := hA1.pour (l := l.drop r) (arr := arr2) (by rw [show w1.drew.heap = wr.heap from hh]; exact HF2.out) hfs2 (by simp) (by rw [hdl2]; simp; omega)
      rw [hdl2, List.length_nil, Int.natCast_add] at hput
      have hqb : (w1.drew.setRow i.f (poured arr2 0 (l.drop r))).heap[i.q]? = some (.cells #[.nilIface, .slice (some ⟨i.f, 0, none⟩) 4096 4096, .int .i64 0, .iface 100 (.pointer (some ⟨i.b, 0, none⟩))] 190 (0, 0)) := by
        rw [setRow_other _ _ _ _ HH.out.ne.1]; exact hA1.bw
      have d2 : (w1.drew.setRow i.f (poured arr2 0 (l.drop r))).cell? ⟨i.q, 2, none⟩ = some (.int .i64 0) := block_cell hqb rfl
      have d3 : (w1.drew.setRow i.f (poured arr2 0 (l.drop r))).frozen? ⟨i.q, 2, none⟩ = false := block_free hqb
      have HPUT := Lib.hid hput
      clear hw1 hh hA1 hput hqb hdl2 hfs2 hft2
      go_wp2_with fail
      go_still_tail 10, (by kernel_rfl)
      change wpList _ _ _ _ _ w1.drew
      go_wp2_with fail
      have en : (r : Int) + (n - r : Nat) = n := by omega
      have EN := Lib.hid en
      clear en
      go_ret2
      obtain ⟨hp1, hp2⟩ := HPUT.out
      simp only [Int.natCast_zero, Int.zero_add, List.nil_append] at hp1 hp2
      refine ⟨by rw [← EN.out]; rfl, v1, hp1, ?_, HV1.out⟩
      exact hmA.step (hm1.trans ((mod_of_heap rfl rfl rfl rfl : Mod ({ i with v := v1 } : Ids).F w1 w1.drew).trans hp2)) (F_step (w1 := w) HV1.out)
end Go.Proofs.YtkbonmjbfpdchaaDoor.Buf
