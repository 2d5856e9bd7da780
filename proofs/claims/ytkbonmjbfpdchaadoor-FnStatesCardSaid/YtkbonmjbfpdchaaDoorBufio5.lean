/- bufio.Writer: Write where the buffer is full; Write. -/
import Derived.Test.YtkbonmjbfpdchaaDoorBufio4
import Derived.Laws.CopyOwn
namespace Go.Proofs.YtkbonmjbfpdchaaDoor.Buf
open Go.ChangeShapes Go.WideShapes Go.ChangeAt Go.RowKit Go.Trav
set_option linter.unusedVariables false
set_option maxRecDepth 100000
theorem At.reset {w : World} {i : Ids} {done pend : List Nat} (h : At w i done pend) (hp : pend.length = 4096) : At (w.setCell ⟨i.q, 2, none⟩ (.int .i64 4096)) i done pend ∧ Mod i.F w (w.setCell ⟨i.q, 2, none⟩ (.int .i64 4096)) := by
  obtain ⟨arr, h1, h2, h3⟩ := h.fb
  obtain ⟨n1, n2, n3, n4, n5⟩ := h.ne
  refine ⟨⟨?_, ⟨arr, block_set_ne h1 (by simpa using n1), h2, h3⟩, h.le, ?_, h.ne⟩, Mod.setCell (F := i.F) (Mod.refl _ _) (p := ⟨i.q, 2, none⟩) (fun _ => Or.inl rfl) _⟩
  · rw [block_set h.bw, hp]
    rfl
  · exact h.bf.mod (F := fun k => k = i.q) (Mod.setCell (F := fun k => k = i.q) (Mod.refl _ _) (p := ⟨i.q, 2, none⟩) (fun _ => rfl) _) (fun e => n2 e.symm) (fun k hk e => n4 (by rw [hk, e]))
set_option maxHeartbeats 1000000 in
theorem write_full (i : Ids) (done pend l : List Nat) (ab ao n c : Nat) (w : World) (h : At w i done pend) (hn : l.length = n) (hr : pend.length = 4096) (hn1 : 1 ≤ n) (hn4 : n ≤ 4096) (hnc : n ≤ c) (hdl : done.length + 4096 ≤ 4294967296)
    (hsrc : ∀ j x, (l.map bN)[j]? = some x → w.cell? ⟨ab, ao + j, none⟩ = some x) (hF : ¬ i.F ab) :
    Calls Tryd.prog 82 #[.pointer (some ⟨i.q, 0, none⟩), .slice (some ⟨ab, ao, none⟩) n c] w fun e w' => e = .returned (.tuple #[.int .i64 n, .nilIface]) ∧ Goes w w' i (done ++ pend) l := by
  have hle := h.le
  have hz : decide ((4096 : Int) - pend.length < n) = true := by simp; omega
  have hab : ab < w.heap.size := by
    have hj : (l.map bN)[0]? = some ((l.map bN)[0]'(by simp; omega)) := List.getElem?_eq_getElem _
    exact World.block_lt_of_cell? w _ (hsrc 0 _ hj)
  obtain ⟨arr, hf, hfs, hft⟩ := h.fb
  have HS := Lib.hid hsrc
  have HH := Lib.hid h
  have HFF := Lib.hid hf
  have HFS := Lib.hid hfs
  have HN := Lib.hid hn
  have HDL := Lib.hid hdl
  have HAB := Lib.hid hab
  have HP := Lib.hid hr
  rw [hr] at hle hz hft
  have HFT := Lib.hid hft
  clear h hsrc hf hfs hft hn hdl hab hr
  have HC := Lib.hid (show w.cell? ⟨i.q, 2, none⟩ = some (.int .i64 4096) by have := block_cell (i := 2) HH.out.bw rfl; rw [HP.out] at this; exact this)
  have hne2 : ¬ c = 0 := by omega
  have hinfo : (Tryd.prog.info? 5).map (·.size) = some 1 := by
    obtain ⟨i0, hi, -, hz1, -⟩ := info_parts Tryd.info5
    rw [hi]; simp [hz1]
  have hcp0 : ∀ W, (Builtin.copy_ #[35, 35] 3 #[.slice (some ⟨i.f, 0, none⟩) 0 0, .slice (some ⟨ab, ao, none⟩) n c]).run Tryd.prog W = .ok (goInt 0) W := fun W => run_copy_none W 35 35 3 5 (some ⟨i.f, 0, none⟩) (some ⟨ab, ao, none⟩) 0 0 n c Tryd.underlying35 hinfo (by simp)
  go_enter Tryd.func82, Tryd.ntmps82
  go_wp2_with fail
  go_loopw [1, 4] (fun p nn wr => (p = .slice (some ⟨ab, ao, none⟩) n c ∧ nn = .int .i64 0 ∧ w = wr) ∨ (∃ v1, p = .slice (some ⟨ab, ao, none⟩) n c ∧ nn = .int .i64 0 ∧ Hid (Half w wr i (done ++ pend) v1))) (fun _ _ wr => match wr.cell? ⟨i.q, 2, none⟩ with | some (.int _ x) => x.toNat | _ => 0)
  case atStart => exact Or.inl ⟨rfl, rfl, rfl⟩
  case round =>
    rcases hrel with ⟨rfl, rfl, rfl⟩ | ⟨v1, rfl, rfl, HA⟩
    · go_wp2_with fail
      refine (avail_any i.q i.f 4096 _ _ _ (by have := HH.out.bw; rw [HP.out] at this; exact this) (Nat.le_refl _)).mono ?_
      rintro e w1 ⟨rfl, q, hw1⟩
      have hh : w1.heap = w.heap := by rw [hw1]; rfl
      have hm1 : Mod i.F w w1 := by rw [hw1]; exact (Mod.refl _ _).drewN q
      have c0' : w1.cell? ⟨i.q, 0, none⟩ = some .nilIface := block_cell (HH.out.same hh).bw rfl
      have c1' : w1.cell? ⟨i.q, 1, none⟩ = some (.slice (some ⟨i.f, 0, none⟩) 4096 4096) := block_cell (HH.out.same hh).bw rfl
      have c2' := cell_same HC.out hh
      have HH1 := Lib.hid hh
      clear hw1 hh
      go_wp2_with fail
      refine (buffered_any i.q 4096 _ _ _ _ (by have := (HH.out.same HH1.out).bw; rw [HP.out] at this; exact this)).mono ?_
      rintro e w1' ⟨rfl, rfl⟩
      have hA1 : At w1.drew i done pend := HH.out.same HH1.out
      have hqb : w1.drew.heap[i.q]? = some (.cells #[.nilIface, .slice (some ⟨i.f, 0, none⟩) 4096 4096, .int .i64 4096, .iface 100 (.pointer (some ⟨i.b, 0, none⟩))] 190 (0, 0)) := by have := hA1.bw; rw [HP.out] at this; exact this
      have d3 : w1.frozen? ⟨i.q, 2, none⟩ = false := block_free (by have := hA1.bw; exact this)
      have hset : At (w1.drew.setCell ⟨i.q, 2, none⟩ (.int .i64 4096)) i done pend ∧ Mod i.F w1.drew (w1.drew.setCell ⟨i.q, 2, none⟩ (.int .i64 4096)) := At.reset hA1 HP.out
      have HSET := Lib.hid hset
      clear hA1 hqb hset
      go_wp2_with fail
      go_still_tail 10, (by kernel_rfl)
      change wpList _ _ _ _ _ w1.drew
      go_wp2_with fail
      refine (flush_any i done pend _ (HSET.out.1.same rfl) (by have := HDL.out; omega)).mono ?_
      rintro e w2 ⟨rfl, v2, hA2, hm2, hv2⟩
      have HA2 := Lib.hid hA2
      have HV2 := Lib.hid hv2
      clear hA2 hv2
      go_wp2_with fail
      go_roundw
      case rel =>
        have hs1 := hm1.size
        refine Or.inr ⟨v2, by simp, by simp, ?_⟩
        have hm12 : Mod i.F w ((w1.setCell ⟨i.q, 2, none⟩ (.int .i64 4096)).drew) := hm1.trans ((mod_of_heap rfl rfl rfl rfl : Mod i.F w1 w1.drew).trans (HSET.out.2.trans (mod_of_heap rfl rfl rfl rfl)))
        refine Lib.hid ⟨HA2.out, hm12.trans hm2, ?_⟩
        rcases HV2.out with h | ⟨g, h, h'⟩
        · exact Or.inl h
        · exact Or.inr ⟨g, h, Nat.le_trans hm12.size h'⟩
      case measure =>
        have e2 : w2.cell? ⟨i.q, 2, none⟩ = some (.int .i64 0) := block_cell HA2.out.bw rfl
        rw [e2, HC.out]
        simp
    · have hA := HA.out.1
      have hmA := HA.out.2.1
      have HV1 := Lib.hid HA.out.2.2
      obtain ⟨arr2, hf2, hfs2, hft2⟩ := hA.fb
      have hzz : decide ((4096 : Int) < n) = false := by simp; omega
      have e0 : wr.cell? ⟨i.q, 0, none⟩ = some .nilIface := block_cell hA.bw rfl
      have e1 : wr.cell? ⟨i.q, 1, none⟩ = some (.slice (some ⟨i.f, 0, none⟩) 4096 4096) := block_cell hA.bw rfl
      have e2 : wr.cell? ⟨i.q, 2, none⟩ = some (.int .i64 0) := block_cell hA.bw rfl
      have hnew : ¬ ({ i with v := v1 } : Ids).F ab := fun h => hF (F_step (w1 := w) HV1.out ab HAB.out h)
      have HAA := Lib.hid hA
      have HF2 := Lib.hid hf2
      clear hA hf2
      go_wp2_with fail
      refine (avail_any i.q i.f 0 _ _ _ HAA.out.bw (by omega)).mono ?_
      rintro e w1 ⟨rfl, q, hw1⟩
      have hh : w1.heap = wr.heap := by rw [hw1]; rfl
      have hm1 : Mod ({ i with v := v1 } : Ids).F wr w1 := by rw [hw1]; exact (Mod.refl _ _).drewN q
      have e0' := cell_same e0 hh
      have e1' := cell_same e1 hh
      have e2' := cell_same e2 hh
      have hA1 : At w1.drew { i with v := v1 } (done ++ pend) [] := HAA.out.same hh
      have hdl2 : l.length = n := HN.out
      have hcp := pour_run w1.drew i.f 0 4096 0 c ⟨ab, ao, none⟩ l n arr2 (by rw [show w1.drew.heap = wr.heap from hh]; exact HF2.out) hfs2 rfl (by omega) (by rw [hdl2]; omega) (fun j x hj => by
        rw [addr_add]
        exact cell_same (hmA.cell (HS.out j x hj) hF) hh)
      rw [hdl2] at hcp
      have hput := hA1.pour (l := l) (arr := arr2) (by rw [show w1.drew.heap = wr.heap from hh]; exact HF2.out) hfs2 (by simp) (by rw [hdl2]; simp; omega)
      rw [hdl2, List.length_nil, Int.natCast_add] at hput
      have hqb : (w1.drew.setRow i.f (poured arr2 0 l)).heap[i.q]? = some (.cells #[.nilIface, .slice (some ⟨i.f, 0, none⟩) 4096 4096, .int .i64 0, .iface 100 (.pointer (some ⟨i.b, 0, none⟩))] 190 (0, 0)) := by
        rw [setRow_other _ _ _ _ HH.out.ne.1]; exact hA1.bw
      have d2 : (w1.drew.setRow i.f (poured arr2 0 l)).cell? ⟨i.q, 2, none⟩ = some (.int .i64 0) := block_cell hqb rfl
      have d3 : (w1.drew.setRow i.f (poured arr2 0 l)).frozen? ⟨i.q, 2, none⟩ = false := block_free hqb
      have HPUT := Lib.hid hput
      clear hw1 hh hA1 hput hqb hdl2 hfs2 hft2
      go_wp2_with fail
      go_still_tail 10, (by kernel_rfl)
      change wpList _ _ _ _ _ w1.drew
      go_wp2_with fail
      go_ret2
      obtain ⟨hp1, hp2⟩ := HPUT.out
      simp only [Int.natCast_zero, Int.zero_add, List.nil_append] at hp1 hp2
      refine ⟨rfl, v1, hp1, ?_, HV1.out⟩
      exact hmA.step (hm1.trans ((mod_of_heap rfl rfl rfl rfl : Mod ({ i with v := v1 } : Ids).F w1 w1.drew).trans hp2)) (F_step (w1 := w) HV1.out)
theorem bwrite_any (i : Ids) (bs l : List Nat) (ab ao n c : Nat) (w : World) (h : Out w i bs) (hn : l.length = n) (hn4 : n ≤ 4096) (hnc : n ≤ c) (hn1 : 1 ≤ n) (hdl : bs.length + 4096 ≤ 4294967296)
    (hsrc : ∀ j x, (l.map bN)[j]? = some x → w.cell? ⟨ab, ao + j, none⟩ = some x) (hF : ¬ i.F ab) :
    Calls Tryd.prog 82 #[.pointer (some ⟨i.q, 0, none⟩), .slice (some ⟨ab, ao, none⟩) n c] w fun e w' => e = .returned (.tuple #[.int .i64 n, .nilIface]) ∧ Went w w' i (bs ++ l) := by
  obtain ⟨done, pend, rfl, hA⟩ := h
  have hle := hA.le
  have hd : done.length + 4096 ≤ 4294967296 := by simp at hdl; omega
  rcases Nat.lt_or_ge 4096 (pend.length + n) with h1 | h1
  · rcases Nat.lt_or_ge pend.length 4096 with h2 | h2
    · refine (write_over i done pend l ab ao n c (4096 - pend.length) w hA hn rfl (by omega) (by omega) hn4 hnc hd hsrc hF).mono fun e w' ⟨he, hg⟩ => ⟨he, ?_⟩
      have := hg.went
      simpa [List.append_assoc, List.take_append_drop] using this
    · refine (write_full i done pend l ab ao n c w hA hn (by omega) hn1 hn4 hnc hd hsrc hF).mono fun e w' ⟨he, hg⟩ => ⟨he, hg.went⟩
  · refine (write_fit i done pend l ab ao n c w hA hn h1 hn1 hsrc hF).mono fun e w' ⟨he, hg⟩ => ⟨he, ?_⟩
    have := hg.went
    simpa [List.append_assoc] using this
end Go.Proofs.YtkbonmjbfpdchaaDoor.Buf
