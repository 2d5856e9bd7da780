/- NewSequences, impl.Sequences; the reference's Covers, Covered, Bytes, IsLetter, ranged. -/
import Derived.Test.YtanimdajohpggaaDoorSeq4
namespace Go.Proofs.YtanimdajohpggaaDoor.Seq
open Go.ChangeShapes Go.WideShapes Go.ChangeAt Go.RowKit Go.Trav Go.Utf
set_option linter.unusedVariables false
set_option maxRecDepth 100000
theorem newseq_any (lo hi : Int) (w : World) (hg : Glob w) (hb : Bd (lo, hi)) :
    Calls Tryd.prog 38 #[.int .i32 lo, .int .i32 hi] w fun e w' => ∃ (ov : Value) (out : List (Int × Int)) (vs : List Value), e = .returned (.tuple #[ov, .nilIface]) ∧ Done lo hi out ∧ Reads w' ov out.length 1 vs ∧ (∀ (i : Nat) v q, vs[i]? = some v → out[i]? = some q → SeqAt w.heap.size w' v q) ∧ Below w.heap.size w w' := by
  go_enter Tryd.func38, Tryd.ntmps38
  go_wp2_with fail
  refine (prealloc_nil lo hi w hg hb).mono ?_
  rintro e w1 ⟨ov, sv, out, vs, rfl, h1, h2, h3, h4⟩
  have H1 := Lib.hid h1
  have H2 := Lib.hid h2
  have H3 := Lib.hid h3
  have H4 := Lib.hid h4
  clear h1 h2 h3 h4
  go_wp2_with fail
  go_ret2
  exact ⟨_, out, vs, rfl, H1.out, H2.out, H3.out, H4.out⟩
theorem Tryd.info82 : (Tryd.prog.info? 82).map (fun i => (i.zero, i.size, i.bytes)) = some (some (.agg #[.int .u8 0, .int .u8 0]), 2, 2) := by kernel_rfl
theorem Tryd.info40 : (Tryd.prog.info? 40).map (fun i => (i.zero, i.size, i.bytes)) = some (some (.slice none 0 0), 1, 24) := by kernel_rfl
theorem bytesOf_any (v : Value) (n : Nat) (l : List (Int × Int)) (w : World) (h : Reads w v n 2 (l.flatMap rgCells)) (hn : n ≤ 1000) :
    Calls Tryd.prog 39 #[v] w fun e w' => ∃ ov, e = .returned ov ∧ w'.ownsRow w.heap.size 82 2 ov n (l.flatMap rgCells) ∧ Below w.heap.size w w' := by
  obtain ⟨ao, cap, rfl⟩ := h.form
  have hl := Reads.recs rgCells (fun _ => rfl) h (by omega)
  have HL := Lib.hid hl
  have H := Lib.hid h
  clear h hl
  go_enter Tryd.func39, Tryd.ntmps39
  go_wp2_with fail
  go_loopw [3, 8] (fun ov ix wr => ∃ k : Nat, ix = .int .i64 k ∧ k ≤ n ∧ Hid (wr.ownsRow w.heap.size 82 2 ov k ((l.take k).flatMap rgCells)) ∧ Below w.heap.size w wr) (fun _ ix _ => n - (intOf ix).toNat)
  case atStart => exact ⟨0, rfl, Nat.zero_le _, Lib.hid (World.ownsRow_nil _ _ _ _), Below.refl _ _⟩
  case round =>
    obtain ⟨k, rfl, hk, HO, hb⟩ := hrel
    by_cases hlt : k < n
    · obtain ⟨b, off, _, q, hx, hq, hc⟩ := Reads.rec rgCells (fun _ => rfl) (H.out.below hb) (by omega) hlt
      cases hx
      have c0 := hc 0 (.int .u8 q.1) rfl
      have c1 := hc 1 (.int .u8 q.2) rfl
      simp only [Nat.add_zero] at c0
      have HQ := Lib.hid hq
      have hbs : w.heap.size ≤ wr.heap.size := hb.size
      clear hq hc
      have hown : (wr.alloc (.cells #[.int .u8 q.1, .int .u8 q.2] 111 (0, 0))).ownsRow w.heap.size 82 2 u3 k ((l.take k).flatMap rgCells) := HO.out.alloc _
      have HOW := Lib.hid hown
      clear hown
      go_wp2_with (at_builtin; refine wpList_append_one rfl (.tmp 12) (.tmp 18) 40 rfl w.heap.size 82 _ 2 2 Tryd.underlying40 Tryd.info82 rfl (by decide) (by decide) _ _ _ rfl HOW.out #[.int .u8 q.1, .int .u8 q.2] _ _ rfl (by simp) rfl (by simp [Value.oneCell']) (by omega) (by simp; omega) ?_; intro ao9 cap9 w9 hown9 hgr9 hat9; have hb9 := below_own (hb.alloc hbs _) HOW.out _ hgr9 (by simp; omega); have HO9 := Lib.hid hown9; clear hown9 hgr9 hat9 HOW)
      go_roundw
      case rel => exact ⟨k + 1, by go_num, by omega, Lib.hid (by rw [take_snoc' _ _ _ HQ.out, List.flatMap_append]; exact HO9.out), hb9⟩
      case measure => simp [intOf]; omega
    · obtain rfl : n = k := by omega
      go_wp2_with fail
      go_ret
      refine ⟨_, rfl, ?_, hb⟩
      have := HO.out
      rwa [List.take_of_length_le (by rw [HL.out]; exact Nat.le_refl _)] at this
theorem wid_pos (r : Int) : 1 ≤ wid r := by
  rcases wid_cases r with ⟨h, _⟩ | ⟨h, _⟩ | ⟨h, _⟩ | ⟨h, _⟩ <;> omega
theorem SeqAt.reads {base : Nat} {w : World} {v : Value} {q : Int × Int} (h : SeqAt base w v q) (hg : Utf.Good q.1 q.2) : Reads w v (wid q.1) 2 ((seqOf q).flatMap rgCells) := by
  obtain ⟨g, h1, rfl, h3⟩ := h
  have hw := wid_le q.1
  have hl : ((seqOf q).flatMap rgCells).length = wid q.1 * 2 := by
    rw [flatMap_len rgCells 2 (fun _ => rfl), show (seqOf q).length = wid q.1 from seqOf_len hg]
  refine ⟨_, _, rfl, Nat.le_refl _, by unfold maxLen; omega, fun h => by simp at h, hl, fun _ => ⟨g, 0, rfl, fun j u hj => ?_⟩⟩
  rw [Nat.zero_add]
  exact block_cell h3 (by simpa using hj)
end Go.Proofs.YtanimdajohpggaaDoor.Seq
