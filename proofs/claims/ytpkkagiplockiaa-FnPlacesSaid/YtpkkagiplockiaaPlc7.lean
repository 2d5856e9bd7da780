/- The edit distance's walk: spec.Distance. -/
import Derived.Test.YtpkkagiplockiaaPlc6
import Derived.Deep.RegionLaw
import Derived.Deep.OwnRows
namespace Go.Proofs.Ytpkkagiplockiaa.Ed
open Go.ChangeShapes Go.WideShapes Go.ChangeAt Go.RowKit Go.Trav Go.Nor
set_option linter.unusedVariables false
set_option linter.unusedSimpArgs false
set_option maxRecDepth 100000
theorem D_le_add {sw : Bool} {a b : Nat → Int} (i k : Nat) : D sw a b i k ≤ i + k := by
  induction i with
  | zero => rw [D_zero]; omega
  | succ i ih => have := D_up (sw := sw) (a := a) (b := b) i k; omega
theorem Try.info3 : (Try.prog.info? 3).map (fun i => (i.zero, i.size, i.bytes)) = some (some (.int .i64 0), 1, 8) := by kernel_rfl
theorem Try.info32 : (Try.prog.info? 32).map (fun i => (i.zero, i.size, i.bytes)) = some (some (.slice none 0 0), 1, 24) := by kernel_rfl
def rowF (f : Nat → Nat) (N : Nat) : Array Value := ((List.range N).map fun k => Value.int .i64 (f k)).toArray
theorem rowF_at (f : Nat → Nat) (N k : Nat) (h : k < N) : (rowF f N)[k]? = some (.int .i64 (f k)) := by
  unfold rowF
  simp [h]
theorem rowF_set (f : Nat → Nat) (N k x : Nat) : (rowF f N).setIfInBounds k (.int .i64 x) = rowF (fun j => if j = k then x else f j) N := by
  unfold rowF
  rw [List.setIfInBounds_toArray]
  congr 1
  apply List.ext_getElem?
  intro j
  rw [List.getElem?_set]
  simp only [List.length_map, List.length_range, List.getElem?_map]
  by_cases hj : j < N
  · rw [List.getElem?_range hj]
    by_cases e : k = j
    · subst e; simp [hj]
    · simp [e, Ne.symm e]
  · have : (List.range N)[j]? = none := by simp; omega
    rw [this]
    by_cases e : k = j
    · simp [e, hj]
    · simp [e]
theorem rowF_zero (N : Nat) : madeCells #[Value.int .i64 0] N = rowF (fun _ => 0) N := by
  apply Array.ext_getElem?
  intro j
  by_cases hj : j < N
  · rw [rowF_at _ _ _ hj]
    simp [madeCells, hj, Nat.mod_one]
  · have h1 : (rowF (fun _ => 0) N)[j]? = none := by simp [rowF]; omega
    have h2 : (madeCells #[Value.int .i64 0] N)[j]? = none := by simp [size_madeCells]; omega
    rw [h1, h2]
theorem rowF_congr {f g : Nat → Nat} {N : Nat} (h : ∀ t, t < N → f t = g t) : rowF f N = rowF g N := by
  unfold rowF
  congr 1
  apply List.map_congr_left
  intro t ht
  rw [h t (List.mem_range.mp ht)]
def topV (N : Nat) : Option Nat → Value
  | some b => .slice (some ⟨b, 0, none⟩) N N
  | none => .slice none 0 0
def topR (rows : List Nat) (N M : Nat) : Array Value := ((List.range M).map fun j => topV N rows[j]?).toArray
theorem topR_at (rows : List Nat) (N M j : Nat) (h : j < M) : (topR rows N M)[j]? = some (topV N rows[j]?) := by
  unfold topR
  simp [h]
theorem topR_set (rows : List Nat) (N M b : Nat) (h : rows.length < M) : (topR rows N M).setIfInBounds rows.length (.slice (some ⟨b, 0, none⟩) N N) = topR (rows ++ [b]) N M := by
  unfold topR
  rw [List.setIfInBounds_toArray]
  congr 1
  apply List.ext_getElem?
  intro j
  rw [List.getElem?_set]
  simp only [List.length_map, List.length_range, List.getElem?_map]
  by_cases hj : j < M
  · rw [List.getElem?_range hj]
    by_cases e : rows.length = j
    · subst e; simp [h, topV]
    · simp only [e, if_false, Option.map_some]
      congr 1
      by_cases hl : j < rows.length
      · rw [List.getElem?_append_left hl]
      · rw [List.getElem?_eq_none (by omega), List.getElem?_append_right (by omega), List.getElem?_eq_none (by simp; omega)]
  · have : (List.range M)[j]? = none := by simp; omega
    rw [this]
    have : rows.length ≠ j := by omega
    simp [this]
theorem topR_nil (N M : Nat) : madeCells #[Value.slice none 0 0] M = topR [] N M := by
  apply Array.ext_getElem?
  intro j
  by_cases hj : j < M
  · rw [topR_at _ _ _ _ hj]
    simp [madeCells, hj, Nat.mod_one, topV]
  · have h1 : (topR [] N M)[j]? = none := by simp [topR]; omega
    have h2 : (madeCells #[Value.slice none 0 0] M)[j]? = none := by simp [size_madeCells]; omega
    rw [h1, h2]
/-- The table, since the world w0: rows 0 .. as far as row i, element k. -/
structure Tb (w0 w : World) (Db M N i k : Nat) (f : Nat → Nat → Nat) (rows : List Nat) : Prop where
  bel : Below w0.heap.size w0 w
  tab : w.heap[Db]? = some (.cells (topR rows N M) 32 (0, 0))
  row : ∀ (j b : Nat), rows[j]? = some b → w.heap[b]? = some (.cells (rowF (fun t => if j < i ∨ t < k then f j t else 0) N) 3 (0, 0))
  new : ∀ b ∈ rows, w0.heap.size ≤ b ∧ b ≠ Db
  inj : rows.Nodup
  db : w0.heap.size ≤ Db
theorem Tb.draw {w0 w : World} {Db M N i k : Nat} {f : Nat → Nat → Nat} {rows : List Nat} (h : Tb w0 w Db M N i k f rows) (q : Nat) : Tb w0 (w.drewN q) Db M N i k f rows :=
  ⟨below_drewN h.bel q, h.tab, h.row, h.new, h.inj, h.db⟩
theorem Tb.at {w0 w : World} {Db M N i k : Nat} {f : Nat → Nat → Nat} {rows : List Nat} (h : Tb w0 w Db M N i k f rows) (hM : rows.length ≤ M) {i' k' : Nat} (hi : i' < rows.length) (hk : k' < N) (hd : i' < i ∨ k' < k) : TabAt w Db N i' k' (f i' k') := by
  have hb := List.getElem?_eq_getElem hi
  refine ⟨rows[i'], block_cell h.tab ?_, block_cell (h.row i' _ hb) ?_⟩
  · rw [topR_at _ _ _ _ (by omega), hb]; rfl
  · rw [rowF_at _ _ _ hk, if_pos hd]
/-- A row more. -/
theorem Tb.more {w0 w : World} {Db M N i : Nat} {f : Nat → Nat → Nat} {rows : List Nat} (h : Tb w0 w Db M N i 0 f rows) (hl : rows.length = i) (hM : i < M) :
    Tb w0 ((w.alloc (.cells (madeCells #[.int .i64 0] N) 3)).setCell ⟨Db, i, none⟩ (.slice (some ⟨w.heap.size, 0, none⟩) N N)) Db M N i 0 f (rows ++ [w.heap.size]) := by
  have hdb := block_lt h.tab
  refine ⟨(h.bel.alloc h.bel.size _).setCell h.db _, ?_, fun j b hj => ?_, fun b hb => ?_, ?_, h.db⟩
  · rw [block_set (i := i) (u := .slice (some ⟨w.heap.size, 0, none⟩) N N) (block_alloc h.tab), ← hl, topR_set _ _ _ _ (by omega)]
  · by_cases hjl : j < rows.length
    · rw [List.getElem?_append_left hjl] at hj
      have hn := h.new b (List.mem_of_getElem? hj)
      exact block_set_ne (block_alloc (h.row j b hj)) (fun e => hn.2 e.symm)
    · rw [List.getElem?_append_right (by omega)] at hj
      have hj0 : j = i := by
        have := (List.getElem?_eq_some_iff.1 hj).1
        simp at this; omega
      subst hj0
      rw [show j - rows.length = 0 by omega] at hj
      simp at hj
      subst hj
      rw [block_set_ne (heap_alloc_new w _) (by simp; omega), rowF_zero]
      congr 2
      exact rowF_congr fun t ht => by simp
  · rcases List.mem_append.mp hb with hb | hb
    · exact h.new b hb
    · rw [List.mem_singleton.mp hb]; exact ⟨h.bel.size, by omega⟩
  · rw [List.nodup_append]
    refine ⟨h.inj, by simp, fun a ha b hb e => ?_⟩
    rw [List.mem_singleton.mp hb] at e
    obtain ⟨j, hj⟩ := List.mem_iff_getElem?.mp ha
    have := block_lt (h.row j a hj)
    omega
/-- An element more. -/
theorem Tb.put {w0 w : World} {Db M N i k : Nat} {f : Nat → Nat → Nat} {rows : List Nat} (h : Tb w0 w Db M N i k f rows) (hl : rows.length = i + 1) {R : Nat} (hR : rows[i]? = some R) :
    Tb w0 (w.setCell ⟨R, k, none⟩ (.int .i64 (f i k : Nat))) Db M N i (k + 1) f rows := by
  have hn := h.new R (List.mem_of_getElem? hR)
  refine ⟨h.bel.setCell hn.1 _, block_set_ne h.tab hn.2, fun j b hj => ?_, h.new, h.inj, h.db⟩
  by_cases e : b = R
  · subst e
    have hji : j = i := (List.getElem?_inj (by have := (List.getElem?_eq_some_iff.1 hj).1; exact this) h.inj).mp (hj.trans hR.symm)
    subst hji
    rw [block_set (i := k) (u := .int .i64 (f j k : Nat)) (h.row j b hj), rowF_set]
    congr 2
    refine rowF_congr fun t ht => ?_
    by_cases e1 : t = k
    · subst e1; simp
    · simp only [e1, if_false]
      have : (j < j ∨ t < k) ↔ (j < j ∨ t < k + 1) := by omega
      simp only [this]
  · rw [block_set_ne (h.row j b hj) (fun e' => e e'.symm)]
    congr 2
    have hji : j ≠ i := fun e' => by
      rw [e'] at hj
      exact e (Option.some.inj (hj.symm.trans hR))
    have hjl := (List.getElem?_eq_some_iff.1 hj).1
    refine rowF_congr fun t ht => ?_
    have h1 : (j < i ∨ t < k) := Or.inl (by omega)
    have h2 : (j < i ∨ t < k + 1) := Or.inl (by omega)
    simp only [h1, h2, if_true]
theorem Tb.full {w0 w : World} {Db M N i : Nat} {f : Nat → Nat → Nat} {rows : List Nat} (h : Tb w0 w Db M N i N f rows) (hl : rows.length = i + 1) : Tb w0 w Db M N (i + 1) 0 f rows := by
  refine ⟨h.bel, h.tab, fun j b hj => ?_, h.new, h.inj, h.db⟩
  have hjl := (List.getElem?_eq_some_iff.1 hj).1
  rw [h.row j b hj]
  congr 2
  refine rowF_congr fun t ht => ?_
  have h1 : (j < i ∨ t < N) := Or.inr ht
  have h2 : (j < i + 1 ∨ t < 0) := Or.inl (by omega)
  simp only [h1, h2, if_true]
set_option maxHeartbeats 8000000 in
theorem dis_any (na nb : Nat) (av bv : Value) (la lb : List Int) (sw : Bool) (w : World) (ha : Reads w av na 1 (la.map (Value.int .i64))) (hb : Reads w bv nb 1 (lb.map (Value.int .i64))) (hna : na ≤ 100) (hnb : nb ≤ 100) :
    Calls Try.prog 14 #[av, bv, .bool sw] w fun e w' => e = .returned (.int .i64 (D sw (ltr la) (ltr lb) na nb : Nat)) ∧ Below w.heap.size w w' := by
  obtain ⟨aa, ac, rfl⟩ := ha.form
  obtain ⟨ba, bc, rfl⟩ := hb.form
  obtain ⟨M, hM⟩ : ∃ M, M = na + 1 := ⟨_, rfl⟩
  obtain ⟨N, hN⟩ : ∃ N, N = nb + 1 := ⟨_, rfl⟩
  have hMz : ((na : Int) + 1) = (M : Int) := by omega
  have hNz : ((nb : Int) + 1) = (N : Int) := by omega
  have hmk1 := fun W => run_make_row' (P := Try.prog) 59 32 (.slice none 0 0) 24 Try.underlying59 Try.info32 rfl .i64 .i64 M (by omega) (by omega) W
  have hmk2 := fun W => run_make_row' (P := Try.prog) 32 3 (.int .i64 0) 8 Try.underlying32 Try.info3 rfl .i64 .i64 N (by omega) (by omega) W
  rw [← hMz] at hmk1
  rw [← hNz] at hmk2
  have w1 : IntKind.i64.wrap ((na : Int) + 1) = (na : Int) + 1 := by simp [IntKind.wrap, IntKind.bits, IntKind.signed]; omega
  have w2 : IntKind.i64.wrap ((nb : Int) + 1) = (nb : Int) + 1 := by simp [IntKind.wrap, IntKind.bits, IntKind.signed]; omega
  clear hMz hNz
  have HMM := Lib.hid hM
  have HNN := Lib.hid hN
  have HA := Lib.hid ha
  have HB := Lib.hid hb
  obtain ⟨f, hf⟩ : ∃ f, f = D sw (ltr la) (ltr lb) := ⟨_, rfl⟩
  have HF := Lib.hid hf
  clear ha hb hf
  have hT0 : Tb w (w.alloc (.cells (madeCells #[.slice none 0 0] M) 32)) w.heap.size M N 0 0 f [] := by
    rw [topR_nil N M]
    exact ⟨(Below.refl _ _).alloc (Nat.le_refl _) _, heap_alloc_new w _, fun j b hj => by simp at hj, fun b hb => by simp at hb, List.nodup_nil, Nat.le_refl _⟩
  have HT0 := Lib.hid hT0
  have hM' : M ≤ na + 1 ∧ na + 1 ≤ M := by omega
  have hN' : N ≤ nb + 1 ∧ nb + 1 ≤ N := by omega
  clear hT0 hM hN
  go_enter Try.func14, Try.ntmps14
  go_wp2_with fail
  go_loopw [8] (fun iv wr => ∃ (i : Nat) (rows : List Nat), iv = .int .i64 i ∧ i ≤ M ∧ Hid (rows.length = i) ∧ Hid (Tb w wr w.heap.size M N i 0 f rows)) (fun iv _ => M - (intOf iv).toNat)
  case atStart => exact ⟨0, [], rfl, Nat.zero_le _, Lib.hid rfl, HT0⟩
  case round =>
    clear HT0
    obtain ⟨i, rows, rfl, hi, HRL, HT⟩ := hrel
    rename World => wr
    by_cases hin : i < M
    · have t1 : (i : Int) ≤ (na : Int) := by omega
      obtain ⟨c0, f0⟩ : wr.cell? ⟨w.heap.size, i, none⟩ = some (.slice none 0 0) ∧ wr.frozen? ⟨w.heap.size, i, none⟩ = false := by
        refine ⟨block_cell HT.out.tab ?_, block_free HT.out.tab⟩
        rw [topR_at _ _ _ _ hin, List.getElem?_eq_none (by have := HRL.out; omega)]; rfl
      have al : ∀ oo, (wr.alloc oo).cell? ⟨w.heap.size, i, none⟩ = some (.slice none 0 0) := fun oo => by
        rw [World.cell?_of_block (Below.heap_alloc _ _ _ (World.block_lt_of_cell? _ _ c0))]; exact c0
      have al2 : ∀ oo, (wr.alloc oo).frozen? ⟨w.heap.size, i, none⟩ = false := fun oo => block_free (block_alloc HT.out.tab)
      have HT1 := Lib.hid (HT.out.more HRL.out hin)
      go_wp2_with fail
      go_loopw [9] (fun kv wq => ∃ k : Nat, kv = .int .i64 k ∧ k ≤ N ∧ Hid (Tb w wq w.heap.size M N i k f (rows ++ [wr.heap.size]))) (fun kv _ => N - (intOf kv).toNat)
      case atStart => exact ⟨0, rfl, Nat.zero_le _, HT1⟩
      case round =>
        clear HT1 c0 f0 al al2
        obtain ⟨k, rfl, hk, HTk⟩ := hrel
        rename World => wq
        have hl2 : (rows ++ [wr.heap.size]).length = i + 1 := by have := HRL.out; simp; omega
        have hRi : (rows ++ [wr.heap.size])[i]? = some wr.heap.size := by
          have := HRL.out
          rw [List.getElem?_append_right (by omega)]
          simp [show i - rows.length = 0 by omega]
        by_cases hkn : k < N
        · have t2 : (k : Int) ≤ (nb : Int) := by omega
          have hst : ∀ q, Calls Try.prog 25 #[.slice (some ⟨w.heap.size, 0, none⟩) M M, .slice aa na ac, .slice ba nb bc, .int .i64 i, .int .i64 k, .bool sw] (wq.drewN q) fun e w' => e = .returned (.int .i64 (f i k : Nat)) ∧ ∃ q', w' = (wq.drewN q).drewN q' := fun q => by
            rw [HF.out]
            refine step_any w.heap.size M N i k na nb _ _ la lb sw _ (fun i' k' h1 h2 h3 => ?_) ((HA.out.below HTk.out.bel).drewN q) ((HB.out.below HTk.out.bel).drewN q) (by omega) (by omega) HMM.out HNN.out (by omega) (by omega) (fun _ _ => D_le_add _ _)
            have := (HTk.out.draw q).at (by omega) (i' := i') (k' := k') (by omega) (by omega) h3
            rw [HF.out] at this
            exact this
          have hst0 : Calls Try.prog 25 #[.slice (some ⟨w.heap.size, 0, none⟩) M M, .slice aa na ac, .slice ba nb bc, .int .i64 i, .int .i64 k, .bool sw] wq.drew fun e w' => e = .returned (.int .i64 (f i k : Nat)) ∧ ∃ q', w' = wq.drew.drewN q' := hst 1
          have HST := Lib.hid hst0
          have d0 : wq.cell? ⟨w.heap.size, i, none⟩ = some (.slice (some ⟨wr.heap.size, 0, none⟩) N N) := by
            refine block_cell HTk.out.tab ?_
            rw [topR_at _ _ _ _ hin, hRi]; rfl
          have r0 : wq.cell? ⟨wr.heap.size, k, none⟩ = some (.int .i64 ((0 : Nat) : Int)) := by
            refine block_cell (HTk.out.row i _ hRi) ?_
            rw [rowF_at _ _ _ hkn, if_neg (by omega)]
          have r1 : wq.frozen? ⟨wr.heap.size, k, none⟩ = false := block_free (HTk.out.row i _ hRi)
          have HL2 := Lib.hid hl2
          have HRI := Lib.hid hRi
          have t3 : (i : Int) < (M : Int) := by omega
          have t4 : (k : Int) < (N : Int) := by omega
          have t5 : (0 : Int) ≤ (i : Int) := by omega
          have t6 : (0 : Int) ≤ (k : Int) := by omega
          clear hst hst0 hl2 hRi
          go_wp2_with fail
          go_region_law (first
            | (go_simp; (with_reducible refine HST.out.mono ?_); rintro e w5 ⟨rfl, q5, rfl⟩)
            | fail)
          all_goals
            go_wp2_with fail
            go_roundw
            case rel => exact ⟨k + 1, by go_num, by omega, Lib.hid ((HTk.out.draw _).put HL2.out HRI.out)⟩
            case measure => simp [intOf] <;> omega
        · obtain rfl : k = N := by omega
          have t2 : ¬ (k : Int) ≤ (nb : Int) := by omega
          have HT2 := Lib.hid (HTk.out.full hl2)
          have HL2 := Lib.hid hl2
          clear hl2 hRi
          go_wp2_with fail
          go_roundw
          case rel => exact ⟨i + 1, rows ++ [wr.heap.size], by go_num, by omega, HL2, HT2⟩
          case measure => simp [intOf] <;> omega
    · obtain rfl : i = M := by omega
      have t1 : ¬ (i : Int) ≤ (na : Int) := by omega
      have hlen := HRL.out
      obtain ⟨b, d0, d1⟩ := HT.out.at (by omega) (i' := na) (k' := nb) (by omega) (by omega) (Or.inl (by omega))
      have t3 : (na : Int) < (i : Int) := by omega
      have t4 : (nb : Int) < (N : Int) := by omega
      clear hlen
      go_wp2_with fail
      go_ret
      rw [← HF.out]
      exact ⟨rfl, HT.out.bel⟩
end Go.Proofs.Ytpkkagiplockiaa.Ed
