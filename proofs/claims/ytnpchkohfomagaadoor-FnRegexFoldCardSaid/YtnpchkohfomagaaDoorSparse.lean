/- The sparse set: its contracts. -/
import Derived.Test.YtnpchkohfomagaaDoorRows
import Derived.Test.YtnpchkohfomagaaDoorLib
import Derived.Deep.QuietTactic
import Derived.BigQuiet
import Derived.WalkLawsBesides
import Derived.WalkSpells
import Derived.Lib.QuietBelow
import Derived.Deep.RegionWith
import Derived.Deep.OwnRows
import Derived.Deep.RegionHeld3
namespace Go.Proofs.YtnpchkohfomagaaDoor.Sparse
open Go.ChangeShapes Go.WideShapes Go.ChangeAt Go.RowKit Go.Trav Go.Sort
set_option linter.unusedVariables false

def uV (x : Nat) : Value := .int .u64 (x : Int)
/-- The sets' memory: blocks B (the struct), bd, bs. -/
structure SetAt (w : World) (B bd bs n : Nat) (ds ss : List Nat) (sz : Nat) : Prop where
  blk : w.heap[B]? = some (.cells #[.slice (some ⟨bd, 0, none⟩) n n, .slice (some ⟨bs, 0, none⟩) n n, uV sz] 171 (0, 0))
  dn : w.heap[bd]? = some (.cells (ds.map uV).toArray 54 (0, 0))
  sp : w.heap[bs]? = some (.cells (ss.map uV).toArray 54 (0, 0))
  dl : ds.length = n
  sl : ss.length = n
  ne : bd ≠ bs
/-- What the memory stands for: the numbers of a set, in the order in which they came. -/
structure IsSet (n : Nat) (ds ss : List Nat) (sz : Nat) (l : List Nat) : Prop where
  len : l.length = sz
  nd : l.Nodup
  lt : ∀ x ∈ l, x < n
  le : sz ≤ n
  dl : ds.length = n
  sl : ss.length = n
  slt : ∀ x ∈ ss, x < n
  pre : ds.take sz = l
  back : ∀ (i x : Nat), l[i]? = some x → ss[x]? = some i
theorem Tryd.info54 : (Tryd.prog.info? 54).map (fun i => (i.zero, i.size, i.bytes)) = some (some (.int .u64 0), 1, 8) := by kernel_rfl
theorem SetAt.neB {w : World} {B bd bs n : Nat} {ds ss : List Nat} {sz : Nat} (h : SetAt w B bd bs n ds ss sz) : B ≠ bd ∧ B ≠ bs := by
  refine ⟨fun e => ?_, fun e => ?_⟩
  · have h1 := h.blk; rw [e, h.dn] at h1; simp at h1
  · have h1 := h.blk; rw [e, h.sp] at h1; simp at h1
theorem made_zero (n : Nat) : madeCells #[Value.int .u64 0] n = ((List.replicate n 0).map uV).toArray := by
  apply Array.ext
  · simp [size_madeCells]
  · intro i h1 h2
    have : i % 1 = 0 := Nat.mod_one i
    simp [madeCells, uV, this]
theorem new_set (w : World) (n : Nat) (bd bs B : Nat) (hd : (bd = w.heap.size ∧ bs = w.heap.size + 1) ∨ (bd = w.heap.size + 1 ∧ bs = w.heap.size)) (hB : B = w.heap.size + 1 + 1) {v : Value} (hv : v = .int .u64 0) :
    SetAt ((((w.alloc (.cells (madeCells #[.int .u64 0] n) 54)).alloc (.cells (madeCells #[.int .u64 0] n) 54)).alloc (.cells #[.slice (some ⟨bd, 0, none⟩) n n, .slice (some ⟨bs, 0, none⟩) n n, v] 171)).drew) B bd bs n (List.replicate n 0) (List.replicate n 0) 0 := by
  subst hv
  refine ⟨?_, ?_, ?_, by simp, by simp, by omega⟩
  · exact heap_alloc_at _ _ _ (by simp; omega)
  · rw [← made_zero]
    rcases hd with ⟨h, _⟩ | ⟨h, _⟩
    · exact block_alloc (w := ((w.alloc _).alloc _)) (block_alloc (w := (w.alloc _)) (heap_alloc_at _ _ _ h))
    · exact block_alloc (w := ((w.alloc _).alloc _)) (heap_alloc_at _ _ _ (by simp; omega))
  · rw [← made_zero]
    rcases hd with ⟨_, h⟩ | ⟨_, h⟩
    · exact block_alloc (w := ((w.alloc _).alloc _)) (heap_alloc_at _ _ _ (by simp; omega))
    · exact block_alloc (w := ((w.alloc _).alloc _)) (block_alloc (w := (w.alloc _)) (heap_alloc_at _ _ _ h))
theorem new_any (n : Nat) (w : World) (hn : n ≤ 35184372088832) :
    Calls Tryd.prog 66 #[.int .u64 (n : Int)] w fun e w' => ∃ B bd bs, e = .returned (.pointer (some ⟨B, 0, none⟩)) ∧ SetAt w' B bd bs n (List.replicate n 0) (List.replicate n 0) 0 ∧ Below w.heap.size w w' ∧ w.heap.size ≤ B ∧ w.heap.size ≤ bd ∧ w.heap.size ≤ bs := by
  have hmk := fun w => run_make_row' (P := Tryd.prog) 116 54 (.int .u64 0) 8 Tryd.underlying116 Tryd.info54 rfl .u64 .u64 n (by omega) (by omega) w
  go_enter Tryd.func66, Tryd.ntmps66
  go_wp2
  go_region
  all_goals go_wp2
  · go_ret
    exact ⟨w.heap.size + 1 + 1, w.heap.size, w.heap.size + 1, rfl, new_set w n _ _ _ (by omega) (by omega) rfl, ((((Below.refl w.heap.size w).alloc (Nat.le_refl _) _).alloc (by simp) _).alloc (by simp; omega) _).drew, by omega, by omega, by omega⟩
  · go_ret
    exact ⟨w.heap.size + 1 + 1, w.heap.size + 1, w.heap.size, rfl, new_set w n _ _ _ (by omega) (by omega) rfl, ((((Below.refl w.heap.size w).alloc (Nat.le_refl _) _).alloc (by simp) _).alloc (by simp; omega) _).drew, by omega, by omega, by omega⟩
/-- Add: the number goes behind those that are there. -/
theorem add_any (B bd bs n : Nat) (ds ss : List Nat) (sz x : Nat) (w : World) (h : SetAt w B bd bs n ds ss sz) (hx : x < n) (hs : sz < n) (hn : n ≤ 35184372088832) :
    Calls Tryd.prog 83 #[.pointer (some ⟨B, 0, none⟩), .int .u64 (x : Int)] w fun e w' => e = .returned (.int .u64 (sz : Int)) ∧ SetAt w' B bd bs n (ds.set sz x) (ss.set x sz) (sz + 1) ∧ Mod (fun k => k = B ∨ k = bd ∨ k = bs) w w' := by
  have ⟨hb1, hb2⟩ := h.neB
  obtain ⟨h1, h2, h3, hdl, hsl, hne⟩ := h
  have k0 : w.cell? ⟨B, 0, none⟩ = some (.slice (some ⟨bd, 0, none⟩) n n) := block_cell h1 rfl
  have k1 : w.cell? ⟨B, 1, none⟩ = some (.slice (some ⟨bs, 0, none⟩) n n) := block_cell h1 rfl
  have k2 : w.cell? ⟨B, 2, none⟩ = some (.int .u64 (sz : Int)) := block_cell h1 rfl
  have f2 : w.frozen? ⟨B, 2, none⟩ = false := block_free h1
  have d0 : w.cell? ⟨bd, sz, none⟩ = some (uV (ds[sz]?.getD 0)) := block_cell h2 (by simp [List.getElem?_eq_getElem (show sz < ds.length by omega)])
  have d1 : w.frozen? ⟨bd, sz, none⟩ = false := block_free h2
  have s0 : w.cell? ⟨bs, x, none⟩ = some (uV (ss[x]?.getD 0)) := block_cell h3 (by simp [List.getElem?_eq_getElem (show x < ss.length by omega)])
  have s1 : w.frozen? ⟨bs, x, none⟩ = false := block_free h3
  have H1 := Lib.hid h1
  have H2 := Lib.hid h2
  have H3 := Lib.hid h3
  clear h1 h2 h3
  go_enter Tryd.func83, Tryd.ntmps83
  go_wp2
  go_ret
  refine ⟨rfl, ⟨?_, ?_, ?_, by simpa using hdl, by simpa using hsl, hne⟩, ?_⟩
  · exact block_set (block_set_ne (block_set_ne H1.out (fun e => hb1 e.symm)) (fun e => hb2 e.symm))
  · have := block_set_ne (a := ⟨B, 2, none⟩) (u := .int .u64 ((sz : Int) + 1)) (block_set_ne (a := ⟨bs, x, none⟩) (u := uV sz) (block_set (i := sz) (u := uV x) H2.out) (fun e => hne e.symm)) hb1
    rw [row_set] at this
    exact this
  · have := block_set_ne (a := ⟨B, 2, none⟩) (u := .int .u64 ((sz : Int) + 1)) (block_set (i := x) (u := uV sz) (block_set_ne (a := ⟨bd, sz, none⟩) (u := uV x) H3.out hne)) hb2
    rw [row_set] at this
    exact this
  · exact (((Mod.refl (fun k => k = B ∨ k = bd ∨ k = bs) w).setCell (p := ⟨bd, sz, none⟩) (fun _ => Or.inr (Or.inl rfl)) _).setCell (p := ⟨bs, x, none⟩) (fun _ => Or.inr (Or.inr rfl)) _).setCell (p := ⟨B, 2, none⟩) (fun _ => Or.inl rfl) _

/-- Contains, at a set: whether the number is there. -/
theorem contains_any (B bd bs n : Nat) (ds ss : List Nat) (sz x : Nat) (l : List Nat) (w : World) (h : SetAt w B bd bs n ds ss sz) (hs : IsSet n ds ss sz l) (hx : x < n) (hn : n ≤ 35184372088832) :
    Calls Tryd.prog 82 #[.pointer (some ⟨B, 0, none⟩), .int .u64 (x : Int)] w fun e w' => e = .returned (.bool (decide (x ∈ l))) ∧ w = w' := by
  have hle := hs.le
  have hxl : ss[x]? = some (ss[x]?.getD 0) := by simp [List.getElem?_eq_getElem (show x < ss.length by rw [hs.sl]; omega)]
  generalize hi : ss[x]?.getD 0 = i at hxl
  have hin : i < n := hs.slt i (List.mem_of_getElem? hxl)
  have hdi : ds[i]? = some (ds[i]?.getD 0) := by simp [List.getElem?_eq_getElem (show i < ds.length by rw [hs.dl]; omega)]
  generalize hy : ds[i]?.getD 0 = y at hdi
  have hlen : ∀ j, j < sz → l[j]? = ds[j]? := by
    intro j hj
    rw [← hs.pre, List.getElem?_take, if_pos hj]
  have hmem : x ∈ l → i < sz ∧ y = x := by
    intro hm
    obtain ⟨j, hj⟩ := List.mem_iff_getElem?.1 hm
    have h1 := hs.back j x hj
    rw [hxl] at h1
    cases h1
    have h2 : i < l.length := (List.getElem?_eq_some_iff.1 hj).1
    rw [hs.len] at h2
    refine ⟨h2, ?_⟩
    have h3 := hlen i h2
    rw [hj, hdi] at h3
    cases h3; rfl
  obtain ⟨h1, h2, h3, hdl, hsl, hne⟩ := h
  have k0 : w.cell? ⟨B, 0, none⟩ = some (.slice (some ⟨bd, 0, none⟩) n n) := block_cell h1 rfl
  have k1 : w.cell? ⟨B, 1, none⟩ = some (.slice (some ⟨bs, 0, none⟩) n n) := block_cell h1 rfl
  have k2 : w.cell? ⟨B, 2, none⟩ = some (.int .u64 (sz : Int)) := block_cell h1 rfl
  have d0 : w.cell? ⟨bd, i, none⟩ = some (.int .u64 (y : Int)) := block_cell h2 (by simp [hdi, uV])
  have s0 : w.cell? ⟨bs, x, none⟩ = some (.int .u64 (i : Int)) := block_cell h3 (by simp [hxl, uV])
  clear h1 h2 h3
  by_cases c1 : i < sz
  · by_cases c2 : y = x
    · have HN : Hid (decide (x ∈ l) = true) := Lib.hid (by
        rw [decide_eq_true_iff]
        have := hlen i c1
        rw [hdi, c2] at this
        exact List.mem_of_getElem? this)
      have c2b : ((y : Int) == (x : Int)) = true := by simp [c2]
      clear c2 hi hy hxl hdi hlen hmem
      go_enter Tryd.func82, Tryd.ntmps82
      go_wp2
      go_ret
      exact ⟨by rw [HN.out]; rfl, rfl⟩
    · have HN : Hid (decide (x ∈ l) = false) := Lib.hid (by
        rw [decide_eq_false_iff_not]
        exact fun hm => c2 (hmem hm).2)
      have c2b : ((y : Int) == (x : Int)) = false := by simp; omega
      clear c2 hi hy hxl hdi hlen hmem
      go_enter Tryd.func82, Tryd.ntmps82
      go_wp2
      go_ret
      exact ⟨by rw [HN.out]; rfl, rfl⟩
  · have HN : Hid (decide (x ∈ l) = false) := Lib.hid (by
      rw [decide_eq_false_iff_not]
      exact fun hm => c1 (hmem hm).1)
    have c1b : decide ((i : Int) < (sz : Int)) = false := by simp; omega
    clear hi hy hxl hdi hlen hmem
    go_enter Tryd.func82, Tryd.ntmps82
    go_wp2
    go_ret
    exact ⟨by rw [HN.out]; rfl, rfl⟩
theorem get_any (B bd bs n : Nat) (ds ss : List Nat) (sz i x : Nat) (l : List Nat) (w : World) (h : SetAt w B bd bs n ds ss sz) (hs : IsSet n ds ss sz l) (hx : l[i]? = some x) (hn : n ≤ 35184372088832) :
    Calls Tryd.prog 85 #[.pointer (some ⟨B, 0, none⟩), .int .u64 (i : Int)] w fun e w' => e = .returned (.int .u64 (x : Int)) ∧ w = w' := by
  have hi : i < sz := by have := (List.getElem?_eq_some_iff.1 hx).1; have := hs.len; omega
  have hle := hs.le
  have hin : i < n := by omega
  have hd : ds[i]? = some x := by rw [← hs.pre, List.getElem?_take, if_pos hi] at hx; exact hx
  obtain ⟨h1, h2, h3, hdl, hsl, hne⟩ := h
  have k0 : w.cell? ⟨B, 0, none⟩ = some (.slice (some ⟨bd, 0, none⟩) n n) := block_cell h1 rfl
  have d0 : w.cell? ⟨bd, i, none⟩ = some (.int .u64 (x : Int)) := block_cell h2 (by simp [hd, uV])
  clear h1 h2 h3 hd hx
  go_enter Tryd.func85, Tryd.ntmps85
  go_wp2
  go_ret
  exact ⟨rfl, rfl⟩
theorem len_any (B bd bs n : Nat) (ds ss : List Nat) (sz : Nat) (w : World) (h : SetAt w B bd bs n ds ss sz) (hle : sz ≤ n) (hn : n ≤ 35184372088832) :
    Calls Tryd.prog 84 #[.pointer (some ⟨B, 0, none⟩)] w fun e w' => e = .returned (.int .i64 (sz : Int)) ∧ w = w' := by
  obtain ⟨h1, h2, h3, hdl, hsl, hne⟩ := h
  have k2 : w.cell? ⟨B, 2, none⟩ = some (.int .u64 (sz : Int)) := block_cell h1 rfl
  clear h1 h2 h3
  go_enter Tryd.func84, Tryd.ntmps84
  go_wp2
  go_ret
  exact ⟨rfl, rfl⟩
theorem clear_any (B bd bs n : Nat) (ds ss : List Nat) (sz : Nat) (w : World) (h : SetAt w B bd bs n ds ss sz) :
    Calls Tryd.prog 87 #[.pointer (some ⟨B, 0, none⟩)] w fun e w' => e = .returned (.tuple #[]) ∧ SetAt w' B bd bs n ds ss 0 ∧ Mod (fun k => k = B ∨ k = bd ∨ k = bs) w w' := by
  have ⟨hb1, hb2⟩ := h.neB
  obtain ⟨h1, h2, h3, hdl, hsl, hne⟩ := h
  have k2 : w.cell? ⟨B, 2, none⟩ = some (.int .u64 (sz : Int)) := block_cell h1 rfl
  have f2 : w.frozen? ⟨B, 2, none⟩ = false := block_free h1
  have H1 := Lib.hid h1
  have H2 := Lib.hid h2
  have H3 := Lib.hid h3
  clear h1 h2 h3
  go_enter Tryd.func87, Tryd.ntmps87
  go_wp2
  go_end0
  exact ⟨rfl, ⟨block_set H1.out, block_set_ne H2.out hb1, block_set_ne H3.out hb2, hdl, hsl, hne⟩, (Mod.refl (fun k => k = B ∨ k = bd ∨ k = bs) w).setCell (p := ⟨B, 2, none⟩) (fun _ => Or.inl rfl) _⟩

/-! ### What the steps do to the set -/
theorem isSet_new (n : Nat) : IsSet n (List.replicate n 0) (List.replicate n 0) 0 [] :=
  ⟨rfl, List.nodup_nil, by simp, Nat.zero_le _, by simp, by simp, fun x hx => by
    have := List.eq_of_mem_replicate hx; subst this; rcases Nat.eq_zero_or_pos n with h | h
    · subst h; simp at hx
    · exact h, by simp, by simp⟩
theorem IsSet.clear {n : Nat} {ds ss : List Nat} {sz : Nat} {l : List Nat} (h : IsSet n ds ss sz l) : IsSet n ds ss 0 [] :=
  ⟨rfl, List.nodup_nil, by simp, Nat.zero_le _, h.dl, h.sl, h.slt, by simp, by simp⟩
/-- Different numbers below n are at most n. -/
theorem nodup_le {n : Nat} {l : List Nat} (h : l.Nodup) (hl : ∀ x ∈ l, x < n) : l.length ≤ n := by
  induction n generalizing l with
  | zero =>
    cases l with
    | nil => simp
    | cons x r => exact absurd (hl x (by simp)) (by omega)
  | succ n ih =>
    have h1 : (l.erase n).Nodup := h.erase n
    have h2 : ∀ x ∈ l.erase n, x < n := by
      intro x hx
      have := hl x (List.mem_of_mem_erase hx)
      have hne : x ≠ n := by
        intro e; subst e
        exact absurd hx (h.not_mem_erase)
      omega
    have h3 := ih h1 h2
    have h4 := List.length_erase (a := n) (l := l)
    split at h4 <;> omega
theorem IsSet.room {n : Nat} {ds ss : List Nat} {sz : Nat} {l : List Nat} (h : IsSet n ds ss sz l) {x : Nat} (hx : x < n) (hm : x ∉ l) : sz < n := by
  have := nodup_le (n := n) (l := x :: l) (List.nodup_cons.2 ⟨hm, h.nd⟩) (fun y hy => by
    rcases List.mem_cons.1 hy with rfl | hy
    · exact hx
    · exact h.lt y hy)
  simp at this
  have := h.len
  omega
theorem IsSet.add {n : Nat} {ds ss : List Nat} {sz : Nat} {l : List Nat} (h : IsSet n ds ss sz l) {x : Nat} (hx : x < n) (hm : x ∉ l) : IsSet n (ds.set sz x) (ss.set x sz) (sz + 1) (l ++ [x]) := by
  have hr := h.room hx hm
  refine ⟨by simp [h.len], ?_, ?_, hr, by simp [h.dl], by simp [h.sl], ?_, ?_, ?_⟩
  · rw [List.nodup_append]
    exact ⟨h.nd, by simp, fun a ha b hb e => by simp at hb; subst hb; subst e; exact hm ha⟩
  · intro y hy
    rcases List.mem_append.1 hy with hy | hy
    · exact h.lt y hy
    · simp at hy; omega
  · intro y hy
    rcases List.mem_or_eq_of_mem_set hy with hy | hy
    · exact h.slt y hy
    · omega
  · rw [← h.pre]
    rw [List.take_succ_eq_append_getElem (by simp [h.dl]; exact hr)]
    simp [List.take_set_of_le]
  · intro i y hi
    by_cases e : i < l.length
    · rw [List.getElem?_append_left e] at hi
      have hy : y ≠ x := fun e => hm (by rw [← e]; exact List.mem_of_getElem? hi)
      rw [List.getElem?_set_ne (fun e => hy e.symm)]
      exact h.back i y hi
    · rw [List.getElem?_append_right (by omega)] at hi
      have : i = l.length := by
        have := (List.getElem?_eq_some_iff.1 hi).1
        simp at this; omega
      subst this
      simp at hi
      subst hi
      rw [List.getElem?_set_self (by rw [h.sl]; exact hx), h.len]
end Go.Proofs.YtnpchkohfomagaaDoor.Sparse
