/- registry.hash: its contract. -/
import Derived.Test.YtanimdajohpggaaNode2
import Derived.Deep.RegionHeld3
namespace Go.Proofs.Ytanimdajohpggaa.Node
open Go.ChangeShapes Go.WideShapes Go.ChangeAt Go.RowKit Go.Trav Go.Sort
set_option linter.unusedVariables false
def mixF (h x : Int) : Int := IntKind.u64.wrap (bits .xor .u64 h x * 1099511628211)
def armix (h : Int) (x : Arc) : Int := mixF (mixF (mixF h (IntKind.u64.wrap x.1)) x.2.1) (IntKind.u64.wrap x.2.2)
def hfold (h : Int) (l : List Arc) : Int := l.foldl armix h
def hbase (f : Int) (o : Int) : Int := mixF (mixF 14695981039346656037 f) o
def hrow (rows : Nat) (f : Bool) (o : Int) (l : List Arc) : Nat := ((hfold (hbase (bif f then 1 else 0) o) l) % (rows : Int)).toNat
theorem mixF_pos (h x : Int) : 0 ≤ mixF h x := wrap_u64_nonneg _
theorem hfold_pos (h : Int) (hh : 0 ≤ h) (l : List Arc) : 0 ≤ hfold h l := by
  induction l generalizing h with
  | nil => exact hh
  | cons x r ih => exact ih _ (mixF_pos _ _)
theorem hfold_snoc (h : Int) (l : List Arc) (x : Arc) : hfold h (l ++ [x]) = armix (hfold h l) x := by simp [hfold]
theorem hrow_lt (rows : Nat) (h1 : 1 ≤ rows) (f : Bool) (o : Int) (l : List Arc) : hrow rows f o l < rows := by
  have := Int.emod_lt_of_pos (hfold (hbase (bif f then 1 else 0) o) l) (show (0 : Int) < rows by omega)
  have := Int.emod_nonneg (hfold (hbase (bif f then 1 else 0) o) l) (show (rows : Int) ≠ 0 by omega)
  unfold hrow
  omega
theorem hrow_val (rows : Nat) (h1 : 1 ≤ rows) (h2 : rows ≤ 1000) (f : Bool) (o : Int) (l : List Arc) :
    wrap64 ((hfold (hbase (bif f then 1 else 0) o) l).tmod (rows : Int)) = (hrow rows f o l : Int) := by
  have a : 0 ≤ hfold (hbase (bif f then 1 else 0) o) l := hfold_pos _ (mixF_pos (mixF 14695981039346656037 (bif f then 1 else 0)) o) l
  have b := Int.emod_lt_of_pos (hfold (hbase (bif f then 1 else 0) o) l) (show (0 : Int) < rows by omega)
  have c := Int.emod_nonneg (hfold (hbase (bif f then 1 else 0) o) l) (show (rows : Int) ≠ 0 by omega)
  rw [Int.tmod_eq_emod_of_nonneg a]
  have e : (hfold (hbase (bif f then 1 else 0) o) l % (rows : Int)) = (hrow rows f o l : Int) := by unfold hrow; omega
  rw [e]
  have := hrow_lt rows h1 f o l
  unfold wrap64
  omega
theorem hash_any (R B rows : Nat) (v : Value) (f : Bool) (o : Int) (l : List Arc) (w : World) (h : NodeAt w B v f o l) (hr : w.cell? ⟨R, 2, none⟩ = some (.int .u64 rows)) (h1 : 1 ≤ rows) (h2 : rows ≤ 1000) :
    Calls Try.prog 60 #[.pointer (some ⟨R, 0, none⟩), .pointer (some ⟨B, 0, none⟩)] w fun e w' => e = .returned (.int .i64 (hrow rows f o l : Int)) ∧ Below w.heap.size w w' := by
  obtain ⟨nx, hb, hrd⟩ := h.at
  have hbd := hrd.bound
  obtain ⟨ao, cap, rfl⟩ := hrd.form
  have x0 : w.cell? ⟨B, 0, none⟩ = some (.int .u64 o) := block_cell hb rfl
  have x1 : w.cell? ⟨B, 1, none⟩ = some (.slice ao l.length cap) := block_cell hb rfl
  have x2 : w.cell? ⟨B, 2, none⟩ = some (.bool f) := block_cell hb rfl
  have HB := Lib.hid hb
  have HR := Lib.hid hrd
  clear hb hrd
  have hz : ¬ ((rows : Int) = 0) := by omega
  have hz' : ((rows : Int) == 0) = false := beq_eq_false_iff_ne.2 hz
  have HV := Lib.hid (hrow_val rows h1 h2 f o l)
  cases f
  · go_enter Try.func60, Try.ntmps60
    go_wp2
    go_loopw [6, 29] (fun hh i wr => ∃ k : Nat, i = .int .i64 k ∧ (k ≤ l.length) ∧ Below w.heap.size w wr ∧ hh = .int .u64 (hfold (hbase (bif false then 1 else 0) o) (l.take k))) (fun _ i _ => l.length - (intOf i).toNat)
    case atStart => exact ⟨0, rfl, by omega, Below.refl _ _, by simp only [List.take_zero]; rfl⟩
    case round =>
      obtain ⟨k, rfl, hk, hbw, rfl⟩ := hrel
      by_cases hlt : k < l.length
      · obtain ⟨b, off, _, i1, o1, t1, hx, e1, c10, c11, c12⟩ := trns_at (HR.out.below hbw) hlt
        cases hx
        have E1 := Lib.hid e1
        clear e1
        go_wp2
        go_roundw
        case rel => 
          refine ⟨k + 1, by go_num, by omega, (hbw.alloc hbw.size _), ?_⟩
          rw [take_snoc' _ _ _ E1.out, hfold_snoc]
          rfl
        case measure => simp [intOf]; omega
      · have z1 : wr.cell? ⟨R, 2, none⟩ = some (.int .u64 rows) := by rw [hbw.cell (World.block_lt_of_cell? w _ hr)]; exact hr
        have ek : l.take k = l := List.take_of_length_le (by omega)
        rw [ek]
        go_wp2
        go_ret
        refine ⟨?_, hbw⟩
        have hv := HV.out
        simp only [Bool.cond_true, Bool.cond_false] at hv
        simp [hv]
  · go_enter Try.func60, Try.ntmps60
    go_wp2
    go_loopw [6, 29] (fun hh i wr => ∃ k : Nat, i = .int .i64 k ∧ (k ≤ l.length) ∧ Below w.heap.size w wr ∧ hh = .int .u64 (hfold (hbase (bif true then 1 else 0) o) (l.take k))) (fun _ i _ => l.length - (intOf i).toNat)
    case atStart => exact ⟨0, rfl, by omega, Below.refl _ _, by simp only [List.take_zero]; rfl⟩
    case round =>
      obtain ⟨k, rfl, hk, hbw, rfl⟩ := hrel
      by_cases hlt : k < l.length
      · obtain ⟨b, off, _, i1, o1, t1, hx, e1, c10, c11, c12⟩ := trns_at (HR.out.below hbw) hlt
        cases hx
        have E1 := Lib.hid e1
        clear e1
        go_wp2
        go_roundw
        case rel => 
          refine ⟨k + 1, by go_num, by omega, (hbw.alloc hbw.size _), ?_⟩
          rw [take_snoc' _ _ _ E1.out, hfold_snoc]
          rfl
        case measure => simp [intOf]; omega
      · have z1 : wr.cell? ⟨R, 2, none⟩ = some (.int .u64 rows) := by rw [hbw.cell (World.block_lt_of_cell? w _ hr)]; exact hr
        have ek : l.take k = l := List.take_of_length_le (by omega)
        rw [ek]
        go_wp2
        go_ret
        refine ⟨?_, hbw⟩
        have hv := HV.out
        simp only [Bool.cond_true, Bool.cond_false] at hv
        simp [hv]
end Go.Proofs.Ytanimdajohpggaa.Node
