/- bytes.Buffer, written alone, with its row by name: what Write does, and what it leaves. -/
import Derived.Test.YtkbonmjbfpdchaaDoorLib2
import Derived.Test.YtkbonmjbfpdchaaDoorShB
import Derived.Laws.IdiomCopy
import Derived.Lib.BufferWrite
import Derived.Deep.RegionHeld3
import Derived.Deep.DrawnRows
import Derived.BigGuard
import Derived.Deep.DeepCutAuto
import Derived.WalkSpells
import Derived.Deep.QuietTactic
import Derived.BigQuiet
namespace Go.Proofs.YtkbonmjbfpdchaaDoor.Buf
open Go.ChangeShapes Go.WideShapes Go.ChangeAt Go.RowKit Go.Trav
set_option linter.unusedVariables false
set_option maxRecDepth 100000
attribute [local go_sem ↓] Go.wp_at_zero Go.wp_at_succ
/-- A bytes.Buffer in block b that has only been written: it holds bs, in the row v (nil, or a block of its own). -/
structure Is (w : World) (b : Nat) (v : Value) (bs : List Value) : Prop where
  blk : ∃ lr, w.heap[b]? = some (.cells #[v, .int .i64 0, .int .i8 lr] 97 (0, 0))
  row : w.ownsRow 0 5 1 v bs.length bs
  ex : v = .slice none 0 0 ∨ 1 ≤ bs.length
  ne : v.ownBlock ≠ some b
/-- Room has been made for n bytes behind bs: block b's slice has them, in a new row. -/
def Room (w w' : World) (b l n : Nat) (lr : Int) (bs : List Value) : Prop :=
  ∃ g cap cells, w'.heap[b]? = some (.cells #[.slice (some ⟨g, 0, none⟩) (l + n) cap, .int .i64 0, .int .i8 lr] 97 (0, 0)) ∧ w'.heap[g]? = some (.cells cells 5 (0, 0)) ∧ cells.size = cap ∧ l + n ≤ cap ∧ cap ≤ maxLen ∧
    cells.toList.take l = bs ∧ w.heap.size ≤ g ∧ Mod (fun k => k = b) w w'
/-- The new row, before its slice has its length. -/
def Grown (w w' : World) (b g l n : Nat) (lr : Int) (bs : List Value) : Prop :=
  ∃ cap cells, w'.heap[b]? = some (.cells #[.slice (some ⟨g, 0, none⟩) l cap, .int .i64 0, .int .i8 lr] 97 (0, 0)) ∧ w'.heap[g]? = some (.cells cells 5 (0, 0)) ∧ cells.size = cap ∧ l + n ≤ cap ∧ cap ≤ maxLen ∧
    cells.toList.take l = bs ∧ w.heap.size ≤ g ∧ Mod (fun k => k = b) w w'
theorem Grown.mk {w w2 : World} {b g l n cap k : Nat} {lr : Int} {bs : List Value} {x : Value} {cells : Array Value} (hb : w2.heap[b]? = some (.cells #[x, .int .i64 0, .int .i8 lr] 97 (0, 0))) (hg : w2.heap[g]? = some (.cells cells 5 (0, 0))) (hs : cells.size = cap) (hn : l + n ≤ cap) (hm : cap ≤ maxLen)
    (ht : cells.toList.take l = bs) (hw : w.heap.size ≤ g) (hbw : b < w.heap.size) (h : Below (w.drewN k).heap.size (w.drewN k) w2) : Grown w (w2.setCell ⟨b, 0, none⟩ (.slice (some ⟨g, 0, none⟩) l cap)) b g l n lr bs := by
  refine ⟨cap, cells, ?_, block_set_ne hg (by simp; omega), hs, hn, hm, ht, hw, Mod.setCell (F := fun k => k = b) (((Mod.refl _ _).drewN k).below h) (p := ⟨b, 0, none⟩) (fun _ => rfl) _⟩
  rw [block_set hb]
  rfl
theorem Grown.room {w w2 : World} {b g l n : Nat} {lr : Int} {bs : List Value} {cap : Nat} {cells : Array Value} (hb : w2.heap[b]? = some (.cells #[.slice (some ⟨g, 0, none⟩) l cap, .int .i64 0, .int .i8 lr] 97 (0, 0))) (hg : w2.heap[g]? = some (.cells cells 5 (0, 0))) (hs : cells.size = cap) (hn : l + n ≤ cap) (hm : cap ≤ maxLen)
    (ht : cells.toList.take l = bs) (hw : w.heap.size ≤ g) (hbw : b < w.heap.size) (h : Mod (fun k => k = b) w w2) :
    Room w ((w2.setCell ⟨b, 1, none⟩ (.int .i64 0)).setCell ⟨b, 0, none⟩ (.slice (some ⟨g, 0, none⟩) (l + n) cap)) b l n lr bs := by
  refine ⟨g, cap, cells, ?_, block_set_ne (block_set_ne hg (by simp; omega)) (by simp; omega), hs, hn, hm, ht, hw, (h.setCell (p := ⟨b, 1, none⟩) (fun _ => rfl) _).setCell (p := ⟨b, 0, none⟩) (fun _ => rfl) _⟩
  rw [block_set (block_set hb)]
  rfl
theorem Tryd.info5 : (Tryd.prog.info? 5).map (fun i => (i.zero, i.size, i.bytes)) = some (some (.int .u8 0), 1, 1) := by kernel_rfl
theorem len_any (b : Nat) (ao : Option Addr) (l c : Nat) (w : World) (c0 : w.cell? ⟨b, 0, none⟩ = some (.slice ao l c)) (c1 : w.cell? ⟨b, 1, none⟩ = some (.int .i64 0)) (hl : l ≤ 4294967296) :
    Calls Tryd.prog 130 #[.pointer (some ⟨b, 0, none⟩)] w fun e w' => e = .returned (.int .i64 l) ∧ ∃ k, w' = w.drewN k := by
  go_enter Tryd.func130, Tryd.ntmps130
  go_wp2_with fail
  go_quiet (fail)
  go_wp2_with fail
  go_ret
  exact ⟨rfl, _, rfl⟩
set_option maxHeartbeats 2000000 in
theorem grow_nil (b n : Nat) (lr : Int) (w : World) (h : w.heap[b]? = some (.cells #[.slice none 0 0, .int .i64 0, .int .i8 lr] 97 (0, 0))) (h1 : 1 ≤ n) (h2 : n ≤ 4294967296) :
    Calls Tryd.prog 132 #[.pointer (some ⟨b, 0, none⟩), .int .i64 n] w fun e w' => e = .returned (.int .i64 0) ∧ Room w w' b 0 n lr [] := by
  have hbl := block_lt h
  have c0 : w.cell? ⟨b, 0, none⟩ = some (.slice none 0 0) := block_cell h rfl
  have c1 : w.cell? ⟨b, 1, none⟩ = some (.int .i64 0) := block_cell h rfl
  have f0 : w.frozen? ⟨b, 0, none⟩ = false := block_free h
  have f1 : w.frozen? ⟨b, 1, none⟩ = false := block_free h
  have H := Lib.hid h
  clear h
  have hnil : ∀ W, (binOp .eql 35 (.slice none 0 0) (.slice none 0 0)).run Tryd.prog W = .ok (.bool true) W := fun W => Lib.run_eql_slice_nil_nil W _ _ Tryd.underlying35
  by_cases h64 : n ≤ 64
  · obtain ⟨i0, hi, hz0, hz1, hz2⟩ := info_parts Tryd.info5
    obtain ⟨M, hM⟩ : ∃ M, M = madeCells (Value.int .u8 0).cells ((64 : Int).toNat * i0.size) := ⟨_, rfl⟩
    have hMs : M.size = 64 := by rw [hM, size_madeCells, hz1]; rfl
    have hmk : ∀ W : World, (Instr.makeSlice 35 (.int .i64 (n : Int)) (.int .i64 64)).run Tryd.prog W = .ok (.slice (some ⟨W.heap.size, 0, none⟩) n 64) (W.alloc (.cells M 5)) := fun W => by
      have h := run_makeSlice (P := Tryd.prog) W 35 5 i0 (.int .u8 0) Tryd.underlying35 hi hz0 .i64 .i64 (n : Int) 64 (by omega) (by omega) (by rw [hz1]; decide) (by rw [hz2]; decide) (by decide)
      rw [← hM] at h
      simpa using h
    clear hM hi hz0 hz1 hz2
    go_enter Tryd.func132, Tryd.ntmps132
    go_wp2_with fail
    refine (len_any b none 0 0 _ c0 c1 (by omega)).mono ?_
    rintro e w' ⟨rfl, k, rfl⟩
    go_wp2_with fail
    refine (Tryd.Buffer_tryGrow_none b none 0 0 n (w.drewN k) c0 (Nat.le_refl _) (Nat.zero_le _) (by omega)).mono ?_
    rintro e w' ⟨rfl, rfl⟩
    have hb : ((w.drewN k).alloc (.cells M 5)).heap[b]? = some (.cells #[.slice none 0 0, .int .i64 0, .int .i8 lr] 97 (0, 0)) := block_alloc H.out
    have d0 : ((w.drewN k).alloc (.cells M 5)).cell? ⟨b, 0, none⟩ = some (.slice none 0 0) := block_cell hb rfl
    have d1 : ((w.drewN k).alloc (.cells M 5)).frozen? ⟨b, 0, none⟩ = false := block_free hb
    have HB := Lib.hid hb
    clear hb
    go_wp2
    go_ret
    refine ⟨rfl, w.heap.size, 64, M, ?_, ?_, hMs, by omega, by unfold maxLen; omega, by simp, Nat.le_refl _, ?_⟩
    · rw [block_set HB.out]
      simp
    · exact block_set_ne (heap_alloc_new (w.drewN k) _) (by simp; omega)
    · exact Mod.setCell (F := fun k => k = b) (((Mod.refl _ _).drewN k).alloc _) (p := ⟨b, 0, none⟩) (fun _ => rfl) _
  · have hwn : IntKind.i64.wrap (n : Int) = n := by rw [IntKind.wrap_i64]; omega
    have hn2 : decide ((n : Int) ≤ 64) = false := by simp; omega
    go_enter Tryd.func132, Tryd.ntmps132
    go_wp2_with fail
    refine (len_any b none 0 0 _ c0 c1 (by omega)).mono ?_
    rintro e w' ⟨rfl, k, rfl⟩
    go_wp2_with fail
    refine (Tryd.Buffer_tryGrow_none b none 0 0 n (w.drewN k) c0 (Nat.le_refl _) (Nat.zero_le _) (by omega)).mono ?_
    rintro e w' ⟨rfl, rfl⟩
    go_wp2_with fail
    go_upto_region 15 with (fail)
    go_cut [] (fun wx => Grown w wx b w.heap.size 0 n lr [])
    case first =>
      go_region_with (
        go_at_call 133
        refine (Tryd.bytes_growSlice_nil n _ h1 (by omega)).mono ?_
        rintro e w2 ⟨cap2, cells, rfl, hN, hcsz, hcap2, hcm2, hbel⟩
        have hb2 : w2.heap[b]? = some (.cells #[.slice none 0 0, .int .i64 0, .int .i8 lr] 97 (0, 0)) := (hbel.block b hbl).trans H.out
        have d0 : w2.cell? ⟨b, 0, none⟩ = some (.slice none 0 0) := block_cell hb2 rfl
        have d1 : w2.cell? ⟨b, 1, none⟩ = some (.int .i64 0) := block_cell hb2 rfl
        have e0 : w2.frozen? ⟨b, 0, none⟩ = false := block_free hb2
        have e1 : w2.frozen? ⟨b, 1, none⟩ = false := block_free hb2)
      all_goals
        (try go_wp2_with fail)
        go_meet
        exact Grown.mk hb2 hN hcsz (by omega) hcm2 (by simp) (Nat.le_refl _) hbl hbel
    case rest =>
      obtain ⟨cap, cells, hb2, hg2, hcs, hcl, hcm, hct, _, hmod⟩ := hcut
      have d0 := block_cell (i := 0) hb2 rfl
      have d1 := block_cell (i := 1) hb2 rfl
      have e0 := block_free (i := 0) hb2
      have e1 := block_free (i := 1) hb2
      have HB2 := Lib.hid hb2
      have HG2 := Lib.hid hg2
      have HS := Lib.hid hcs
      have HT := Lib.hid hct
      unfold maxLen at hcm
      clear hb2 hg2 hcs hct
      go_wp2
      go_ret
      exact ⟨rfl, by simpa using Grown.room (l := 0) (n := n) HB2.out HG2.out HS.out (by omega) (by unfold maxLen; omega) HT.out (Nat.le_refl _) hbl hmod⟩
set_option maxHeartbeats 8000000 in
theorem grow_row (b g l cap n : Nat) (lr : Int) (cur : Array Value) (w : World) (h : w.heap[b]? = some (.cells #[.slice (some ⟨g, 0, none⟩) l cap, .int .i64 0, .int .i8 lr] 97 (0, 0))) (hg : w.heap[g]? = some (.cells cur 5 (0, 0))) (hgb : g ≠ b)
    (hl1 : 1 ≤ l) (hl2 : l ≤ 4294967296) (hlc : l ≤ cap) (hcs : cur.size = cap) (h1 : ∀ v ∈ cur.toList.take l, v.oneCell' = true) (hn : cap - l < n) (h2 : n ≤ 4294967296) :
    Calls Tryd.prog 132 #[.pointer (some ⟨b, 0, none⟩), .int .i64 n] w fun e w' => e = .returned (.int .i64 l) ∧ Room w w' b l n lr (cur.toList.take l) := by
  have hcm : cap ≤ 8589934592 := by omega
  have hbl := block_lt h
  have c0 : w.cell? ⟨b, 0, none⟩ = some (.slice (some ⟨g, 0, none⟩) l cap) := block_cell h rfl
  have c1 : w.cell? ⟨b, 1, none⟩ = some (.int .i64 0) := block_cell h rfl
  have f0 : w.frozen? ⟨b, 0, none⟩ = false := block_free h
  have f1 : w.frozen? ⟨b, 1, none⟩ = false := block_free h
  have H := Lib.hid h
  have HG := Lib.hid hg
  have H1 := Lib.hid h1
  clear h hg h1
  have hnil : ∀ W, (binOp .eql 35 (.slice (some ⟨g, 0, none⟩) l cap) (.slice none 0 0)).run Tryd.prog W = .ok (.bool false) W := fun W => by
    simp [Lib.run_eql_slice_nil, Tryd.underlying35]
  have hm1 : (0 : Int) ≤ cap / 2 := by omega
  have hq : decide ((n : Int) ≤ cap / 2 - l) = false := by simp; omega
  have hwn : IntKind.i64.wrap (n : Int) = n := by rw [IntKind.wrap_i64]; omega
  have hb0 : ((l : Int) == 0) = false := (beq_eq_false_iff_ne.2 (by omega))
  go_enter Tryd.func132, Tryd.ntmps132
  go_wp2_with fail
  refine (len_any b _ l cap _ c0 c1 (by omega)).mono ?_
  rintro e w' ⟨rfl, k, rfl⟩
  go_wp2_with fail
  refine (Tryd.Buffer_tryGrow_none b _ l cap n (w.drewN k) c0 hlc (by unfold maxLen; omega) hn).mono ?_
  rintro e w' ⟨rfl, rfl⟩
  go_upto_region 15 with (fail)
  go_cut [] (fun wx => Grown w wx b w.heap.size l n lr (cur.toList.take l))
  case first =>
    go_region_with (
      go_at_call 133
      refine (Tryd.bytes_growSlice_row g l cap n cur _ ?_ hcs hlc (by omega) (by omega) (by omega) H1.out).mono ?_
      exact HG.out
      rintro e w2 ⟨cap2, cells, rfl, hN, hcsz, hct, hcap2, hcm2, hbel⟩
      have hb2 : w2.heap[b]? = some (.cells #[.slice (some ⟨g, 0, none⟩) l cap, .int .i64 0, .int .i8 lr] 97 (0, 0)) := (hbel.block b hbl).trans H.out
      have d0 : w2.cell? ⟨b, 0, none⟩ = some (.slice (some ⟨g, 0, none⟩) l cap) := block_cell hb2 rfl
      have d1 : w2.cell? ⟨b, 1, none⟩ = some (.int .i64 0) := block_cell hb2 rfl
      have e0 : w2.frozen? ⟨b, 0, none⟩ = false := block_free hb2
      have e1 : w2.frozen? ⟨b, 1, none⟩ = false := block_free hb2)
    all_goals
      (try go_wp2_with fail)
      go_meet
      exact Grown.mk hb2 hN hcsz (by omega) hcm2 hct (Nat.le_refl _) hbl hbel
  case rest =>
    obtain ⟨cap, cells, hb2, hg2, hcs, hcl, hcm, hct, _, hmod⟩ := hcut
    have d0 := block_cell (i := 0) hb2 rfl
    have d1 := block_cell (i := 1) hb2 rfl
    have e0 := block_free (i := 0) hb2
    have e1 := block_free (i := 1) hb2
    have HB2 := Lib.hid hb2
    have HG2 := Lib.hid hg2
    have HS := Lib.hid hcs
    have HT := Lib.hid hct
    unfold maxLen at hcm
    clear hb2 hg2 hcs hct
    go_wp2
    go_ret
    exact ⟨rfl, Grown.room HB2.out HG2.out HS.out (by omega) (by unfold maxLen; omega) HT.out (Nat.le_refl _) hbl hmod⟩
end Go.Proofs.YtkbonmjbfpdchaaDoor.Buf
