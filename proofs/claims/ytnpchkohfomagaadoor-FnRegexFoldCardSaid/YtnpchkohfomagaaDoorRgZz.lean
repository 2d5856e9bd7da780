/- The automaton of instructions: ZzBuild; an error as a number. -/
import Derived.Test.YtnpchkohfomagaaDoorRgNew
import Derived.LaidEql
namespace Go.Proofs.YtnpchkohfomagaaDoor.Rgw
open Go.ChangeShapes Go.WideShapes Go.ChangeAt Go.RowKit Go.Trav Go.Pk Go.Rg Go.Maps Go.Proofs.YtnpchkohfomagaaDoor.Sparse
set_option linter.unusedVariables false
set_option linter.unusedSimpArgs false
set_option maxRecDepth 100000
/-- The package's errors, each a pointer of its own. -/
structure Errs (w : World) (a0 a1 a2 a3 a4 : Addr) : Prop where
  h0 : w.cell? ⟨0, 0, none⟩ = some (.iface 211 (.pointer (some a0)))
  h1 : w.cell? ⟨1, 0, none⟩ = some (.iface 211 (.pointer (some a1)))
  h2 : w.cell? ⟨2, 0, none⟩ = some (.iface 211 (.pointer (some a2)))
  h3 : w.cell? ⟨3, 0, none⟩ = some (.iface 211 (.pointer (some a3)))
  h4 : w.cell? ⟨4, 0, none⟩ = some (.iface 211 (.pointer (some a4)))
  n0 : a4 ≠ a0
  n1 : a4 ≠ a1
  n2 : a4 ≠ a2
  n3 : a4 ≠ a3
  bl : ∀ a ∈ [a0, a1, a2, a3, a4], ∃ c T, w.heap[a.block]? = some (.cells c T (0, 0))
theorem Errs.mod {w w' : World} {a0 a1 a2 a3 a4 : Addr} (h : Errs w a0 a1 a2 a3 a4) (hb : Below w.heap.size w w') : Errs w' a0 a1 a2 a3 a4 := by
  have hc : ∀ {a : Addr} {v : Value}, w.cell? a = some v → w'.cell? a = some v := fun ha => (Mod.of_below (F := fun _ => False) hb).cell ha (fun x => x)
  exact ⟨hc h.h0, hc h.h1, hc h.h2, hc h.h3, hc h.h4, h.n0, h.n1, h.n2, h.n3, fun a ha => by obtain ⟨c, T, e⟩ := h.bl a ha; exact ⟨c, T, block_below e hb (block_lt e)⟩⟩
theorem wrong_any (a0 a1 a2 a3 a4 : Addr) (w : World) (h : Errs w a0 a1 a2 a3 a4) :
    Calls Tryd.prog 35 #[.iface 211 (.pointer (some a4))] w fun e w' => e = .returned (.int .i64 5) ∧ Below w.heap.size w w' := by
  obtain ⟨h0, h1, h2, h3, h4, n0, n1, n2, n3, bl⟩ := h
  obtain ⟨i1, hi1⟩ : ∃ i, Tryd.prog.info? 211 = some i := by
    cases e : Tryd.prog.info? 211 with
    | none => exact absurd (show (Tryd.prog.info? 211).isSome = true from by kernel_rfl) (by rw [e]; simp)
    | some i => exact ⟨i, rfl⟩
  obtain ⟨i2, hi2⟩ : ∃ i, Tryd.prog.info? 213 = some i := by
    cases e : Tryd.prog.info? 213 with
    | none => exact absurd (show (Tryd.prog.info? 213).isSome = true from by kernel_rfl) (by rw [e]; simp)
    | some i => exact ⟨i, rfl⟩
  have hc1 : i1.comparable = true := by
    have h : (Tryd.prog.info? 211).map (·.comparable) = some true := by kernel_rfl
    rw [hi1] at h; simpa using h
  have hc2 : i2.size ≠ 0 := by
    have h : (Tryd.prog.info? 213).map (·.size) = some 1 := by kernel_rfl
    rw [hi2] at h
    simp at h; omega
  have hne : ∀ {b : Addr}, a4 ≠ b → b ∈ [a0, a1, a2, a3, a4] → (binOp .eql 66 (.iface 211 (.pointer (some a4))) (.iface 211 (.pointer (some b)))).run Tryd.prog w = .ok (.bool false) w := by
    intro b h hb
    obtain ⟨ca, ta, ea⟩ := bl a4 (by simp)
    obtain ⟨cb, tb, eb⟩ := bl b hb
    exact run_eql_iface_ptr_other w Tryd.underlying66 Tryd.underlying211 hi1 hc1 hi2 hc2 h ea eb
  have q0 := hne n0 (by simp)
  have q1 := hne n1 (by simp)
  have q2 := hne n2 (by simp)
  have q3 := hne n3 (by simp)
  have q4 : (binOp .eql 66 (.iface 211 (.pointer (some a4))) (.iface 211 (.pointer (some a4)))).run Tryd.prog w = .ok (.bool true) w := run_eql_iface_ptr_same w a4 Tryd.underlying66 Tryd.underlying211 hi1 hc1 hi2
  clear hne n0 n1 n2 n3 bl hi1 hi2 hc1 hc2
  go_enter Tryd.func35, Tryd.ntmps35
  go_wp2_with fail
  go_ret
  exact ⟨rfl, Below.refl _ _⟩
set_option maxHeartbeats 4000000 in
theorem zzb_any (l : List In) (pb po pc : Nat) (ev : Value) (w : World) (hs : Sound l) (h0 : 0 < l.length) (hP : PAt w pb po l w.heap.size) (hg : w.cell? ⟨4, 0, none⟩ = some ev) (hgl : 4 < w.heap.size) :
    Calls Tryd.prog 36 #[.slice (some ⟨pb, po, none⟩) l.length pc] w fun e w' => Below w.heap.size w w' ∧ ((∃ (X D : Nat) (Ks nx : List (List Nat)), e = .returned (.tuple #[.pointer (some ⟨X, 0, none⟩), .nilIface]) ∧ w'.cell? ⟨X, 1, none⟩ = some (.pointer (some ⟨D, 0, none⟩)) ∧ Made l Ks nx ∧ (∀ r ∈ nx, ∀ n ∈ r, n ≤ Ks.length) ∧ Ks.length ≤ 20000 ∧ ∃ base U M pv sv kv sts, BI w' base U D M pv sv kv sts l Ks nx) ∨
      (∃ X : Nat, e = .returned (.tuple #[.pointer (some ⟨X, 0, none⟩), ev]) ∧ Many l)) := by
  have hnb := newB_any l w.heap.size pb po pc w hP (Nat.le_refl _)
  have HG := Lib.hid hg
  have HS := Lib.hid hs
  clear hP hg hs
  go_enter Tryd.func36, Tryd.ntmps36
  go_wp2_with fail
  refine hnb.mono ?_
  rintro e w1 ⟨U, D, M, sv, sts, rfl, hF, hm1⟩
  have hg1 := hm1.cell HG.out (fun h => h)
  have hbu := build_any l w.heap.size w.heap.size U D M pb po pc sv sts ev w1 HS.out h0 hF hg1 hgl
  have HM1 := Lib.hid hm1
  have HBU := Lib.hid hbu
  clear hF hm1 hg1 hbu hnb
  go_wp2_with fail
  refine HBU.out.mono ?_
  rintro e w2 ⟨hb2, ⟨Ks, nx, rfl, hmd, hrow, hK, sv', kv', sts', hBI⟩ | ⟨rfl, h6⟩⟩
  · have HX := Lib.hid (And.intro hb2 (And.intro hmd (And.intro hrow (And.intro hK hBI))))
    clear hb2 hmd hrow hK hBI
    go_wp2_with fail
    go_ret2
    obtain ⟨hb2, hmd, hrow, hK, hBI⟩ := HX.out
    have hsz : w.heap.size ≤ w2.heap.size := by have := HM1.out.size; have := hb2.size; omega
    have hbw : Below w.heap.size w w2 := (HM1.out.toBelow (Nat.le_refl _) fun _ _ h => h.elim).trans hb2
    refine ⟨hbw.alloc hsz _, Or.inl ⟨w2.heap.size, D, Ks, nx, rfl, block_cell (heap_alloc_new w2 _) rfl, hmd, hrow, hK, _, _, _, _, _, _, _, hBI.mod ((Mod.refl (fun _ => False) w2).alloc _) fun _ _ h => h⟩⟩
  · have HX := Lib.hid (And.intro hb2 h6)
    clear hb2 h6
    go_wp2_with fail
    go_ret2
    obtain ⟨hb2, h6⟩ := HX.out
    have hsz : w.heap.size ≤ w2.heap.size := by have := HM1.out.size; have := hb2.size; omega
    have hbw : Below w.heap.size w w2 := (HM1.out.toBelow (Nat.le_refl _) fun _ _ h => h.elim).trans hb2
    exact ⟨hbw.alloc hsz _, Or.inr ⟨w2.heap.size, rfl, h6⟩⟩
end Go.Proofs.YtnpchkohfomagaaDoor.Rgw
