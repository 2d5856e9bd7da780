/- FnRegexRefused: what the law rests on. -/
import Derived.Test.YtnpchkohfomagaaDoorRgJ2
import Derived.Test.YtnpchkohfomagaaDoorRgEp
import Derived.Test.YtnpchkohfomagaaDoorRgJ5
import Derived.Deep.RegionWith
import Derived.Laws.Tables
namespace Go.Proofs.YtnpchkohfomagaaDoor.Rgy
open Go.ChangeShapes Go.WideShapes Go.ChangeAt Go.RowKit Go.Trav Go.Rg Go.Utf Go.Proofs.YtnpchkohfomagaaDoor.Seq Go.Proofs.YtnpchkohfomagaaDoor.Sparse Go.Proofs.YtnpchkohfomagaaDoor.Rgw
set_option linter.unusedVariables false
set_option linter.unusedSimpArgs false
set_option maxRecDepth 100000
/-- The rows of wrong nodes, and what is said of them. -/
def arrC (S : Nat) : List Value :=
  [.int .i64 14, .slice none 0 0, .int .i64 0, .int .i64 0, .bool true, .bool false, .slice (some ⟨S + 1, 0, none⟩) 1 1,
   .int .i64 9, .slice none 0 0, .int .i64 0, .int .i64 0, .bool false, .bool false, .slice none 0 0,
   .int .i64 10, .slice none 0 0, .int .i64 0, .int .i64 0, .bool false, .bool false, .slice none 0 0,
   .int .i64 7, .slice none 0 0, .int .i64 0, .int .i64 0, .bool false, .bool false, .slice none 0 0,
   .int .i64 8, .slice none 0 0, .int .i64 0, .int .i64 0, .bool false, .bool false, .slice none 0 0,
   .int .i64 11, .slice none 0 0, .int .i64 0, .int .i64 0, .bool false, .bool false, .slice none 0 0,
   .int .i64 12, .slice none 0 0, .int .i64 0, .int .i64 0, .bool false, .bool false, .slice none 0 0]
def kndC : List Value := [.int .i64 1, .int .i64 2, .int .i64 2, .int .i64 2, .int .i64 2, .int .i64 3, .int .i64 3]
theorem lazy_rx {W : World} {S N : Nat} (h0 : W.heap[S]? = some (.cells #[.int .i32 97] 21 (0, 0))) (h1 : W.heap[S + 1]? = some (.cells #[.int .i64 3, .slice (some ⟨S, 0, none⟩) 1 1, .int .i64 0, .int .i64 0, .bool false, .bool false, .slice none 0 0] 35 (0, 0))) (hN : S + 1 < N) :
    RxI W (fun g => g < N) 2 lazyT [.int .i64 14, .slice none 0 0, .int .i64 0, .int .i64 0, .bool true, .bool false, .slice (some ⟨S + 1, 0, none⟩) 1 1] := by
  have hlit : RxI W (fun g => g < N) 1 (.mk 3 false false [97] 0 0 []) [.int .i64 3, .slice (some ⟨S, 0, none⟩) 1 1, .int .i64 0, .int .i64 0, .bool false, .bool false, .slice none 0 0] := by
    refine runes_fin (rv := .slice (some ⟨S, 0, none⟩) 1 1) (zs := [97]) 3 (by omega) ⟨some ⟨S, 0, none⟩, 1, rfl, by simp, by unfold maxLen; simp, fun h => by simp at h, rfl, fun _ => ⟨S, 0, rfl, fun j u hj => block_cell h0 ?_⟩⟩ (fun g hg => ?_) (by simp) 0
    · rw [Nat.zero_add]; simpa [rV] using hj
    · have : S = g := by simpa [Value.ownBlock] using hg
      omega
  refine ⟨.slice none 0 0, .slice (some ⟨S + 1, 0, none⟩) 1 1, [[.int .i64 3, .slice (some ⟨S, 0, none⟩) 1 1, .int .i64 0, .int .i64 0, .bool false, .bool false, .slice none 0 0]], rfl, ⟨by decide, by decide, by simp⟩, ⟨reads_of_owns (World.ownsRow_nil W 0 21 1), fun g hg => by simp [Value.ownBlock] at hg⟩, rfl,
    ⟨⟨some ⟨S + 1, 0, none⟩, 1, rfl, by simp, by unfold maxLen; simp, fun h => by simp at h, rfl, fun _ => ⟨S + 1, 0, rfl, fun j u hj => block_cell h1 ?_⟩⟩, fun g hg => ?_⟩, fun c hc => ?_, fun i c s hc hs => ?_⟩
  · rw [Nat.zero_add]; simpa using hj
  · have : S + 1 = g := by simpa [Value.ownBlock] using hg
    omega
  · simp at hc; subst hc; rfl
  · match i, hc, hs with
    | 0, hc, hs =>
      have e1 : c = _ := (by simpa using hc.symm)
      have e2 : s = _ := (by simpa [lazyT, Tr.subs] using hs.symm)
      subst e1 e2
      exact hlit
    | i + 1, hc, _ => simp at hc
theorem table {W : World} {S N A K a : Nat} {Ta Tk : TypeId} (ha : a < 7) (h0 : W.heap[S]? = some (.cells #[.int .i32 97] 21 (0, 0))) (h1 : W.heap[S + 1]? = some (.cells #[.int .i64 3, .slice (some ⟨S, 0, none⟩) 1 1, .int .i64 0, .int .i64 0, .bool false, .bool false, .slice none 0 0] 35 (0, 0))) (hN : S + 1 < N)
    (hA : W.heap[A]? = some (.cells (arrC S).toArray Ta (0, 0))) (hK : W.heap[K]? = some (.cells kndC.toArray Tk (0, 0))) :
    ∃ (bt : Tr) (k : Nat) (o : Int) (lz : Bool) (sv : Value), BadT bt k ∧ 1 ≤ k ∧ k ≤ 3 ∧ (∃ x n c, sv = .slice x n c) ∧ RxI W (fun g => g < N) 2 bt [.int .i64 o, .slice none 0 0, .int .i64 0, .int .i64 0, .bool lz, .bool false, sv] ∧ W.cell? ⟨K, a, none⟩ = some (.int .i64 (k : Int)) ∧
      W.cell? ⟨A, a * 7, none⟩ = some (.int .i64 o) ∧ W.cell? ⟨A, a * 7 + 1, none⟩ = some (.slice none 0 0) ∧ W.cell? ⟨A, a * 7 + 2, none⟩ = some (.int .i64 0) ∧ W.cell? ⟨A, a * 7 + 3, none⟩ = some (.int .i64 0) ∧ W.cell? ⟨A, a * 7 + 4, none⟩ = some (.bool lz) ∧ W.cell? ⟨A, a * 7 + 5, none⟩ = some (.bool false) ∧ W.cell? ⟨A, a * 7 + 6, none⟩ = some sv := by
  have hend : ∀ o : Nat, o < 256 → RxI W (fun g => g < N) 2 (endT o) [.int .i64 (o : Int), .slice none 0 0, .int .i64 0, .int .i64 0, .bool false, .bool false, .slice none 0 0] := fun o ho => leaf_fin W _ o ho 1
  obtain rfl | rfl | rfl | rfl | rfl | rfl | rfl : a = 0 ∨ a = 1 ∨ a = 2 ∨ a = 3 ∨ a = 4 ∨ a = 5 ∨ a = 6 := by omega
  · exact ⟨lazyT, 1, 14, true, _, badT_lazy, by omega, by omega, ⟨_, _, _, rfl⟩, lazy_rx h0 h1 hN, block_cell hK rfl, block_cell hA rfl, block_cell hA rfl, block_cell hA rfl, block_cell hA rfl, block_cell hA rfl, block_cell hA rfl, block_cell hA rfl⟩
  · exact ⟨endT 9, 2, 9, false, _, badT_end 9 2 (by omega), by omega, by omega, ⟨_, _, _, rfl⟩, hend 9 (by omega), block_cell hK rfl, block_cell hA rfl, block_cell hA rfl, block_cell hA rfl, block_cell hA rfl, block_cell hA rfl, block_cell hA rfl, block_cell hA rfl⟩
  · exact ⟨endT 10, 2, 10, false, _, badT_end 10 2 (by omega), by omega, by omega, ⟨_, _, _, rfl⟩, hend 10 (by omega), block_cell hK rfl, block_cell hA rfl, block_cell hA rfl, block_cell hA rfl, block_cell hA rfl, block_cell hA rfl, block_cell hA rfl, block_cell hA rfl⟩
  · exact ⟨endT 7, 2, 7, false, _, badT_end 7 2 (by omega), by omega, by omega, ⟨_, _, _, rfl⟩, hend 7 (by omega), block_cell hK rfl, block_cell hA rfl, block_cell hA rfl, block_cell hA rfl, block_cell hA rfl, block_cell hA rfl, block_cell hA rfl, block_cell hA rfl⟩
  · exact ⟨endT 8, 2, 8, false, _, badT_end 8 2 (by omega), by omega, by omega, ⟨_, _, _, rfl⟩, hend 8 (by omega), block_cell hK rfl, block_cell hA rfl, block_cell hA rfl, block_cell hA rfl, block_cell hA rfl, block_cell hA rfl, block_cell hA rfl, block_cell hA rfl⟩
  · exact ⟨endT 11, 3, 11, false, _, badT_end 11 3 (by omega), by omega, by omega, ⟨_, _, _, rfl⟩, hend 11 (by omega), block_cell hK rfl, block_cell hA rfl, block_cell hA rfl, block_cell hA rfl, block_cell hA rfl, block_cell hA rfl, block_cell hA rfl, block_cell hA rfl⟩
  · exact ⟨endT 12, 3, 12, false, _, badT_end 12 3 (by omega), by omega, by omega, ⟨_, _, _, rfl⟩, hend 12 (by omega), block_cell hK rfl, block_cell hA rfl, block_cell hA rfl, block_cell hA rfl, block_cell hA rfl, block_cell hA rfl, block_cell hA rfl, block_cell hA rfl⟩
theorem ints_arg {H : Type} {enc : TypeId × Value → H} {w : World} {spare : Nat → Bool} {held : Bool} {v : Value} {d : DataW H} {ps : List MemPlace} {r : Reach} {b0 : Nat} (hv : Value.okWide Tryd.prog w r b0 51 v) (h : DataW.Trod enc Tryd.prog w 0 spare held 51 v d ps) : ∃ way : List Int, Reads w v way.length 1 (way.map iZ) := by
  obtain ⟨a0, len0, cap0, e0⟩ := okWide_slice Tryd.underlying51 hv
  obtain ⟨css, m, k⟩ := slice_reads Tryd.underlying51 (s := 1) (by kernel_rfl) (by decide) e0 h (fun cs => ∃ z : Int, cs = [iZ z]) (fun n cs x hl hx => by
    match cs, hl with
    | [c], _ => obtain ⟨z, rfl, _⟩ := int_one Tryd.underlying3 hx; exact ⟨z, rfl⟩)
  have hz : ∃ l : List Int, l.length = css.length ∧ css.flatten = l.map iZ := by
    clear k e0 h hv
    induction css with
    | nil => exact ⟨[], rfl, rfl⟩
    | cons c r ih =>
      obtain ⟨l, hl, e⟩ := ih (fun x hx => m x (by simp [hx]))
      obtain ⟨_, y, rfl⟩ := m c (by simp)
      exact ⟨y :: l, by simp [hl], by simp [e]⟩
  obtain ⟨l, hl, e⟩ := hz
  rw [e, ← hl] at k
  exact ⟨l, k⟩
/-- The rows of wrong nodes in memory. -/
structure TB (S : Nat) (w6 wx : World) : Prop where
  s0 : wx.heap[S]? = some (.cells #[.int .i32 97] 21 (0, 0))
  s1 : wx.heap[S + 1]? = some (.cells #[.int .i64 3, .slice (some ⟨S, 0, none⟩) 1 1, .int .i64 0, .int .i64 0, .bool false, .bool false, .slice none 0 0] 35 (0, 0))
  s2 : wx.heap[S + 2]? = some (.cells #[.int .i64 14, .slice none 0 0, .int .i64 0, .int .i64 0, .bool true, .bool false, .slice (some ⟨S + 1, 0, none⟩) 1 1] 35 (0, 0))
  bl : Below w6.heap.size w6 wx
  sz : wx.heap.size = S + 3
theorem TB.start (w6 : World) : TB w6.heap.size w6 (((w6.alloc (.cells #[.int .i32 97] 21)).alloc (.cells #[.int .i64 3, .slice (some ⟨w6.heap.size, 0, none⟩) 1 1, .int .i64 0, .int .i64 0, .bool false, .bool false, .slice none 0 0] 35)).alloc (.cells #[.int .i64 14, .slice none 0 0, .int .i64 0, .int .i64 0, .bool true, .bool false, .slice (some ⟨w6.heap.size + 1, 0, none⟩) 1 1] 35)) := by
  refine ⟨block_alloc (block_alloc (heap_alloc_new w6 _)), ?_, ?_, (((Below.refl _ _).alloc (Nat.le_refl _) _).alloc (by simp) _).alloc (by simp; omega) _, by simp⟩
  · have h := heap_alloc_new (w6.alloc (.cells #[.int .i32 97] 21)) (.cells #[.int .i64 3, .slice (some ⟨w6.heap.size, 0, none⟩) 1 1, .int .i64 0, .int .i64 0, .bool false, .bool false, .slice none 0 0] 35)
    refine block_alloc ?_
    simpa using h
  · have h := heap_alloc_new ((w6.alloc (.cells #[.int .i32 97] 21)).alloc (.cells #[.int .i64 3, .slice (some ⟨w6.heap.size, 0, none⟩) 1 1, .int .i64 0, .int .i64 0, .bool false, .bool false, .slice none 0 0] 35)) (.cells #[.int .i64 14, .slice none 0 0, .int .i64 0, .int .i64 0, .bool true, .bool false, .slice (some ⟨w6.heap.size + 1, 0, none⟩) 1 1] 35)
    have e : ((w6.alloc (.cells #[.int .i32 97] 21)).alloc (.cells #[.int .i64 3, .slice (some ⟨w6.heap.size, 0, none⟩) 1 1, .int .i64 0, .int .i64 0, .bool false, .bool false, .slice none 0 0] 35)).heap.size = w6.heap.size + 2 := by simp
    rw [e] at h; exact h
structure TC (S : Nat) (w6 wx : World) : Prop where
  tb : ∃ wy, TB S w6 wy ∧ Below wy.heap.size wy wx
  s3 : wx.heap[S + 3]? = some (.cells (arrC S).toArray 52 (0, 0))
  sz : wx.heap.size = S + 4
theorem TC.of {S : Nat} {w6 wy : World} (h : TB S w6 wy) : TC S w6 (wy.alloc (.cells (arrC S).toArray 52)) := by
  have k := heap_alloc_new wy (.cells (arrC S).toArray 52)
  rw [h.sz] at k
  exact ⟨⟨wy, h, (Below.refl _ _).alloc (Nat.le_refl _) _⟩, k, by simp [h.sz]⟩
structure TD (S : Nat) (w6 wx : World) : Prop where
  tc : ∃ wy, TC S w6 wy ∧ Below wy.heap.size wy wx
  s4 : wx.heap[S + 4]? = some (.cells kndC.toArray 53 (0, 0))
theorem TD.of {S : Nat} {w6 wy : World} (h : TC S w6 wy) : TD S w6 (wy.alloc (.cells kndC.toArray 53)) := by
  have k := heap_alloc_new wy (.cells kndC.toArray 53)
  rw [h.sz] at k
  exact ⟨⟨wy, h, (Below.refl _ _).alloc (Nat.le_refl _) _⟩, k⟩
theorem TD.all {S : Nat} {w6 wx : World} (h : TD S w6 wx) (hS : S = w6.heap.size) : wx.heap[S]? = some (.cells #[.int .i32 97] 21 (0, 0)) ∧ wx.heap[S + 1]? = some (.cells #[.int .i64 3, .slice (some ⟨S, 0, none⟩) 1 1, .int .i64 0, .int .i64 0, .bool false, .bool false, .slice none 0 0] 35 (0, 0)) ∧ wx.heap[S + 3]? = some (.cells (arrC S).toArray 52 (0, 0)) ∧ wx.heap[S + 4]? = some (.cells kndC.toArray 53 (0, 0)) ∧ Below w6.heap.size w6 wx := by
  obtain ⟨wy, ⟨⟨wz, hb, hbz⟩, h3, hsz⟩, hby⟩ := h.tc
  have hbb : Below wz.heap.size wz wx := hbz.trans (hby.mono hbz.size)
  have m : Mod (fun _ => False) wz wx := Mod.of_below hbb
  have m2 : Mod (fun _ => False) wy wx := Mod.of_below hby
  exact ⟨m.heap hb.s0 (fun h => h), m.heap hb.s1 (fun h => h), m2.heap h3 (fun h => h), h.s4, hb.bl.trans (hbb.mono hb.bl.size)⟩
/-- The row of wrong nodes, as one build. -/
theorem built7 (S : Nat) : Tryd.prog.built 52 [(0, .agg #[.int .i64 14, .slice none 0 0, .int .i64 0, .int .i64 0, .bool true, .bool false, .slice (some ⟨S + 1, 0, none⟩) 1 1]), (1, .agg #[.int .i64 9, .slice none 0 0, .int .i64 0, .int .i64 0, .bool false, .bool false, .slice none 0 0]), (2, .agg #[.int .i64 10, .slice none 0 0, .int .i64 0, .int .i64 0, .bool false, .bool false, .slice none 0 0]), (3, .agg #[.int .i64 7, .slice none 0 0, .int .i64 0, .int .i64 0, .bool false, .bool false, .slice none 0 0]), (4, .agg #[.int .i64 8, .slice none 0 0, .int .i64 0, .int .i64 0, .bool false, .bool false, .slice none 0 0]), (5, .agg #[.int .i64 11, .slice none 0 0, .int .i64 0, .int .i64 0, .bool false, .bool false, .slice none 0 0]), (6, .agg #[.int .i64 12, .slice none 0 0, .int .i64 0, .int .i64 0, .bool false, .bool false, .slice none 0 0])] = some (arrC S).toArray := by kernel_rfl
theorem wpList_built {P : Program} {ops : Array Oper} {rest : List Oper} {o : Oper} {a : Act} {w : World} {Q : Exit → Act → World → Prop} (hg : o.guard = none) (t : TypeId) (parts : Array (Nat × Operand)) (ho : o.op = .build t parts) {cells : Array Value}
    (hc : P.built t (parts.map fun (i, x) => (i, a.eval x)).toList = some cells) (h : wpList P ops Q rest (a.put o.dst (.agg cells)) w) : wpList P ops Q (o :: rest) a w :=
  wpList_build hg t parts ho (by rw [hc]; rfl) (by rw [hc]; exact h)
end Go.Proofs.YtnpchkohfomagaaDoor.Rgy
