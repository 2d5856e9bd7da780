/- Nodes of the builder: made, and given arcs. -/
import Derived.Test.YtkbonmjbfpdchaaDoorArc0
namespace Go.Proofs.YtkbonmjbfpdchaaDoor.Node
open Go.ChangeShapes Go.WideShapes Go.ChangeAt Go.RowKit Go.Trav Go.Sort
set_option linter.unusedVariables false
/-! ### Nodes -/
def trnCells (x : Arc) : List Value := [.int .u64 x.2.1, .int .i64 x.2.2, .int .u8 x.1]
theorem trnCells_len (x : Arc) : (trnCells x).length = 3 := rfl
/-- The node in block B, its transitions the slice v. -/
structure NodeAt (w : World) (B : Nat) (v : Value) (f : Bool) (o : Int) (l : List Arc) : Prop where
  blk : ∃ nx, w.heap[B]? = some (.cells #[.int .u64 o, v, .bool f, .pointer nx] 132 (0, 0))
  own : w.ownsRow 0 134 3 v l.length (l.flatMap trnCells)
/-- The blocks of a node. -/
def fp (B : Nat) (v : Value) (k : Nat) : Prop := k = B ∨ v.ownBlock = some k
theorem Tryd.info134 : (Tryd.prog.info? 134).map (fun i => (i.zero, i.size, i.bytes)) = some (some (.agg #[.int .u64 0, .int .i64 0, .int .u8 0]), 3, 24) := by kernel_rfl
theorem NodeAt.ne {w : World} {B : Nat} {v : Value} {f : Bool} {o : Int} {l : List Arc} (h : NodeAt w B v f o l) : v.ownBlock ≠ some B := by
  obtain ⟨⟨nx, h1⟩, h2⟩ := h
  exact ownsRow_ne_block h2 h1 (by decide)
theorem NodeAt.lt {w : World} {B : Nat} {v : Value} {f : Bool} {o : Int} {l : List Arc} (h : NodeAt w B v f o l) : ∀ k, fp B v k → k < w.heap.size := by
  obtain ⟨⟨nx, h1⟩, h2⟩ := h
  rintro k (rfl | hk)
  · exact block_lt h1
  · exact (h2.lt k hk).2
theorem NodeAt.mod {w w' : World} {F : Nat → Prop} {B : Nat} {v : Value} {f : Bool} {o : Int} {l : List Arc} (h : NodeAt w B v f o l) (hm : Mod F w w') (hd : ∀ k, fp B v k → ¬ F k) : NodeAt w' B v f o l := by
  obtain ⟨⟨nx, h1⟩, h2⟩ := h
  exact ⟨⟨nx, hm.heap h1 (hd B (Or.inl rfl))⟩, ownsRow_mod h2 hm fun g hg => hd g (Or.inr hg)⟩
theorem NodeAt.below {w w' : World} {B : Nat} {v : Value} {f : Bool} {o : Int} {l : List Arc} (h : NodeAt w B v f o l) (hb : Below w.heap.size w w') : NodeAt w' B v f o l :=
  h.mod (F := fun _ => False) (Mod.of_below hb) (fun _ _ h => h)
theorem node_any (f : Bool) (o : Int) (w : World) :
    Calls Tryd.prog 40 #[.bool f, .int .u64 o] w fun e w' => e = .returned (.pointer (some ⟨w.heap.size, 0, none⟩)) ∧ w' = w.alloc (.cells #[.int .u64 o, .slice none 0 0, .bool f, .pointer none] 132) := by
  go_enter Tryd.func40, Tryd.ntmps40
  go_wp2
  go_ret
  exact ⟨rfl, rfl⟩
theorem node_new (f : Bool) (o : Int) (w : World) : NodeAt (w.alloc (.cells #[.int .u64 o, .slice none 0 0, .bool f, .pointer none] 132)) w.heap.size (.slice none 0 0) f o [] :=
  ⟨⟨_, heap_alloc_new _ _⟩, World.ownsRow_nil _ _ _ _⟩
theorem arc_any (B : Nat) (v : Value) (f : Bool) (o : Int) (l : List Arc) (i a t : Int) (w : World) (h : NodeAt w B v f o l) (hl : l.length < 68719476736) :
    Calls Tryd.prog 41 #[.pointer (some ⟨B, 0, none⟩), .int .u8 i, .int .u64 a, .int .i64 t] w fun e w' => e = .returned (.tuple #[]) ∧ ∃ v', NodeAt w' B v' f o (l ++ [(i, a, t)]) ∧ Mod (fp B v) w w' ∧ ∀ k, fp B v' k → fp B v k ∨ w.heap.size ≤ k := by
  have hne := h.ne
  obtain ⟨⟨nx, h1⟩, hown⟩ := h
  have hc1 : w.cell? ⟨B, 1, none⟩ = some v := block_cell h1 rfl
  have hbs := block_lt h1
  go_enter Tryd.func41, Tryd.ntmps41
  go_wp2_with (at_builtin; refine wpList_append_one rfl _ _ 130 rfl 0 134 _ 3 24 Tryd.underlying130 Tryd.info134 rfl (by decide) (by decide) v _ _ rfl hown #[_, _, _] _ _ rfl (by simp) rfl (by simp [Value.oneCell']) (by omega) (by omega) ?_; intro ao cap w1 hown' hgr hat; have hB1 : w1.heap[B]? = some (.cells #[.int .u64 o, v, .bool f, .pointer nx] 132 (0, 0)) := (hgr.block B (by simp; omega) (fun e => hne e.symm)).trans (block_alloc h1); have k1 : w1.cell? ⟨B, 1, none⟩ = some v := block_cell hB1 rfl; have k2 : w1.frozen? ⟨B, 1, none⟩ = false := block_free hB1; clear h1)
  go_end0
  have hne' := ownsRow_ne_block hown' hB1 (by decide)
  refine ⟨rfl, .slice ao (l.length + 1) cap, ⟨⟨nx, block_set hB1⟩, ?_⟩, ?_, ?_⟩
  · have e1 : (l ++ [(i, a, t)]).length = l.length + 1 := by simp
    have e2 : (l ++ [(i, a, t)]).flatMap trnCells = l.flatMap trnCells ++ #[Value.int .u64 a, .int .i64 t, .int .u8 i].toList := by simp [trnCells]
    rw [e1, e2]
    exact ownsRow_setCell_ne hown' (fun e => hne' e.symm) _
  · exact (((Mod.refl (fp B v) w).alloc _).grown hgr fun k hk _ => Or.inr hk).setCell (p := ⟨B, 1, none⟩) (fun _ => Or.inl rfl) _
  · rintro k (rfl | hk)
    · exact Or.inl (Or.inl rfl)
    · rcases hat with hat | hat
      · exact Or.inl (Or.inr (by rw [← hat]; exact hk))
      · rw [hat] at hk
        simp at hk
        exact Or.inr (by omega)
theorem NodeAt.at {w : World} {B : Nat} {v : Value} {f : Bool} {o : Int} {l : List Arc} (h : NodeAt w B v f o l) : ∃ nx, w.heap[B]? = some (.cells #[.int .u64 o, v, .bool f, .pointer nx] 132 (0, 0)) ∧ Reads w v l.length 3 (l.flatMap trnCells) := by
  obtain ⟨⟨nx, h1⟩, hown⟩ := h
  exact ⟨nx, h1, reads_of_owns hown⟩
theorem trns_at {w : World} {v : Value} {n : Nat} {l : List Arc} (h : Reads w v n 3 (l.flatMap trnCells)) {k : Nat} (hk : k < n) :
    ∃ b off cap i o t, v = .slice (some ⟨b, off, none⟩) n cap ∧ l[k]? = some (i, o, t) ∧ w.cell? ⟨b, off + k * 3, none⟩ = some (.int .u64 o) ∧ w.cell? ⟨b, off + k * 3 + 1, none⟩ = some (.int .i64 t) ∧ w.cell? ⟨b, off + k * 3 + 2, none⟩ = some (.int .u8 i) := by
  obtain ⟨b, off, cap, ⟨i, o, t⟩, rfl, e, hc⟩ := Reads.rec trnCells trnCells_len h (by omega) hk
  exact ⟨b, off, cap, i, o, t, rfl, e, hc 0 _ rfl, hc 1 _ rfl, hc 2 _ rfl⟩
end Go.Proofs.YtkbonmjbfpdchaaDoor.Node
