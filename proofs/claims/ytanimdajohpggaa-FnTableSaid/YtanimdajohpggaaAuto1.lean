/- spec.Automaton: a table made of any one, as it grows. -/
import Derived.Test.YtanimdajohpggaaTold2
import Derived.Deep.AppendLies
import Derived.Deep.RegionLaw
namespace Go.Proofs.Ytanimdajohpggaa.Table
open Go.ChangeShapes Go.WideShapes Go.ChangeAt Go.RowKit Go.Trav
set_option linter.unusedVariables false
set_option maxRecDepth 100000
theorem Try.info29 : (Try.prog.info? 29).map (fun i => (i.zero, i.size, i.bytes)) = some (some (.slice none 0 0), 1, 24) := by kernel_rfl
theorem at_five (x : Int) (w : World) (hx : I64 x) : Calls Try.prog 34 #[.int .i64 x, .int .i64 5] w fun e w' => ∃ r : Nat, e = .returned (.int .i64 r) ∧ r < 5 ∧ w = w' := at_any x 5 w hx (by omega) (by omega)
/-- The cells of a result that is not yet laid. -/
def zeroTab : Array Value := #[.int .i64 0, .slice none 0 0, .slice none 0 0, .slice none 0 0, .slice none 0 0, .slice none 0 0]
/-- The made table, as it grows. -/
structure Au (w wr : World) (B : Nat) (raw : Array Value) (s0 : Nat) (cv nv mv : Value) (cls : List Nat) (nxs : List (List Nat)) (rvs : List Value) (mts : List Bool) : Prop where
  bel : Below B w wr
  h0 : wr.heap[B]? = some (.cells raw 36 (0, 0))
  h1 : wr.heap[B + 1]? = some (.cells zeroTab 36 (0, 0))
  h2 : wr.heap[B + 2]? = some (.cells #[.int .i64 s0, cv, nv, mv, .slice none 0 0, .slice none 0 0] 36 (0, 0))
  oc : wr.ownsRow (B + 3) 3 1 cv cls.length (cls.map iN)
  on : wr.ownsRow (B + 3) 29 1 nv rvs.length rvs
  om : wr.ownsRow (B + 3) 4 1 mv mts.length (mts.map Value.bool)
  len : rvs.length = nxs.length
  rows : ∀ (i : Nat) rv r, rvs[i]? = some rv → nxs[i]? = some r → wr.ownsRow (B + 3) 3 1 rv 5 (r.map iN)
theorem Au.below {w wr w1 : World} {B s0 : Nat} {raw : Array Value} {cv nv mv : Value} {cls : List Nat} {nxs : List (List Nat)} {rvs : List Value} {mts : List Bool} (h : Au w wr B raw s0 cv nv mv cls nxs rvs mts) (hb : Below wr.heap.size wr w1) : Au w w1 B raw s0 cv nv mv cls nxs rvs mts := by
  have := block_lt h.h2
  exact ⟨h.bel.trans (hb.mono (by omega)), block_below h.h0 hb (block_lt h.h0), block_below h.h1 hb (block_lt h.h1), block_below h.h2 hb (block_lt h.h2), ownsRow_below h.oc hb fun g hg => (h.oc.lt g hg).2, ownsRow_below h.on hb fun g hg => (h.on.lt g hg).2, ownsRow_below h.om hb fun g hg => (h.om.lt g hg).2, h.len,
    fun i rv r h1 h2 => ownsRow_below (h.rows i rv r h1 h2) hb fun g hg => ((h.rows i rv r h1 h2).lt g hg).2⟩
/-- One more class. -/
theorem Au.putC {w wr w7 : World} {B s0 r : Nat} {raw : Array Value} {cv cv' : Value} {cls : List Nat} (h : Au w wr B raw s0 cv (.slice none 0 0) (.slice none 0 0) cls [] [] []) (hm : Mod (fun g => cv.ownBlock = some g) wr w7)
    (ho : w7.ownsRow (B + 3) 3 1 cv' (cls.length + 1) (cls.map iN ++ [iN r])) : Au w (w7.setCell ⟨B + 2, 1, none⟩ cv') B raw s0 cv' (.slice none 0 0) (.slice none 0 0) (cls ++ [r]) [] [] [] := by
  have hl := block_lt h.h2
  have hge : ∀ g, cv.ownBlock = some g → B + 3 ≤ g := fun g hg => (h.oc.lt g hg).1
  have hn : ∀ g, g < B + 3 → ¬ cv.ownBlock = some g := fun g hg e => by have := hge g e; omega
  have hs := hm.size
  have hmm : Mod (fun g => g = B + 2) w7 (w7.setCell ⟨B + 2, 1, none⟩ cv') := (Mod.refl (fun g => g = B + 2) w7).setCell (p := ⟨B + 2, 1, none⟩) (fun _ => rfl) _
  exact ⟨(h.bel.trans (hm.toBelow (B := B) (by omega) (fun g _ e => by have := hge g e; omega))).trans (hmm.toBelow (B := B) (by omega) (fun g _ e => by omega)),
    hmm.heap (hm.heap h.h0 (hn _ (by omega))) (by omega), hmm.heap (hm.heap h.h1 (hn _ (by omega))) (by omega), block_set (hm.heap h.h2 (hn _ (by omega))),
    by rw [List.length_append, List.map_append]; exact ownsRow_mod ho hmm (fun g hg e => by have := (ho.lt g hg).1; omega), World.ownsRow_nil _ _ _ _, World.ownsRow_nil _ _ _ _, rfl, fun i rv r h1 => by simp at h1⟩
theorem own_ne {w : World} {b1 b2 s1 s2 n1 n2 : Nat} {e1 e2 : TypeId} {v1 v2 : Value} {x1 x2 : List Value} (h1 : w.ownsRow b1 e1 s1 v1 n1 x1) (h2 : w.ownsRow b2 e2 s2 v2 n2 x2) (he : e1 ≠ e2) : ∀ g, v1.ownBlock = some g → v2.ownBlock ≠ some g := by
  intro g g1 g2
  rcases h1.2 with ⟨rfl, _⟩ | ⟨g', c', cur', rfl, _, hb, _⟩
  · simp [Value.ownBlock] at g1
  · rcases h2.2 with ⟨rfl, _⟩ | ⟨g'', c'', cur'', rfl, _, hb2, _⟩
    · simp [Value.ownBlock] at g2
    · simp only [Value.ownBlock, Option.some.injEq] at g1 g2
      subst g1
      subst g2
      rw [hb] at hb2
      cases hb2
      exact he rfl
/-- One more row. -/
theorem Au.putN {w wr w5 w7 : World} {B s0 : Nat} {raw : Array Value} {cv nv nv' mv rv : Value} {cls : List Nat} {nxs : List (List Nat)} {rvs : List Value} {mts : List Bool} {r : List Nat} (h : Au w wr B raw s0 cv nv mv cls nxs rvs mts) (hb : Below wr.heap.size wr w5)
    (hr : w5.ownsRow wr.heap.size 3 1 rv 5 (r.map iN)) (hm : Mod (fun g => nv.ownBlock = some g) w5 w7) (ho : w7.ownsRow (B + 3) 29 1 nv' (rvs.length + 1) (rvs ++ [rv])) :
    Au w (w7.setCell ⟨B + 2, 2, none⟩ nv') B raw s0 cv nv' mv cls (nxs ++ [r]) (rvs ++ [rv]) mts := by
  have h' := h.below hb
  have hl := block_lt h.h2
  have hsb := hb.size
  have hge : ∀ g, nv.ownBlock = some g → B + 3 ≤ g := fun g hg => (h.on.lt g hg).1
  have hn : ∀ g, g < B + 3 → ¬ nv.ownBlock = some g := fun g hg e => by have := hge g e; omega
  have hs := hm.size
  have hmm : Mod (fun g => g = B + 2) w7 (w7.setCell ⟨B + 2, 2, none⟩ nv') := (Mod.refl (fun g => g = B + 2) w7).setCell (p := ⟨B + 2, 2, none⟩) (fun _ => rfl) _
  have hrow : ∀ {v : Value} {n : Nat} {xs : List Value}, w5.ownsRow (B + 3) 3 1 v n xs → (w7.setCell ⟨B + 2, 2, none⟩ nv').ownsRow (B + 3) 3 1 v n xs := fun {v n xs} hv =>
    ownsRow_mod (ownsRow_mod hv hm (fun g hg e => own_ne hv h'.on (by decide) g hg e)) hmm (fun g hg e => by have := (hv.lt g hg).1; omega)
  refine ⟨(h'.bel.trans (hm.toBelow (B := B) (by omega) (fun g _ e => by have := hge g e; omega))).trans (hmm.toBelow (B := B) (by omega) (fun g _ e => by omega)),
    hmm.heap (hm.heap h'.h0 (hn _ (by omega))) (by omega), hmm.heap (hm.heap h'.h1 (hn _ (by omega))) (by omega), block_set (hm.heap h'.h2 (hn _ (by omega))), hrow h'.oc, by rw [List.length_append]; exact ownsRow_mod ho hmm (fun g hg e => by have := (ho.lt g hg).1; omega),
    ownsRow_mod (ownsRow_mod h'.om hm (fun g hg e => own_ne h'.om h'.on (by decide) g hg e)) hmm (fun g hg e => by have := (h'.om.lt g hg).1; omega), by rw [List.length_append, List.length_append, h.len]; rfl, fun i rv' r' h1 h2 => ?_⟩
  by_cases hi : i < rvs.length
  · rw [List.getElem?_append_left hi] at h1
    rw [List.getElem?_append_left (by have := h.len; omega)] at h2
    exact hrow (h'.rows i rv' r' h1 h2)
  · obtain rfl : i = rvs.length := by have := (List.getElem?_eq_some_iff.1 h1).1; simp at this; omega
    rw [List.getElem?_append_right (Nat.le_refl _), Nat.sub_self] at h1
    rw [List.getElem?_append_right (by rw [h.len]; exact Nat.le_refl _), h.len, Nat.sub_self] at h2
    obtain rfl := Option.some.inj h1
    obtain rfl := Option.some.inj h2
    exact hrow (ownsRow_mono hr (by omega))
/-- One more match. -/
theorem Au.putM {w wr w7 : World} {B s0 : Nat} {raw : Array Value} {cv nv mv mv' : Value} {cls : List Nat} {nxs : List (List Nat)} {rvs : List Value} {mts : List Bool} {b : Bool} (h : Au w wr B raw s0 cv nv mv cls nxs rvs mts) (hm : Mod (fun g => mv.ownBlock = some g) wr w7)
    (ho : w7.ownsRow (B + 3) 4 1 mv' (mts.length + 1) (mts.map Value.bool ++ [.bool b])) : Au w (w7.setCell ⟨B + 2, 3, none⟩ mv') B raw s0 cv nv mv' cls nxs rvs (mts ++ [b]) := by
  have hl := block_lt h.h2
  have hge : ∀ g, mv.ownBlock = some g → B + 3 ≤ g := fun g hg => (h.om.lt g hg).1
  have hn : ∀ g, g < B + 3 → ¬ mv.ownBlock = some g := fun g hg e => by have := hge g e; omega
  have hs := hm.size
  have hmm : Mod (fun g => g = B + 2) w7 (w7.setCell ⟨B + 2, 3, none⟩ mv') := (Mod.refl (fun g => g = B + 2) w7).setCell (p := ⟨B + 2, 3, none⟩) (fun _ => rfl) _
  have hrow : ∀ {v : Value} {n : Nat} {xs : List Value}, wr.ownsRow (B + 3) 3 1 v n xs → (w7.setCell ⟨B + 2, 3, none⟩ mv').ownsRow (B + 3) 3 1 v n xs := fun {v n xs} hv =>
    ownsRow_mod (ownsRow_mod hv hm (fun g hg e => own_ne hv h.om (by decide) g hg e)) hmm (fun g hg e => by have := (hv.lt g hg).1; omega)
  exact ⟨(h.bel.trans (hm.toBelow (B := B) (by omega) (fun g _ e => by have := hge g e; omega))).trans (hmm.toBelow (B := B) (by omega) (fun g _ e => by omega)),
    hmm.heap (hm.heap h.h0 (hn _ (by omega))) (by omega), hmm.heap (hm.heap h.h1 (hn _ (by omega))) (by omega), block_set (hm.heap h.h2 (hn _ (by omega))), hrow h.oc,
    ownsRow_mod (ownsRow_mod h.on hm (fun g hg e => own_ne h.on h.om (by decide) g hg e)) hmm (fun g hg e => by have := (h.on.lt g hg).1; omega), by rw [List.length_append, List.map_append]; exact ownsRow_mod ho hmm (fun g hg e => by have := (ho.lt g hg).1; omega), h.len,
    fun i rv' r' h1 h2 => hrow (h.rows i rv' r' h1 h2)⟩
/-- The made table, read. -/
theorem Au.tab {w wr w9 : World} {B s0 n : Nat} {raw : Array Value} {cv nv mv : Value} {cls : List Nat} {nxs : List (List Nat)} {rvs : List Value} {mts : List Bool} (h : Au w wr B raw s0 cv nv mv cls nxs rvs mts) (hm : Mod (fun g => g = B + 1) wr w9)
    (h1 : cls.length = 256) (h2 : nxs.length = n) (h3 : mts.length = n) (h4 : ∀ (i : Nat) r, nxs[i]? = some r → ∀ u ∈ r, u < n) (h5 : n ≤ 300) : TabR w9 cv nv mv n 256 cls nxs rvs mts := by
  have h6 : rvs.length = n := by rw [h.len]; exact h2
  have hc := ownsRow_mod h.oc hm (fun g hg e => by have := (h.oc.lt g hg).1; omega)
  have hn := ownsRow_mod h.on hm (fun g hg e => by have := (h.on.lt g hg).1; omega)
  have hb := ownsRow_mod h.om hm (fun g hg e => by have := (h.om.lt g hg).1; omega)
  rw [h1] at hc
  rw [h6] at hn
  rw [h3] at hb
  exact ⟨reads_of_owns hc, reads_of_owns hn, fun i rv r e1 e2 => reads_of_owns (ownsRow_mod (h.rows i rv r e1 e2) hm (fun g hg e => by have := ((h.rows i rv r e1 e2).lt g hg).1; omega)), reads_of_owns hb, h2, h4, h5⟩
end Go.Proofs.Ytanimdajohpggaa.Table
