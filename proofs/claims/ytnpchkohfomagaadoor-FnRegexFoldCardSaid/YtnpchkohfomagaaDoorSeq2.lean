/- NewSequences: encode, SequenceFromEncodedRange. -/
import Derived.Test.YtnpchkohfomagaaDoorSeq1
import Derived.Test.YtnpchkohfomagaaDoorEnc
import Derived.Laws.IdiomCopy
import Derived.BigRegion
import Derived.StillTailTactics
namespace Go.Proofs.YtnpchkohfomagaaDoor.Seq
open Go.ChangeShapes Go.WideShapes Go.ChangeAt Go.RowKit Go.Trav Go.Utf
set_option linter.unusedVariables false
set_option maxRecDepth 100000
theorem cells_of {r : Int} (h : Let r) : Lib.runeCells r = (ubytes r).map bV := by
  unfold Let at h
  unfold Lib.runeCells
  have e : Lib.encodeRuneZ r = ubytes r := by
    rcases wid_cases r with ⟨_, a1⟩ | ⟨_, a1, a2⟩ | ⟨_, a1, a2, a3⟩ | ⟨_, a1, a2, a3⟩
    · rw [bytes1 a1, Lib.encodeRuneZ_one h.1 a1]
    · rw [bytes2 a1 a2, Lib.encodeRuneZ_two (by omega) a2]
    · rw [bytes3 a1 a2 a3, Lib.encodeRuneZ_three (by omega)]
    · rw [bytes4 a1 a2 a3, Lib.encodeRuneZ_four (by omega) h.2.1]
  rw [e]; rfl
theorem cells_len {r : Int} (h : Let r) : (Lib.runeCells r).length = wid r := by rw [cells_of h, List.length_map, wid_len]
theorem wid_le (r : Int) : wid r ≤ 4 := by
  rcases wid_cases r with ⟨h, _⟩ | ⟨h, _⟩ | ⟨h, _⟩ | ⟨h, _⟩ <;> omega
/-- A buffer of bytes. -/
def Buf (w : World) (g cap : Nat) : Prop := ∃ cur : Array Value, w.heap[g]? = some (.cells cur 5 (0, 0)) ∧ cur.size = cap
theorem Buf.mod {w w' : World} {g cap : Nat} {F : Nat → Prop} (h : Buf w g cap) (hm : Mod F w w') (hn : ¬ F g) : Buf w' g cap := by
  obtain ⟨cur, h1, h2⟩ := h
  exact ⟨cur, hm.heap h1 hn, h2⟩
theorem Buf.lt {w : World} {g cap : Nat} (h : Buf w g cap) : g < w.heap.size := by obtain ⟨cur, h1, _⟩ := h; exact block_lt h1
theorem buf_set {g cap : Nat} : ∀ (vs : List Value) (o : Nat) (w : World), Buf w g cap → Buf (w.setCells g o vs) g cap := by
  intro vs
  induction vs with
  | nil => intro o w h; exact h
  | cons v r ih =>
    intro o w h
    obtain ⟨cur, h1, h2⟩ := h
    exact ih (o + 1) _ ⟨_, block_set h1, by simpa using h2⟩
theorem mod_setCells {g : Nat} : ∀ (vs : List Value) (o : Nat) (w : World), Mod (fun k => k = g) w (w.setCells g o vs) := by
  intro vs
  induction vs with
  | nil => intro o w; exact Mod.refl _ _
  | cons v r ih =>
    intro o w
    exact (Mod.setCell (F := fun k => k = g) (Mod.refl _ w) (p := ⟨g, o, none⟩) (fun _ => rfl) v).step (ih (o + 1) _) (fun i _ h => h)
theorem enc_any (g cap : Nat) (r : Int) (w : World) (h : Buf w g cap) (hc : 4 ≤ cap) (hr : Let r) :
    Calls Tryd.prog 101 #[.slice (some ⟨g, 0, none⟩) 4 cap, .int .i32 r] w fun e w' => e = .returned (.int .i64 (wid r)) ∧ Buf w' g cap ∧ Mod (fun k => k = g) w w' ∧ ∀ j u, ((ubytes r).map bV)[j]? = some u → w'.cell? ⟨g, j, none⟩ = some u := by
  have hw := wid_le r
  have hsome : ∀ j, j < (Lib.runeCells r).length → (w.cell? ⟨g, 0 + j, none⟩).isSome = true := by
    intro j hj
    rw [cells_len hr] at hj
    obtain ⟨cur, h1, h2⟩ := h
    have : cur[0 + j]? = some cur[0 + j] := Array.getElem?_eq_getElem (by omega)
    rw [block_cell h1 this]; rfl
  refine (Any7.utf8_EncodeRune Tryd.lays7_30 g 0 4 cap r (by unfold Let at hr; omega) (by unfold Let at hr; omega) w (by rw [cells_len hr]; exact hw) hsome ?_).mono ?_
  · intro j hj
    obtain ⟨cur, h1, h2⟩ := h
    exact block_free h1
  · rintro e w' ⟨rfl, rfl⟩
    refine ⟨by rw [cells_len hr], buf_set _ _ _ h, mod_setCells _ _ _, fun j u hj => ?_⟩
    rw [← cells_of hr] at hj
    have hj2 := (List.getElem?_eq_some_iff.1 hj)
    obtain ⟨hj3, rfl⟩ := hj2
    have := World.cell?_setCells_in g (Lib.runeCells r) 0 w hsome j hj3
    rw [Nat.zero_add] at this
    exact this
theorem encode_any (B gs cs ge ce : Nat) (a b : Int) (w : World) (h : RAt w B a b) (h1 : Buf w gs cs) (h2 : Buf w ge ce) (hc1 : 4 ≤ cs) (hc2 : 4 ≤ ce) (hne : gs ≠ ge) (hB1 : B ≠ gs) (ha : Let a) (hb : Let b) :
    Calls Tryd.prog 97 #[.pointer (some ⟨B, 0, none⟩), .slice (some ⟨gs, 0, none⟩) 4 cs, .slice (some ⟨ge, 0, none⟩) 4 ce] w fun e w' => e = .returned (.tuple #[.int .i64 (wid a), .int .i64 (wid b)]) ∧ Buf w' gs cs ∧ Buf w' ge ce ∧ Mod (fun k => k = gs ∨ k = ge) w w' ∧
      (∀ j u, ((ubytes a).map bV)[j]? = some u → w'.cell? ⟨gs, j, none⟩ = some u) ∧ ∀ j u, ((ubytes b).map bV)[j]? = some u → w'.cell? ⟨ge, j, none⟩ = some u := by
  have c0 := block_cell (i := 0) (u := .int .i32 a) h rfl
  have H := Lib.hid h
  clear h
  go_enter Tryd.func97, Tryd.ntmps97
  go_wp2_with fail
  refine (enc_any gs cs a _ h1 hc1 ha).mono ?_
  rintro e w1 ⟨rfl, b1, m1, k1⟩
  have h' : w1.heap[B]? = some (.cells #[.int .i32 a, .int .i32 b] 187 (0, 0)) := m1.heap H.out (fun e => hB1 e)
  have c1 := block_cell (i := 1) (u := .int .i32 b) h' rfl
  have B1 := Lib.hid b1
  have M1 := Lib.hid m1
  have K1 := Lib.hid k1
  have H2 := Lib.hid h'
  clear b1 m1 k1 h'
  go_wp2_with fail
  refine (enc_any ge ce b _ (h2.mod M1.out (fun e => hne e.symm)) hc2 hb).mono ?_
  rintro e w2 ⟨rfl, b2, m2, k2⟩
  have B2 := Lib.hid b2
  have M2 := Lib.hid m2
  have K2 := Lib.hid k2
  clear b2 m2 k2 c1
  go_wp2_with fail
  go_ret2
  refine ⟨rfl, B1.out.mod M2.out hne, B2.out, (M1.out.mono fun k _ e => Or.inl e).trans (M2.out.mono fun k _ e => Or.inr e), fun j u hj => ?_, K2.out⟩
  exact M2.out.cell (K1.out j u hj) hne
set_option maxHeartbeats 1000000 in
theorem seqFrom2 (gs cs ge ce : Nat) (x0 x1 y0 y1 : Int) (w : World) (h1 : 2 ≤ cs) (h2 : 2 ≤ ce) (a0 : w.cell? ⟨gs, 0, none⟩ = some (.int .u8 x0)) (b0 : w.cell? ⟨ge, 0, none⟩ = some (.int .u8 y0)) (a1 : w.cell? ⟨gs, 1, none⟩ = some (.int .u8 x1)) (b1 : w.cell? ⟨ge, 1, none⟩ = some (.int .u8 y1)) :
    Calls Tryd.prog 98 #[.slice (some ⟨gs, 0, none⟩) 2 cs, .slice (some ⟨ge, 0, none⟩) 2 ce] w fun e w' => e = .returned (.tuple #[.slice (some ⟨w.heap.size, 0, none⟩) 2 2, .nilIface]) ∧ w' = (w.alloc (.cells #[.int .u8 x0, .int .u8 y0, .int .u8 x1, .int .u8 y1] 195 (0, 0))).drew := by
  go_enter Tryd.func98, Tryd.ntmps98
  go_wp2_with fail
  go_still_tail 14, (by kernel_rfl)
  change wpList _ _ _ _ _ w.drew
  go_wp2_with fail
  go_ret2
  exact ⟨rfl, rfl⟩
set_option maxHeartbeats 1000000 in
theorem seqFrom3 (gs cs ge ce : Nat) (x0 x1 x2 y0 y1 y2 : Int) (w : World) (h1 : 3 ≤ cs) (h2 : 3 ≤ ce) (a0 : w.cell? ⟨gs, 0, none⟩ = some (.int .u8 x0)) (b0 : w.cell? ⟨ge, 0, none⟩ = some (.int .u8 y0)) (a1 : w.cell? ⟨gs, 1, none⟩ = some (.int .u8 x1)) (b1 : w.cell? ⟨ge, 1, none⟩ = some (.int .u8 y1)) (a2 : w.cell? ⟨gs, 2, none⟩ = some (.int .u8 x2)) (b2 : w.cell? ⟨ge, 2, none⟩ = some (.int .u8 y2)) :
    Calls Tryd.prog 98 #[.slice (some ⟨gs, 0, none⟩) 3 cs, .slice (some ⟨ge, 0, none⟩) 3 ce] w fun e w' => e = .returned (.tuple #[.slice (some ⟨w.heap.size, 0, none⟩) 3 3, .nilIface]) ∧ w' = (w.alloc (.cells #[.int .u8 x0, .int .u8 y0, .int .u8 x1, .int .u8 y1, .int .u8 x2, .int .u8 y2] 195 (0, 0))).drew := by
  go_enter Tryd.func98, Tryd.ntmps98
  go_wp2_with fail
  go_still_tail 21, (by kernel_rfl)
  change wpList _ _ _ _ _ w.drew
  go_wp2_with fail
  go_ret2
  exact ⟨rfl, rfl⟩
set_option maxHeartbeats 1000000 in
theorem seqFrom4 (gs cs ge ce : Nat) (x0 x1 x2 x3 y0 y1 y2 y3 : Int) (w : World) (h1 : 4 ≤ cs) (h2 : 4 ≤ ce) (a0 : w.cell? ⟨gs, 0, none⟩ = some (.int .u8 x0)) (b0 : w.cell? ⟨ge, 0, none⟩ = some (.int .u8 y0)) (a1 : w.cell? ⟨gs, 1, none⟩ = some (.int .u8 x1)) (b1 : w.cell? ⟨ge, 1, none⟩ = some (.int .u8 y1)) (a2 : w.cell? ⟨gs, 2, none⟩ = some (.int .u8 x2)) (b2 : w.cell? ⟨ge, 2, none⟩ = some (.int .u8 y2)) (a3 : w.cell? ⟨gs, 3, none⟩ = some (.int .u8 x3)) (b3 : w.cell? ⟨ge, 3, none⟩ = some (.int .u8 y3)) :
    Calls Tryd.prog 98 #[.slice (some ⟨gs, 0, none⟩) 4 cs, .slice (some ⟨ge, 0, none⟩) 4 ce] w fun e w' => e = .returned (.tuple #[.slice (some ⟨w.heap.size, 0, none⟩) 4 4, .nilIface]) ∧ w' = (w.alloc (.cells #[.int .u8 x0, .int .u8 y0, .int .u8 x1, .int .u8 y1, .int .u8 x2, .int .u8 y2, .int .u8 x3, .int .u8 y3] 195 (0, 0))).drew := by
  go_enter Tryd.func98, Tryd.ntmps98
  go_wp2_with fail
  go_still_tail 28, (by kernel_rfl)
  change wpList _ _ _ _ _ w.drew
  go_wp2_with fail
  go_ret2
  exact ⟨rfl, rfl⟩
def rgCells (q : Int × Int) : List Value := [.int .u8 q.1, .int .u8 q.2]
theorem seqFrom_any (gs cs ge ce : Nat) (s e : Int) (w : World) (hg : Utf.Good s e) (h1 : 127 < s) (hc1 : 4 ≤ cs) (hc2 : 4 ≤ ce) (hs : ∀ (j : Nat) u, ((ubytes s).map bV)[j]? = some u → w.cell? ⟨gs, j, none⟩ = some u) (he : ∀ (j : Nat) u, ((ubytes e).map bV)[j]? = some u → w.cell? ⟨ge, j, none⟩ = some u) :
    Calls Tryd.prog 98 #[.slice (some ⟨gs, 0, none⟩) (wid s) cs, .slice (some ⟨ge, 0, none⟩) (wid e) ce] w fun r w' => r = .returned (.tuple #[.slice (some ⟨w.heap.size, 0, none⟩) (wid s) (wid s), .nilIface]) ∧ Below w.heap.size w w' ∧ w'.heap[w.heap.size]? = some (.cells ((seqOf (s, e)).flatMap rgCells).toArray 195 (0, 0)) := by
  have hw := good_wid hg
  rcases wid_cases s with ⟨e1, a1⟩ | ⟨e1, a1, a2⟩ | ⟨e1, a1, a2, a3⟩ | ⟨e1, a1, a2, a3⟩ <;>
    rcases wid_cases e with ⟨e2, b1⟩ | ⟨e2, b1, b2⟩ | ⟨e2, b1, b2, b3⟩ | ⟨e2, b1, b2, b3⟩ <;> (try omega)
  · rw [e1, e2]
    rw [bytes2 a1 a2] at hs
    rw [bytes2 b1 b2] at he
    refine (seqFrom2 gs cs ge ce _ _ _ _ w (by omega) (by omega) (hs 0 _ rfl) (he 0 _ rfl) (hs 1 _ rfl) (he 1 _ rfl)).mono ?_
    rintro r w' ⟨rfl, rfl⟩
    refine ⟨rfl, ((Below.refl w.heap.size w).alloc (Nat.le_refl _) _).drew, ?_⟩
    unfold seqOf; rw [bytes2 a1 a2, bytes2 b1 b2]
    exact heap_alloc_at w _ _ rfl
  · rw [e1, e2]
    rw [bytes3 a1 a2 a3] at hs
    rw [bytes3 b1 b2 b3] at he
    refine (seqFrom3 gs cs ge ce _ _ _ _ _ _ w (by omega) (by omega) (hs 0 _ rfl) (he 0 _ rfl) (hs 1 _ rfl) (he 1 _ rfl) (hs 2 _ rfl) (he 2 _ rfl)).mono ?_
    rintro r w' ⟨rfl, rfl⟩
    refine ⟨rfl, ((Below.refl w.heap.size w).alloc (Nat.le_refl _) _).drew, ?_⟩
    unfold seqOf; rw [bytes3 a1 a2 a3, bytes3 b1 b2 b3]
    exact heap_alloc_at w _ _ rfl
  · rw [e1, e2]
    rw [bytes4 a1 a2 a3] at hs
    rw [bytes4 b1 b2 b3] at he
    refine (seqFrom4 gs cs ge ce _ _ _ _ _ _ _ _ w (by omega) (by omega) (hs 0 _ rfl) (he 0 _ rfl) (hs 1 _ rfl) (he 1 _ rfl) (hs 2 _ rfl) (he 2 _ rfl) (hs 3 _ rfl) (he 3 _ rfl)).mono ?_
    rintro r w' ⟨rfl, rfl⟩
    refine ⟨rfl, ((Below.refl w.heap.size w).alloc (Nat.le_refl _) _).drew, ?_⟩
    unfold seqOf; rw [bytes4 a1 a2 a3, bytes4 b1 b2 b3]
    exact heap_alloc_at w _ _ rfl
end Go.Proofs.YtnpchkohfomagaaDoor.Seq
