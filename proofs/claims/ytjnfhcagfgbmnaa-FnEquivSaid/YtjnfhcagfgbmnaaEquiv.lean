/- impl.Equiv and the law FnEquiv. -/
import Derived.Test.YtjnfhcagfgbmnaaNode2
import Derived.Deep.RegionHeld3
namespace Go.Proofs.Ytjnfhcagfgbmnaa.Node
open Go.ChangeShapes Go.WideShapes Go.ChangeAt Go.RowKit Go.Trav Go.Sort
set_option linter.unusedVariables false
/-- The two nodes of impl.Equiv, in blocks 2 and 3 from the call's first one on. -/
structure TwoAt (w wr : World) (ao' : Option Addr) (n' cap' : Nat) (f f' : Bool) (o o' : Int) (l l' : List Arc) (v1 v2 : Value) : Prop where
  bel : Below w.heap.size w wr
  box : wr.cell? ⟨w.heap.size + 1, 2, none⟩ = some (.slice ao' n' cap')
  n1 : NodeAt wr (w.heap.size + 2) v1 f o l
  n2 : NodeAt wr (w.heap.size + 3) v2 f' o' l'
  f1 : ∀ k, fp (w.heap.size + 2) v1 k → w.heap.size + 2 ≤ k
  f2 : ∀ k, fp (w.heap.size + 3) v2 k → w.heap.size + 2 ≤ k
  apart : ∀ k, fp (w.heap.size + 2) v1 k → ¬ fp (w.heap.size + 3) v2 k
def Two (w wr : World) (ao' : Option Addr) (n' cap' : Nat) (f f' : Bool) (o o' : Int) (l l' : List Arc) : Prop := ∃ v1 v2, TwoAt w wr ao' n' cap' f f' o o' l l' v1 v2
theorem Two.bel {w wr : World} {ao' : Option Addr} {n' cap' : Nat} {f f' : Bool} {o o' : Int} {l l' : List Arc} (h : Two w wr ao' n' cap' f f' o o' l l') : Below w.heap.size w wr := by obtain ⟨_, _, h⟩ := h; exact h.bel
theorem Two.box {w wr : World} {ao' : Option Addr} {n' cap' : Nat} {f f' : Bool} {o o' : Int} {l l' : List Arc} (h : Two w wr ao' n' cap' f f' o o' l l') : wr.cell? ⟨w.heap.size + 1, 2, none⟩ = some (.slice ao' n' cap') := by obtain ⟨_, _, h⟩ := h; exact h.box
theorem TwoAt.next1 {w wr w1 : World} {ao' : Option Addr} {n' cap' : Nat} {f f' : Bool} {o o' : Int} {l l' r : List Arc} {v1 v2 v1' : Value} (h : TwoAt w wr ao' n' cap' f f' o o' l l' v1 v2) (X : Obj)
    (hn : NodeAt w1 (w.heap.size + 2) v1' f o r) (hm : Mod (fp (w.heap.size + 2) v1) (wr.alloc X) w1) (hf : ∀ k, fp (w.heap.size + 2) v1' k → fp (w.heap.size + 2) v1 k ∨ (wr.alloc X).heap.size ≤ k) : TwoAt w w1 ao' n' cap' f f' o o' r l' v1' v2 := by
  have hlt2 := h.n2.lt
  have hm' : Mod (fp (w.heap.size + 2) v1) wr w1 := ((Mod.refl _ _).alloc X).trans hm
  have hsz : w.heap.size + 3 < wr.heap.size := hlt2 _ (Or.inl rfl)
  refine ⟨h.bel.trans (hm'.toBelow h.bel.size fun k _ hk => by have := h.f1 k hk; omega), hm'.cell h.box (fun hk => by have := h.f1 _ hk; simp at this), hn, h.n2.mod hm' (fun k hk hk' => h.apart k hk' hk), fun k hk => ?_, h.f2, fun k hk hk2 => ?_⟩
  · rcases hf k hk with h1 | h1
    · exact h.f1 k h1
    · simp at h1; omega
  · rcases hf k hk with h1 | h1
    · exact h.apart k h1 hk2
    · have := hlt2 k hk2; simp at h1; omega
theorem TwoAt.next2 {w wr w1 : World} {ao' : Option Addr} {n' cap' : Nat} {f f' : Bool} {o o' : Int} {l l' r : List Arc} {v1 v2 v2' : Value} (h : TwoAt w wr ao' n' cap' f f' o o' l l' v1 v2) (X : Obj)
    (hn : NodeAt w1 (w.heap.size + 3) v2' f' o' r) (hm : Mod (fp (w.heap.size + 3) v2) (wr.alloc X) w1) (hf : ∀ k, fp (w.heap.size + 3) v2' k → fp (w.heap.size + 3) v2 k ∨ (wr.alloc X).heap.size ≤ k) : TwoAt w w1 ao' n' cap' f f' o o' l r v1 v2' := by
  have hlt1 := h.n1.lt
  have hm' : Mod (fp (w.heap.size + 3) v2) wr w1 := ((Mod.refl _ _).alloc X).trans hm
  have hsz : w.heap.size + 3 < wr.heap.size := h.n2.lt _ (Or.inl rfl)
  refine ⟨h.bel.trans (hm'.toBelow h.bel.size fun k _ hk => by have := h.f2 k hk; omega), hm'.cell h.box (fun hk => by have := h.f2 _ hk; simp at this), h.n1.mod hm' (fun k hk hk' => h.apart k hk hk'), hn, h.f1, fun k hk => ?_, fun k hk hk2 => ?_⟩
  · rcases hf k hk with h1 | h1
    · exact h.f2 k h1
    · simp at h1; omega
  · rcases hf k hk2 with h1 | h1
    · exact h.apart k hk h1
    · have := hlt1 k hk; simp at h1; omega
theorem heap_alloc_at (w : World) (o : Obj) (B : Nat) (hB : B = w.heap.size) : (w.alloc o).heap[B]? = some o := by subst hB; exact heap_alloc_new _ _
theorem two_start (w : World) (f f' : Bool) (o o' : Int) (ao : Option Addr) (n cap : Nat) (ao' : Option Addr) (n' cap' : Nat) :
    Two w ((((w.alloc (Obj.cells #[Value.bool f, Value.int IntKind.u64 o, Value.slice ao n cap] 42)).alloc (Obj.cells #[Value.bool f', Value.int IntKind.u64 o', Value.slice ao' n' cap'] 42)).alloc (Obj.cells #[Value.int IntKind.u64 o, Value.slice none 0 0, Value.bool f, Value.pointer none] 75)).alloc (Obj.cells #[Value.int IntKind.u64 o', Value.slice none 0 0, Value.bool f', Value.pointer none] 75)).drew ao' n' cap' f f' o o' [] [] := by
  refine ⟨.slice none 0 0, .slice none 0 0, ?_, by go_simp, ⟨⟨none, ?_⟩, World.ownsRow_nil _ _ _ _⟩, ⟨⟨none, ?_⟩, World.ownsRow_nil _ _ _ _⟩, ?_, ?_, ?_⟩
  · exact (((((Below.refl _ _).alloc (Nat.le_refl _) _).alloc (by simp) _).alloc (by simp; omega) _).alloc (by simp; omega) _).drew
  · exact block_alloc (w := (((w.alloc _).alloc _).alloc _)) (heap_alloc_at _ _ _ (by simp))
  · exact heap_alloc_at (((w.alloc _).alloc _).alloc _) _ _ (by simp)
  · rintro k (rfl | h) <;> simp [Value.ownBlock] at *
  · rintro k (rfl | h) <;> simp [Value.ownBlock] at *
  · rintro k (rfl | h) (h' | h') <;> simp [Value.ownBlock] at *
theorem implEquiv (f f' : Bool) (o o' : Int) (v v' : Value) (n n' : Nat) (l l' : List Arc) (w : World) (h : Arcs w v n l) (h' : Arcs w v' n' l') (hn : n ≤ 2147483647) (hn' : n' ≤ 2147483647) :
    Calls Try.prog 22 #[.agg #[.bool f, .int .u64 o, v], .agg #[.bool f', .int .u64 o', v']] w fun e w' => e = .returned (.bool (sameB f f' o o' l l')) ∧ Below w.heap.size w w' := by
  have hlen : Hid (l.length = n) := Lib.hid (Reads.recs arcCells arcCells_len h (by omega))
  have hlen' : Hid (l'.length = n') := Lib.hid (Reads.recs arcCells arcCells_len h' (by omega))
  obtain ⟨ao, cap, rfl⟩ := h.form
  obtain ⟨ao', cap', rfl⟩ := h'.form
  go_enter Try.func22, Try.ntmps22
  go_wp2_with fail
  go_region_held3 (fun w' => w'.cell? ⟨w.heap.size, 0, none⟩ = some (.bool f) ∧ w'.cell? ⟨w.heap.size, 1, none⟩ = some (.int .u64 o) ∧ w'.cell? ⟨w.heap.size + 1, 0, none⟩ = some (.bool f') ∧ w'.cell? ⟨w.heap.size + 1, 1, none⟩ = some (.int .u64 o')) (go_keep) (first | (go_at_call 32; refine (node_any _ _ _).mono ?_; rintro e w' ⟨rfl, rfl⟩))
  go_wp2_with fail
  go_loopw [24] (fun i wr => ∃ k : Nat, i = .int .i64 k ∧ k ≤ n ∧ Two w wr ao' n' cap' f f' o o' (l.take k) []) (fun i _ => n - (intOf i).toNat)
  case atStart =>
    exact ⟨0, rfl, Nat.zero_le _, two_start w f f' o o' ao n cap ao' n' cap'⟩
  case round =>
    obtain ⟨k, rfl, hk, HT⟩ := hrel
    by_cases hlt : k < n
    · obtain ⟨b, off, _, i1, o1, t1, hx, e1, c10, c11, c12⟩ := Arcs.at (h.below HT.bel) hlt
      cases hx
      have E1 := Lib.hid e1
      clear e1
      obtain ⟨v1, v2, hT⟩ := HT
      have hlk : (l.take k).length < 68719476736 := by simp; omega
      have hT1 : NodeAt (wr.alloc (.cells #[.int .u8 i1, .int .u64 o1, .int .i64 t1] 62)) (w.heap.size + 2) v1 f o (l.take k) := hT.n1.below ((Below.refl _ _).alloc (Nat.le_refl _) _)
      go_wp2_with (go_at_call 33; refine (arc_any _ _ _ _ _ _ _ _ _ hT1 hlk).mono ?_; rintro e w1 ⟨rfl, v1', n1', m1, fr1⟩)
      go_roundw
      case rel => exact ⟨k + 1, by go_num, by omega, by rw [take_snoc' _ _ _ E1.out]; exact ⟨v1', v2, hT.next1 _ n1' m1 fr1⟩⟩
      case measure => simp [intOf]; omega
    · obtain rfl : k = n := by omega
      rw [List.take_of_length_le (by rw [hlen.out]; exact Nat.le_refl _)] at HT
      have hc' := HT.box
      clear hlt hk
      go_wp2_with fail
      go_loopw [40] (fun i wr => ∃ j : Nat, i = .int .i64 j ∧ j ≤ n' ∧ Two w wr ao' n' cap' f f' o o' l (l'.take j)) (fun i _ => n' - (intOf i).toNat)
      case atStart => exact ⟨0, rfl, Nat.zero_le _, by simpa using HT⟩
      case round =>
        obtain ⟨j, rfl, hj, HT⟩ := hrel
        by_cases hlt : j < n'
        · obtain ⟨b, off, _, i1, o1, t1, hx, e1, c10, c11, c12⟩ := Arcs.at (h'.below HT.bel) hlt
          cases hx
          have E1 := Lib.hid e1
          clear e1
          obtain ⟨v1, v2, hT⟩ := HT
          have hlj : (l'.take j).length < 68719476736 := by simp; omega
          have hT1 : NodeAt (wr.alloc (.cells #[.int .u8 i1, .int .u64 o1, .int .i64 t1] 62)) (w.heap.size + 3) v2 f' o' (l'.take j) := hT.n2.below ((Below.refl _ _).alloc (Nat.le_refl _) _)
          go_wp2_with (go_at_call 33; refine (arc_any _ _ _ _ _ _ _ _ _ hT1 hlj).mono ?_; rintro e w1 ⟨rfl, v1', n1', m1, fr1⟩)
          go_roundw
          case rel => exact ⟨j + 1, by go_num, by omega, by rw [take_snoc' _ _ _ E1.out]; exact ⟨v1, v1', hT.next2 _ n1' m1 fr1⟩⟩
          case measure => simp [intOf]; omega
        · obtain rfl : j = n' := by omega
          rw [List.take_of_length_le (by rw [hlen'.out]; exact Nat.le_refl _)] at HT
          obtain ⟨v1, v2, hT⟩ := HT
          go_wp2_with fail
          refine (zzequiv_any _ _ _ _ _ _ _ _ _ _ _ hT.n1 hT.n2).mono ?_
          rintro e w2 ⟨rfl, hb2⟩
          go_wp2_with fail
          go_ret
          exact ⟨rfl, hT.bel.trans (hb2.mono hT.bel.size)⟩

/-- The two boxed states of the law, in blocks 0 and 1 from the call's first one on. -/
structure Bx (w wr : World) (f f' : Bool) (o o' : Int) (v v' : Value) : Prop where
  bel : Below w.heap.size w wr
  a0 : wr.cell? ⟨w.heap.size, 0, none⟩ = some (.bool f)
  a1 : wr.cell? ⟨w.heap.size, 1, none⟩ = some (.int .u64 o)
  a2 : wr.cell? ⟨w.heap.size, 2, none⟩ = some v
  b0 : wr.cell? ⟨w.heap.size + 1, 0, none⟩ = some (.bool f')
  b1 : wr.cell? ⟨w.heap.size + 1, 1, none⟩ = some (.int .u64 o')
  b2 : wr.cell? ⟨w.heap.size + 1, 2, none⟩ = some v'
theorem Bx.next {w wr w1 : World} {f f' : Bool} {o o' : Int} {v v' : Value} (h : Bx w wr f f' o o' v v') (hb : Below wr.heap.size wr w1) : Bx w w1 f f' o o' v v' := by
  have k : ∀ {a : Addr} {u : Value}, wr.cell? a = some u → w1.cell? a = some u := fun ha => (hb.cell (World.block_lt_of_cell? wr _ ha)).trans ha
  exact ⟨h.bel.trans (hb.mono h.bel.size), k h.a0, k h.a1, k h.a2, k h.b0, k h.b1, k h.b2⟩
theorem bx_start (w : World) (f f' : Bool) (o o' : Int) (ao : Option Addr) (n cap : Nat) (ao' : Option Addr) (n' cap' : Nat) :
    Bx w ((w.alloc (Obj.cells #[Value.bool f, Value.int IntKind.u64 o, Value.slice ao n cap] 42)).alloc (Obj.cells #[Value.bool f', Value.int IntKind.u64 o', Value.slice ao' n' cap'] 42)) f f' o o' (.slice ao n cap) (.slice ao' n' cap') :=
  ⟨((Below.refl _ _).alloc (Nat.le_refl _) _).alloc (by simp) _, by go_simp, by go_simp, by go_simp, by go_simp, by go_simp, by go_simp⟩
theorem fits_yes (f : Bool) (o : Int) (a : Option Addr) (n c : Nat) (w : World) (h : n ≤ 2147483647) :
    Calls Try.prog 20 #[.agg #[.bool f, .int .u64 o, .slice a n c]] w fun e w' => e = .returned (.bool true) ∧ Below w.heap.size w w' := by
  have := fits9 f o a n c w
  simpa [h] using this
theorem fits_no (f : Bool) (o : Int) (a : Option Addr) (n c : Nat) (w : World) (h : ¬ n ≤ 2147483647) :
    Calls Try.prog 20 #[.agg #[.bool f, .int .u64 o, .slice a n c]] w fun e w' => e = .returned (.bool false) ∧ Below w.heap.size w w' := by
  have := fits9 f o a n c w
  simpa [h] using this
/-- The law. -/
theorem law_any (f f' : Bool) (o o' : Int) (v v' : Value) (n n' : Nat) (l l' : List Arc) (w : World) (h : Arcs w v n l) (h' : Arcs w v' n' l') :
    Calls Try.prog 9 #[.agg #[.bool f, .int .u64 o, v], .agg #[.bool f', .int .u64 o', v']] w fun e w' => e = .returned (.bool true) ∧ Below w.heap.size w w' := by
  obtain ⟨ao, cap, rfl⟩ := h.form
  obtain ⟨ao', cap', rfl⟩ := h'.form
  have B0 := bx_start w f f' o o' ao n cap ao' n' cap'
  by_cases c1 : n ≤ 2147483647
  · by_cases c2 : n' ≤ 2147483647
    · go_enter Try.func9, Try.ntmps9
      go_wp2_with fail
      refine (fits_yes _ _ _ _ _ _ c1).mono ?_
      rintro e w1 ⟨rfl, b1⟩
      have B1 := B0.next b1
      obtain ⟨e1, p0, p1, p2, q0, q1, q2⟩ := id B1
      clear b1 e1 B0
      go_wp2_with fail
      refine (fits_yes _ _ _ _ _ _ c2).mono ?_
      rintro e w2 ⟨rfl, b2⟩
      have B2 := B1.next b2
      clear b2 B1 p0 p1 p2 q0 q1 q2
      obtain ⟨e2, p0, p1, p2, q0, q1, q2⟩ := id B2
      go_wp2_with fail
      refine (rising_any _ _ _ _ _ _ (h.below e2)).mono ?_
      rintro e w3 ⟨rfl, b3⟩
      have B3 := B2.next b3
      clear b3 B2 e2 p0 p1 p2 q0 q1 q2
      obtain ⟨e3, p0, p1, p2, q0, q1, q2⟩ := id B3
      by_cases r1 : risingB l = true
      · rw [r1]
        clear r1
        go_wp2_with fail
        refine (rising_any _ _ _ _ _ _ (h'.below e3)).mono ?_
        rintro e w4 ⟨rfl, b4⟩
        have B4 := B3.next b4
        clear b4 B3 e3 p0 p1 p2 q0 q1 q2
        obtain ⟨e4, p0, p1, p2, q0, q1, q2⟩ := id B4
        by_cases r2 : risingB l' = true
        · rw [r2]
          clear r2
          go_wp2_with fail
          have p0' := cell_regrown p0
          have p1' := cell_regrown p1
          have p2' := cell_regrown p2
          have q0' := cell_regrown q0
          have q1' := cell_regrown q1
          have q2' := cell_regrown q2
          clear p0 p1 p2 q0 q1 q2
          have hS : Hid (sameB f f o o l l = true) := Lib.hid (by simp [sameB])
          refine wp_region_quiet_below (by kernel_rfl) (by kernel_rfl) ?_
          repeat (first | go_big_quiet_step (first | (go_at_call 22; first | exact Calls.regrown_of (implEquiv _ _ _ _ _ _ _ _ _ _ _ (h.below (e4.trans ((below_regrown _ _ _).mono e4.size))) (h'.below (e4.trans ((below_regrown _ _ _).mono e4.size))) c1 c2) | exact Calls.regrown_of (implEquiv _ _ _ _ _ _ _ _ _ _ _ (h.below (e4.trans ((below_regrown _ _ _).mono e4.size))) (h.below (e4.trans ((below_regrown _ _ _).mono e4.size))) c1 c1)) | exact Calls.regrown_of (same_any _ _ _ _ _ _ _ _ _ _ _ (h.below (e4.trans ((below_regrown _ _ _).mono e4.size))) (h'.below (e4.trans ((below_regrown _ _ _).mono e4.size))))) | quiet_step (first | (go_at_call 22; first | exact Calls.regrown_of (implEquiv _ _ _ _ _ _ _ _ _ _ _ (h.below (e4.trans ((below_regrown _ _ _).mono e4.size))) (h'.below (e4.trans ((below_regrown _ _ _).mono e4.size))) c1 c2) | exact Calls.regrown_of (implEquiv _ _ _ _ _ _ _ _ _ _ _ (h.below (e4.trans ((below_regrown _ _ _).mono e4.size))) (h.below (e4.trans ((below_regrown _ _ _).mono e4.size))) c1 c1)) | exact Calls.regrown_of (same_any _ _ _ _ _ _ _ _ _ _ _ (h.below (e4.trans ((below_regrown _ _ _).mono e4.size))) (h'.below (e4.trans ((below_regrown _ _ _).mono e4.size))))))
          refine wpQuiet_nil ?_
          intro _ hw'
          obtain ⟨⟨dq, osq⟩, hw''⟩ := hw'
          subst hw''
          go_wp2
          go_ret
          exact ⟨by simp [hS.out], e4.trans ((below_regrown _ _ _).mono e4.size)⟩
        · rw [show risingB l' = false by simpa using r2]
          clear r2
          go_wp2_with fail
          go_ret
          exact ⟨rfl, e4⟩
      · rw [show risingB l = false by simpa using r1]
        clear r1
        go_wp2_with fail
        go_ret
        exact ⟨rfl, e3⟩
    · go_enter Try.func9, Try.ntmps9
      go_wp2_with fail
      refine (fits_yes _ _ _ _ _ _ c1).mono ?_
      rintro e w1 ⟨rfl, b1⟩
      have B1 := B0.next b1
      obtain ⟨e1, p0, p1, p2, q0, q1, q2⟩ := id B1
      clear b1 B0
      go_wp2_with fail
      refine (fits_no _ _ _ _ _ _ c2).mono ?_
      rintro e w2 ⟨rfl, b2⟩
      go_wp2_with fail
      go_ret
      exact ⟨rfl, (B1.next b2).bel⟩
  · go_enter Try.func9, Try.ntmps9
    go_wp2_with fail
    refine (fits_no _ _ _ _ _ _ c1).mono ?_
    rintro e w1 ⟨rfl, b1⟩
    go_wp2_with fail
    go_ret
    exact ⟨rfl, (B0.next b1).bel⟩
end Go.Proofs.Ytjnfhcagfgbmnaa.Node
