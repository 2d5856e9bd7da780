/- Places: Implies. -/
import Derived.Test.YtpkkagiplockiaaNfa3
import Derived.Deep.RegionLaw
namespace Go.Proofs.Ytpkkagiplockiaa.Nfa
open Go.ChangeShapes Go.WideShapes Go.ChangeAt Go.RowKit Go.Trav Go.Nor Go.Proofs.Ytpkkagiplockiaa.Srt
set_option linter.unusedVariables false
set_option linter.unusedSimpArgs false
set_option maxRecDepth 100000
set_option maxHeartbeats 2000000 in
theorem zzimplies_any (a b : Plc) (w : World) (ha : Sm a) (hb : Sm b) :
    Calls Try.prog 18 #[pV a, pV b] w fun e w' => e = .returned (.bool (imp a b)) ∧ Below w.heap.size w w' := by
  unfold pV
  go_enter Try.func18, Try.ntmps18
  go_upto_region 1 with (fail)
  have hb0 : ((w.alloc (.cells #[.int .u32 (a.o : Nat), .int .u8 (a.d : Nat), .bool a.t] 50)).alloc (.cells #[.int .u32 (b.o : Nat), .int .u8 (b.d : Nat), .bool b.t] 50)).heap[w.heap.size]? = some (.cells #[.int .u32 (a.o : Nat), .int .u8 (a.d : Nat), .bool a.t] 50 (0, 0)) := block_alloc (heap_alloc_new w _)
  have hb1 : ((w.alloc (.cells #[.int .u32 (a.o : Nat), .int .u8 (a.d : Nat), .bool a.t] 50)).alloc (.cells #[.int .u32 (b.o : Nat), .int .u8 (b.d : Nat), .bool b.t] 50)).heap[w.heap.size + 1]? = some (.cells #[.int .u32 (b.o : Nat), .int .u8 (b.d : Nat), .bool b.t] 50 (0, 0)) := heap_alloc_at _ _ _ (by simp)
  have hB := ((Below.refl w.heap.size w).alloc (Nat.le_refl _) (.cells #[.int .u32 (a.o : Nat), .int .u8 (a.d : Nat), .bool a.t] 50)).alloc (by simp) (.cells #[.int .u32 (b.o : Nat), .int .u8 (b.d : Nat), .bool b.t] 50)
  generalize (w.alloc (.cells #[.int .u32 (a.o : Nat), .int .u8 (a.d : Nat), .bool a.t] 50)).alloc (.cells #[.int .u32 (b.o : Nat), .int .u8 (b.d : Nat), .bool b.t] 50) = W at hb0 hb1 hB ⊢
  have c0 := block_cell (i := 0) (u := .int .u32 (b.o : Nat)) hb1 rfl
  have c1 := block_cell (i := 1) (u := .int .u8 (b.d : Nat)) hb1 rfl
  have c2 := block_cell (i := 2) (u := .bool b.t) hb1 rfl
  have HI := Lib.hid (imply_any w.heap.size 0 a b W ha hb (block_cell hb0 rfl) (block_cell hb0 rfl) (block_cell hb0 rfl))
  have HB := Lib.hid hB
  clear hb0 hb1 hB
  go_wp2_with fail
  refine HI.out.mono ?_
  rintro e w2 ⟨rfl, h2⟩
  go_wp2_with fail
  go_ret
  exact ⟨rfl, HB.out.trans (h2.mono HB.out.size)⟩
/-- in at a slice of one place. -/
theorem in_one (x : Plc) (k : Nat) (W : World) (h : W.heap[k]? = some (.cells #[.int .u32 (x.o : Nat), .int .u8 (x.d : Nat), .bool x.t] 25 (0, 0))) :
    Calls Try.prog 16 #[.slice (some ⟨k, 0, none⟩) 1 1] W fun e w' => ∃ g cap, e = .returned (.slice (some ⟨g, 0, none⟩) 1 cap) ∧ (w'.cell? ⟨g, 0, none⟩ = some (.int .u32 (x.o : Nat)) ∧ w'.cell? ⟨g, 1, none⟩ = some (.int .u8 (x.d : Nat)) ∧ w'.cell? ⟨g, 2, none⟩ = some (.bool x.t)) ∧ Below W.heap.size W w' := by
  refine (in_any (.slice (some ⟨k, 0, none⟩) 1 1) 1 [x] W ?_ (by omega)).mono ?_
  · refine ⟨_, 1, rfl, Nat.le_refl _, by unfold maxLen; omega, fun h => (by cases h), rfl, fun _ => ⟨_, _, rfl, fun j u hj => ?_⟩⟩
    refine block_cell h ?_
    rw [Nat.zero_add]
    simpa [pC] using hj
  · rintro e w' ⟨v', rfl, ho, hb⟩
    obtain ⟨g, cap, rfl, _, _, _, q⟩ := ownsRow_at ho (by simp [pC])
    exact ⟨g, cap, rfl, ⟨(q 0 _ rfl).1, (q 1 _ rfl).1, (q 2 _ rfl).1⟩, hb⟩
theorem b_al {W w : World} (h : Below W.heap.size W w) (o : Obj) : Below W.heap.size W (w.alloc o) := h.alloc h.size o
theorem b_dr {W w : World} (h : Below W.heap.size W w) : Below W.heap.size W w.drew := h.drew
theorem b_tr {W0 Wc w' : World} (h : Below W0.heap.size W0 Wc) (h' : Below Wc.heap.size Wc w') : Below W0.heap.size W0 w' := h.trans (h'.mono h.size)
theorem keep3 {w w' : World} {g : Nat} {x y z : Value} (h : w.cell? ⟨g, 0, none⟩ = some x ∧ w.cell? ⟨g, 1, none⟩ = some y ∧ w.cell? ⟨g, 2, none⟩ = some z) (hb : Below w.heap.size w w') :
    w'.cell? ⟨g, 0, none⟩ = some x ∧ w'.cell? ⟨g, 1, none⟩ = some y ∧ w'.cell? ⟨g, 2, none⟩ = some z := by
  have hl := World.block_lt_of_cell? w _ h.1
  exact ⟨(World.cell?_of_block (hb.block g hl)).trans h.1, (World.cell?_of_block (hb.block g hl)).trans h.2.1, (World.cell?_of_block (hb.block g hl)).trans h.2.2⟩
set_option maxHeartbeats 8000000 in
theorem implies_any (a b : Plc) (w : World) (ha : Sm a) (hb : Sm b) :
    Calls Try.prog 7 #[pV a, pV b] w fun e w' => e = .returned (.bool (imp a b)) ∧ Below w.heap.size w w' := by
  have HZ := Lib.hid (fun W => zzimplies_any a b W ha hb)
  unfold pV at HZ ⊢
  go_enter Try.func7, Try.ntmps7
  go_upto_region 1 with (fail)
  have hb0 : ((w.alloc (.cells #[.int .u32 (a.o : Nat), .int .u8 (a.d : Nat), .bool a.t] 25)).alloc (.cells #[.int .u32 (b.o : Nat), .int .u8 (b.d : Nat), .bool b.t] 25)).heap[w.heap.size]? = some (.cells #[.int .u32 (a.o : Nat), .int .u8 (a.d : Nat), .bool a.t] 25 (0, 0)) := block_alloc (heap_alloc_new w _)
  have hb1 : ((w.alloc (.cells #[.int .u32 (a.o : Nat), .int .u8 (a.d : Nat), .bool a.t] 25)).alloc (.cells #[.int .u32 (b.o : Nat), .int .u8 (b.d : Nat), .bool b.t] 25)).heap[w.heap.size + 1]? = some (.cells #[.int .u32 (b.o : Nat), .int .u8 (b.d : Nat), .bool b.t] 25 (0, 0)) := heap_alloc_at _ _ _ (by simp)
  have hB := ((Below.refl w.heap.size w).alloc (Nat.le_refl _) (.cells #[.int .u32 (a.o : Nat), .int .u8 (a.d : Nat), .bool a.t] 25)).alloc (by simp) (.cells #[.int .u32 (b.o : Nat), .int .u8 (b.d : Nat), .bool b.t] 25)
  generalize (w.alloc (.cells #[.int .u32 (a.o : Nat), .int .u8 (a.d : Nat), .bool a.t] 25)).alloc (.cells #[.int .u32 (b.o : Nat), .int .u8 (b.d : Nat), .bool b.t] 25) = W2 at hb0 hb1 hB ⊢
  have hkk : ∀ W, Below W2.heap.size W2 W → Below W2.heap.size W2 W ∧ (W.cell? ⟨w.heap.size, 0, none⟩ = some (.int .u32 (a.o : Nat)) ∧ W.cell? ⟨w.heap.size, 1, none⟩ = some (.int .u8 (a.d : Nat)) ∧ W.cell? ⟨w.heap.size, 2, none⟩ = some (.bool a.t)) ∧ (W.cell? ⟨w.heap.size + 1, 0, none⟩ = some (.int .u32 (b.o : Nat)) ∧ W.cell? ⟨w.heap.size + 1, 1, none⟩ = some (.int .u8 (b.d : Nat)) ∧ W.cell? ⟨w.heap.size + 1, 2, none⟩ = some (.bool b.t)) := fun W h => by
    have h0 := block_below hb0 h (block_lt hb0)
    have h1 := block_below hb1 h (block_lt hb1)
    exact ⟨h, ⟨block_cell h0 rfl, block_cell h0 rfl, block_cell h0 rfl⟩, block_cell h1 rfl, block_cell h1 rfl, block_cell h1 rfl⟩
  have HKK := Lib.hid hkk
  have HB := Lib.hid hB
  have HI1 := Lib.hid (in_one a)
  have HI2 := Lib.hid (in_one b)
  have hd0 : Below W2.heap.size W2 W2 := Below.refl _ _
  have x1 : (W2.alloc (.cells #[.int .u32 (a.o : Nat), .int .u8 (a.d : Nat), .bool a.t] 25)).drew.heap[W2.heap.size]? = some (.cells #[.int .u32 (a.o : Nat), .int .u8 (a.d : Nat), .bool a.t] 25 (0, 0)) := heap_alloc_new W2 _
  have x2 : ((W2.alloc (.cells #[.int .u32 (a.o : Nat), .int .u8 (a.d : Nat), .bool a.t] 25)).alloc (.cells #[.int .u32 (b.o : Nat), .int .u8 (b.d : Nat), .bool b.t] 25)).drew.heap[W2.heap.size]? = some (.cells #[.int .u32 (a.o : Nat), .int .u8 (a.d : Nat), .bool a.t] 25 (0, 0)) := block_alloc (heap_alloc_new W2 _)
  have x3 : ((W2.alloc (.cells #[.int .u32 (b.o : Nat), .int .u8 (b.d : Nat), .bool b.t] 25)).alloc (.cells #[.int .u32 (a.o : Nat), .int .u8 (a.d : Nat), .bool a.t] 25)).drew.heap[W2.heap.size + 1]? = some (.cells #[.int .u32 (a.o : Nat), .int .u8 (a.d : Nat), .bool a.t] 25 (0, 0)) := heap_alloc_at (W2.alloc (.cells #[.int .u32 (b.o : Nat), .int .u8 (b.d : Nat), .bool b.t] 25)) _ _ (by simp)
  have y2 : ((W2.alloc (.cells #[.int .u32 (a.o : Nat), .int .u8 (a.d : Nat), .bool a.t] 25)).alloc (.cells #[.int .u32 (b.o : Nat), .int .u8 (b.d : Nat), .bool b.t] 25)).drew.heap[W2.heap.size + 1]? = some (.cells #[.int .u32 (b.o : Nat), .int .u8 (b.d : Nat), .bool b.t] 25 (0, 0)) := heap_alloc_at (W2.alloc (.cells #[.int .u32 (a.o : Nat), .int .u8 (a.d : Nat), .bool a.t] 25)) _ _ (by simp)
  have y3 : ((W2.alloc (.cells #[.int .u32 (b.o : Nat), .int .u8 (b.d : Nat), .bool b.t] 25)).alloc (.cells #[.int .u32 (a.o : Nat), .int .u8 (a.d : Nat), .bool a.t] 25)).drew.heap[W2.heap.size]? = some (.cells #[.int .u32 (b.o : Nat), .int .u8 (b.d : Nat), .bool b.t] 25 (0, 0)) := block_alloc (heap_alloc_new W2 _)
  clear hb0 hb1 hB hkk
  obtain ⟨-, ⟨o0, o1, o2⟩, o3, o4, o5⟩ := HKK.out W2 hd0
  have o6 := fun oo => (HKK.out (W2.alloc oo) (b_al hd0 oo)).2.1.1
  have o7 := fun oo => (HKK.out (W2.alloc oo) (b_al hd0 oo)).2.1.2.1
  have o8 := fun oo => (HKK.out (W2.alloc oo) (b_al hd0 oo)).2.1.2.2
  have o9 := fun oo => (HKK.out (W2.alloc oo) (b_al hd0 oo)).2.2.1
  have oa := fun oo => (HKK.out (W2.alloc oo) (b_al hd0 oo)).2.2.2.1
  have ob := fun oo => (HKK.out (W2.alloc oo) (b_al hd0 oo)).2.2.2.2
  go_region_law (first
    | (go_simp; go_at_call 16; (with_reducible refine Calls.mono (HI1.out _ _ x1) ?_); rintro e wA ⟨gA, cA, heA, hcA, hbA⟩
       obtain rfl : e = .returned (.slice (some ⟨gA, 0, none⟩) 1 cA) := heA
       have hWA : Below W2.heap.size W2 wA := b_tr (b_al hd0 _).drew hbA
       obtain ⟨-, ⟨p0, p1, p2⟩, p3, p4, p5⟩ := HKK.out wA hWA
       have p6 := fun oo => (HKK.out (wA.alloc oo) (b_al hWA oo)).2.1.1
       have p7 := fun oo => (HKK.out (wA.alloc oo) (b_al hWA oo)).2.1.2.1
       have p8 := fun oo => (HKK.out (wA.alloc oo) (b_al hWA oo)).2.1.2.2
       have p9 := fun oo => (HKK.out (wA.alloc oo) (b_al hWA oo)).2.2.1
       have pa := fun oo => (HKK.out (wA.alloc oo) (b_al hWA oo)).2.2.2.1
       have pb := fun oo => (HKK.out (wA.alloc oo) (b_al hWA oo)).2.2.2.2
       have HCA := Lib.hid hcA
       have q0 := fun oo => (keep3 (w' := wA.alloc oo) hcA (b_al (Below.refl _ wA) oo)).1
       have q1 := fun oo => (keep3 (w' := wA.alloc oo) hcA (b_al (Below.refl _ wA) oo)).2.1
       have q2 := fun oo => (keep3 (w' := wA.alloc oo) hcA (b_al (Below.refl _ wA) oo)).2.2
       obtain ⟨ga0, ga1, ga2⟩ := hcA
       clear hbA)
    | (go_simp; go_at_call 16; (with_reducible refine Calls.mono (HI1.out _ _ x2) ?_); rintro e wA ⟨gA, cA, heA, hcA, hbA⟩
       obtain rfl : e = .returned (.slice (some ⟨gA, 0, none⟩) 1 cA) := heA
       have hWA : Below W2.heap.size W2 wA := b_tr (b_al (b_al hd0 _) _).drew hbA
       obtain ⟨-, ⟨p0, p1, p2⟩, p3, p4, p5⟩ := HKK.out wA hWA
       have p6 := fun oo => (HKK.out (wA.alloc oo) (b_al hWA oo)).2.1.1
       have p7 := fun oo => (HKK.out (wA.alloc oo) (b_al hWA oo)).2.1.2.1
       have p8 := fun oo => (HKK.out (wA.alloc oo) (b_al hWA oo)).2.1.2.2
       have p9 := fun oo => (HKK.out (wA.alloc oo) (b_al hWA oo)).2.2.1
       have pa := fun oo => (HKK.out (wA.alloc oo) (b_al hWA oo)).2.2.2.1
       have pb := fun oo => (HKK.out (wA.alloc oo) (b_al hWA oo)).2.2.2.2
       have HCA := Lib.hid hcA
       have q0 := fun oo => (keep3 (w' := wA.alloc oo) hcA (b_al (Below.refl _ wA) oo)).1
       have q1 := fun oo => (keep3 (w' := wA.alloc oo) hcA (b_al (Below.refl _ wA) oo)).2.1
       have q2 := fun oo => (keep3 (w' := wA.alloc oo) hcA (b_al (Below.refl _ wA) oo)).2.2
       obtain ⟨ga0, ga1, ga2⟩ := hcA
       have kb := block_below y2 hbA (block_lt y2)
       clear hbA)
    | (go_simp; go_at_call 16; (with_reducible refine Calls.mono (HI1.out _ _ x3) ?_); rintro e wA ⟨gA, cA, heA, hcA, hbA⟩
       obtain rfl : e = .returned (.slice (some ⟨gA, 0, none⟩) 1 cA) := heA
       have hWA : Below W2.heap.size W2 wA := b_tr (b_al (b_al hd0 _) _).drew hbA
       obtain ⟨-, ⟨p0, p1, p2⟩, p3, p4, p5⟩ := HKK.out wA hWA
       have p6 := fun oo => (HKK.out (wA.alloc oo) (b_al hWA oo)).2.1.1
       have p7 := fun oo => (HKK.out (wA.alloc oo) (b_al hWA oo)).2.1.2.1
       have p8 := fun oo => (HKK.out (wA.alloc oo) (b_al hWA oo)).2.1.2.2
       have p9 := fun oo => (HKK.out (wA.alloc oo) (b_al hWA oo)).2.2.1
       have pa := fun oo => (HKK.out (wA.alloc oo) (b_al hWA oo)).2.2.2.1
       have pb := fun oo => (HKK.out (wA.alloc oo) (b_al hWA oo)).2.2.2.2
       have HCA := Lib.hid hcA
       have q0 := fun oo => (keep3 (w' := wA.alloc oo) hcA (b_al (Below.refl _ wA) oo)).1
       have q1 := fun oo => (keep3 (w' := wA.alloc oo) hcA (b_al (Below.refl _ wA) oo)).2.1
       have q2 := fun oo => (keep3 (w' := wA.alloc oo) hcA (b_al (Below.refl _ wA) oo)).2.2
       obtain ⟨ga0, ga1, ga2⟩ := hcA
       have kb := block_below y3 hbA (block_lt y3)
       clear hbA)
    | (go_simp; go_at_call 16; (with_reducible refine Calls.mono (HI2.out _ _ kb) ?_); rintro e wB ⟨gB, cB, heB, hcB, hbB⟩
       obtain rfl : e = .returned (.slice (some ⟨gB, 0, none⟩) 1 cB) := heB
       have hWB : Below W2.heap.size W2 wB := b_tr hWA hbB
       obtain ⟨gy0, gy1, gy2⟩ := keep3 HCA.out hbB
       obtain ⟨gb0, gb1, gb2⟩ := hcB
       clear hbB)
    | (go_simp; go_at_call 16; (with_reducible refine Calls.mono (HI2.out _ _ (heap_alloc_new wA (.cells #[.int .u32 (b.o : Nat), .int .u8 (b.d : Nat), .bool b.t] 25))) ?_); rintro e wB ⟨gB, cB, heB, hcB, hbB⟩
       obtain rfl : e = .returned (.slice (some ⟨gB, 0, none⟩) 1 cB) := heB
       have hWB : Below W2.heap.size W2 wB := b_tr (b_al hWA _) hbB
       obtain ⟨gy0, gy1, gy2⟩ := keep3 HCA.out (b_tr (b_al (Below.refl _ wA) _) hbB)
       obtain ⟨gb0, gb1, gb2⟩ := hcB
       clear hbB)
    | (go_simp; go_at_call 18; (with_reducible refine Calls.mono (HZ.out _) ?_); rintro e wC ⟨rfl, hbC⟩
       have hWC : Below W2.heap.size W2 wC := b_tr hWB hbC
       clear hbC)
    | fail)
  all_goals
    go_wp2_with fail
    go_ret
    exact ⟨rfl, HB.out.trans (hWC.mono HB.out.size)⟩
end Go.Proofs.Ytpkkagiplockiaa.Nfa
