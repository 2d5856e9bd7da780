/- Region 10 of FnRegexTimes: a star of a star, a plus, a quest, a capture. Printed by tools/gen_t4.py. -/
import Derived.Test.YtnpchkohfomagaaDoorRgJa
import Derived.Test.YtnpchkohfomagaaDoorRgH2
import Derived.Test.YtnpchkohfomagaaDoorRgQ
import Derived.Deep.DeepCutAuto
import Derived.Deep.RegionHeld3
namespace Go.Proofs.YtnpchkohfomagaaDoor.Rgy
open Go.ChangeShapes Go.WideShapes Go.ChangeAt Go.RowKit Go.Trav Go.Rg Go.Utf Go.Proofs.YtnpchkohfomagaaDoor.Seq Go.Proofs.YtnpchkohfomagaaDoor.Sparse Go.Proofs.YtnpchkohfomagaaDoor.Rgw Go.Proofs.YtnpchkohfomagaaDoor.Rgq
set_option linter.unusedVariables false
set_option linter.unusedSimpArgs false
set_option maxRecDepth 100000
set_option maxHeartbeats 8000000 in
theorem reg10 {ops : Array Oper} (hops : fnOps Tryd.f8 10 = some ops) {x0 x1 x2 x3 x4 x5 x6 x7 x8 x13 x14 x15 x16 x17 x18 x19 x20 x21 x22 x23 x24 x25 x26 x27 x28 x29 x30 x31 x32 x33 x34 x35 x36 x37 x38 x39 x40 x41 x42 x43 x44 x45 x46 x47 x48 x49 x50 x51 x52 x53 x54 x55 x56 x57 x58 x59 x60 x61 x62 x63 x64 x65 x66 x67 x68 x69 x70 x71 x72 x73 x74 x75 x76 x77 x78 x79 x80 x81 x82 x83 x84 x85 x86 x87 x88 x89 x90 x91 x92 x93 x94 x95 x96 x97 x98 x99 x100 x101 x102 x103 x104 x105 x106 x107 x108 x109 x110 x111 x112 x113 x114 x115 x116 x117 x118 x119 x120 x121 x122 x123 x124 x125 x126 x127 x128 x129 x130 x131 x132 x133 x134 x135 x136 x137 x138 x139 x140 x141 x142 : Value} {df : List Deferred} {ad : Nat → Addr} {r : Rw} {N b9 b11 b12 : Nat} {a0 a1 a2 a3 a4 a5 a6 s0 s1 s2 s3 s4 s5 s6 : Value} {s' : ByteArray} {w w10 : World}
    (hT : TI r N b9 b11 b12 [a0, a1, a2, a3, a4, a5, a6] [s0, s1, s2, s3, s4, s5, s6] w w10) (hF : Fine 4 11000 (ex 4 r)) (hP : places 4 (ex 4 r) ≤ 1000) (hL : Laid w10 ad) (hs : s'.size ≤ 1000) :
    (Code.region 10 ops true).wp Tryd.prog (AtEnd fun a w' => (∃ y43 y44 y45 y46 y47 y48 y49 y50 y51 y52 y53 y54 y55 y56 y57 y58 y59 y60 y61 y62 y63 y64 y65 y66 y67 y68 y69 y70 y71 y72 y73 y74 y75 y76 y77 y78 y79 y80 y81 : Value, a = ⟨#[x0, x1, x2, x3, x4, x5, x6, x7, x8, .pointer (some ⟨b9, 0, none⟩), .string s', .pointer (some ⟨b11, 0, none⟩), .pointer (some ⟨b12, 0, none⟩), x13, x14, x15, x16, x17, x18, x19, x20, x21, x22, x23, x24, x25, x26, x27, x28, x29, x30, x31, x32, x33, x34, x35, x36, x37, x38, x39, x40, x41, x42, y43, y44, y45, y46, y47, y48, y49, y50, y51, y52, y53, y54, y55, y56, y57, y58, y59, y60, y61, y62, y63, y64, y65, y66, y67, y68, y69, y70, y71, y72, y73, y74, y75, y76, y77, y78, y79, y80, y81, .bool false, x83, x84, x85, x86, x87, x88, x89, x90, x91, x92, x93, x94, x95, x96, x97, x98, x99, x100, x101, x102, x103, x104, x105, x106, x107, x108, x109, x110, x111, x112, x113, x114, x115, x116, x117, x118, x119, x120, x121, x122, x123, x124, x125, x126, x127, x128, x129, x130, x131, x132, x133, x134, x135, x136, x137, x138, x139, x140, x141, x142], df⟩) ∧ Below w10.heap.size w10 w') ⟨#[x0, x1, x2, x3, x4, x5, x6, x7, x8, .pointer (some ⟨b9, 0, none⟩), .string s', .pointer (some ⟨b11, 0, none⟩), .pointer (some ⟨b12, 0, none⟩), x13, x14, x15, x16, x17, x18, x19, x20, x21, x22, x23, x24, x25, x26, x27, x28, x29, x30, x31, x32, x33, x34, x35, x36, x37, x38, x39, x40, x41, x42, x43, x44, x45, x46, x47, x48, x49, x50, x51, x52, x53, x54, x55, x56, x57, x58, x59, x60, x61, x62, x63, x64, x65, x66, x67, x68, x69, x70, x71, x72, x73, x74, x75, x76, x77, x78, x79, x80, x81, x82, x83, x84, x85, x86, x87, x88, x89, x90, x91, x92, x93, x94, x95, x96, x97, x98, x99, x100, x101, x102, x103, x104, x105, x106, x107, x108, x109, x110, x111, x112, x113, x114, x115, x116, x117, x118, x119, x120, x121, x122, x123, x124, x125, x126, x127, x128, x129, x130, x131, x132, x133, x134, x135, x136, x137, x138, x139, x140, x141, x142], df⟩ w10 := by
  have e : fnOps Tryd.f8 10 = some _ := rfl
  obtain rfl := Option.some.inj (hops.symm.trans e)
  clear hops e
  have hTT := fun (W : World) (hb : Below w10.heap.size w10 W) => hT.below hb
  have hLL := fun (W : World) (hb : Below w10.heap.size w10 W) => hL.below hb
  have hkk := fun (W : World) (hb : Below w10.heap.size w10 W) => And.intro hb (And.intro (cells7 (hT.below hb).k9).1 (And.intro (cells7 (hT.below hb).k11).1 (cells7 (hT.below hb).k12).1))
  have HTT := Lib.hid hTT
  have HLL := Lib.hid hLL
  have HKK := Lib.hid hkk
  have HF := Lib.hid (And.intro hF hP)
  have HS60 := Lib.hid hs
  clear hTT hLL hkk hT hL hF hP hs
  have hd0 : Below w10.heap.size w10 w10.drew := (Below.refl _ _).drew
  refine wp_region_held_start (S := fun W => Below w10.heap.size w10 W ∧ (W.cell? ⟨b9, 0, none⟩ = some (a0) ∧ W.cell? ⟨b9, 1, none⟩ = some (a1) ∧ W.cell? ⟨b9, 2, none⟩ = some (a2) ∧ W.cell? ⟨b9, 3, none⟩ = some (a3) ∧ W.cell? ⟨b9, 4, none⟩ = some (a4) ∧ W.cell? ⟨b9, 5, none⟩ = some (a5) ∧ W.cell? ⟨b9, 6, none⟩ = some (a6)) ∧ (W.cell? ⟨b11, 0, none⟩ = some (s0) ∧ W.cell? ⟨b11, 1, none⟩ = some (s1) ∧ W.cell? ⟨b11, 2, none⟩ = some (s2) ∧ W.cell? ⟨b11, 3, none⟩ = some (s3) ∧ W.cell? ⟨b11, 4, none⟩ = some (s4) ∧ W.cell? ⟨b11, 5, none⟩ = some (s5) ∧ W.cell? ⟨b11, 6, none⟩ = some (s6)) ∧ (W.cell? ⟨b12, 0, none⟩ = some (.int .i64 2) ∧ W.cell? ⟨b12, 1, none⟩ = some (.slice none 0 0) ∧ W.cell? ⟨b12, 2, none⟩ = some (.int .i64 0) ∧ W.cell? ⟨b12, 3, none⟩ = some (.int .i64 0) ∧ W.cell? ⟨b12, 4, none⟩ = some (.bool false) ∧ W.cell? ⟨b12, 5, none⟩ = some (.bool false) ∧ W.cell? ⟨b12, 6, none⟩ = some (.slice none 0 0))) 40 #[false, false, false, false, false, false, false, false, false, false, false, false, false, false, false, false, false, false, false, false, false, false, false, false, false, false, false, false, false, false, false, false, false, false, false, false, false, false, false, false] (by kernel_rfl) rfl rfl (HKK.out _ hd0) (fun hHeld => ?_)
  try simp only [Act.put, List.setIfInBounds_toArray, List.set_cons_zero, List.set_cons_succ]
  refine wpAnyH_cut 20 #[true, true, true, true, true, true, true, true, true, true, true, true, true, true, true, true, true, true, true, true, false, false, false, false, false, false, false, false, false, false, false, false, false, false, false, false, false, false, false, false] (fun a _ => ∃ y43 y44 y45 y46 y47 y48 y49 y50 y51 y52 y53 y54 y55 y56 y57 y58 y59 y60 y61 : Value, a = ⟨#[x0, x1, x2, x3, x4, x5, x6, x7, x8, .pointer (some ⟨b9, 0, none⟩), .string s', .pointer (some ⟨b11, 0, none⟩), .pointer (some ⟨b12, 0, none⟩), x13, x14, x15, x16, x17, x18, x19, x20, x21, x22, x23, x24, x25, x26, x27, x28, x29, x30, x31, x32, x33, x34, x35, x36, x37, x38, x39, x40, x41, x42, y43, y44, y45, y46, y47, y48, y49, y50, y51, y52, y53, y54, y55, y56, y57, y58, y59, y60, y61, .bool false, x63, x64, x65, x66, x67, x68, x69, x70, x71, x72, x73, x74, x75, x76, x77, x78, x79, x80, x81, x82, x83, x84, x85, x86, x87, x88, x89, x90, x91, x92, x93, x94, x95, x96, x97, x98, x99, x100, x101, x102, x103, x104, x105, x106, x107, x108, x109, x110, x111, x112, x113, x114, x115, x116, x117, x118, x119, x120, x121, x122, x123, x124, x125, x126, x127, x128, x129, x130, x131, x132, x133, x134, x135, x136, x137, x138, x139, x140, x141, x142], df⟩) ?rest20 (fun HR20 => ?main20)
  case main20 =>
    refine wpAnyH_take (i := 0) (v := ?_) rfl (by kernel_rfl) (by kernel_rfl) (by kernel_rfl) (fun _ _ _ h => h) (Or.inl ⟨by rfl, ?_⟩) hHeld ?_
    rotate_left
    · (intro w9 hSw; (try dsimp only at hSw); go_simp; try with_reducible rfl)
    try simp only [Act.put, List.setIfInBounds_toArray, List.set_cons_zero, List.set_cons_succ]
    refine wpAnyH_take (i := 1) (v := ?_) rfl (by kernel_rfl) (by kernel_rfl) (by kernel_rfl) (fun _ _ _ h => h) (Or.inl ⟨by rfl, ?_⟩) hHeld ?_
    rotate_left
    · (intro w9 hSw; (try dsimp only at hSw); go_simp; try with_reducible rfl)
    try simp only [Act.put, List.setIfInBounds_toArray, List.set_cons_zero, List.set_cons_succ]
    refine wpAnyH_take (i := 4) (v := ?_) rfl (by kernel_rfl) (by kernel_rfl) (by kernel_rfl) (fun _ _ _ h => h) (Or.inl ⟨by rfl, ?_⟩) hHeld ?_
    rotate_left
    · (intro w9 hSw; (try dsimp only at hSw); go_simp; try with_reducible rfl)
    try simp only [Act.put, List.setIfInBounds_toArray, List.set_cons_zero, List.set_cons_succ]
    refine wpAnyH_ready (rs := [2]) (by kernel_rfl) (by simp) ?_
    refine AllReadyH.cons rfl (fun K hK => ?_) AllReadyH.nil
    go_simp
    refine hK.out _ _ (HKK.out _ (below_al hd0 _)) (fun hHeld => ?_)
    clear hK K
    try simp only [Act.put, List.setIfInBounds_toArray, List.set_cons_zero, List.set_cons_succ]
    refine wpAnyH_ready (rs := [3]) (by kernel_rfl) (by simp) ?_
    refine AllReadyH.cons rfl (fun K hK => ?_) AllReadyH.nil
    go_simp
    refine Calls.mono (node_pure 14 _ 1 1 _) ?_
    rintro e wA1 ⟨rfl, hA1⟩
    have hbA1 := chain (below_al hd0 _) hA1
    have k11 := up_b hA1 (heap_alloc_new _ (.cells #[s0, s1, s2, s3, s4, s5, s6] 35))
    go_simp
    refine hK.out _ _ (HKK.out _ hbA1) (fun hHeld => ?_)
    clear hK K
    try simp only [Act.put, List.setIfInBounds_toArray, List.set_cons_zero, List.set_cons_succ]
    refine wpAnyH_ready (rs := [5]) (by kernel_rfl) (by simp) ?_
    refine AllReadyH.cons rfl (fun K hK => ?_) AllReadyH.nil
    go_simp
    refine Calls.mono (al_star (HTT.out _ hbA1) HF.out.1 HF.out.2 (HLL.out _ hbA1) HS60.out _ k11) ?_
    rintro e wC1 ⟨rfl, hC1⟩
    have hbC1 := chain hbA1 hC1
    clear k11 hA1 hC1
    go_simp
    refine hK.out _ _ (HKK.out _ hbC1) (fun hHeld => ?_)
    clear hK K
    try simp only [Act.put, List.setIfInBounds_toArray, List.set_cons_zero, List.set_cons_succ]
    refine wpAnyH_take (i := 6) (v := ?_) rfl (by kernel_rfl) (by kernel_rfl) (by kernel_rfl) (fun _ _ _ h => h) (Or.inl ⟨by rfl, ?_⟩) hHeld ?_
    rotate_left
    · (intro w9 hSw; (try dsimp only at hSw); go_simp; try with_reducible rfl)
    try simp only [Act.put, List.setIfInBounds_toArray, List.set_cons_zero, List.set_cons_succ]
    refine wpAnyH_take (i := 7) (v := ?_) rfl (by kernel_rfl) (by kernel_rfl) (by kernel_rfl) (fun _ _ _ h => h) (Or.inl ⟨by rfl, ?_⟩) hHeld ?_
    rotate_left
    · (intro w9 hSw; (try dsimp only at hSw); go_simp; try with_reducible rfl)
    try simp only [Act.put, List.setIfInBounds_toArray, List.set_cons_zero, List.set_cons_succ]
    refine wpAnyH_take (i := 8) (v := ?_) rfl (by kernel_rfl) (by kernel_rfl) (by kernel_rfl) (fun _ _ _ h => h) (Or.inl ⟨by rfl, ?_⟩) hHeld ?_
    rotate_left
    · (intro w9 hSw; (try dsimp only at hSw); go_simp; try with_reducible rfl)
    try simp only [Act.put, List.setIfInBounds_toArray, List.set_cons_zero, List.set_cons_succ]
    refine wpAnyH_take (i := 11) (v := ?_) rfl (by kernel_rfl) (by kernel_rfl) (by kernel_rfl) (fun _ _ _ h => h) (Or.inl ⟨by rfl, ?_⟩) hHeld ?_
    rotate_left
    · (intro w9 hSw; (try dsimp only at hSw); go_simp; try with_reducible rfl)
    try simp only [Act.put, List.setIfInBounds_toArray, List.set_cons_zero, List.set_cons_succ]
    refine wpAnyH_take (i := 12) (v := ?_) rfl (by kernel_rfl) (by kernel_rfl) (by kernel_rfl) (fun _ _ _ h => h) (Or.inl ⟨by rfl, ?_⟩) hHeld ?_
    rotate_left
    · (intro w9 hSw; (try dsimp only at hSw); go_simp; try with_reducible rfl)
    try simp only [Act.put, List.setIfInBounds_toArray, List.set_cons_zero, List.set_cons_succ]
    refine wpAnyH_take (i := 15) (v := ?_) rfl (by kernel_rfl) (by kernel_rfl) (by kernel_rfl) (fun _ _ _ h => h) (Or.inl ⟨by rfl, ?_⟩) hHeld ?_
    rotate_left
    · (intro w9 hSw; (try dsimp only at hSw); go_simp; try with_reducible rfl)
    try simp only [Act.put, List.setIfInBounds_toArray, List.set_cons_zero, List.set_cons_succ]
    refine wpAnyH_ready (rs := [9, 13]) (by kernel_rfl) (by simp) ?_
    refine AllReadyH.cons rfl (fun K hK => ?_) (AllReadyH.cons rfl (fun K hK => ?_) AllReadyH.nil)
    ·
      go_simp
      refine hK.out _ _ (HKK.out _ (below_al hbC1 _)) (fun hHeld => ?_)
      clear hK K
      try simp only [Act.put, List.setIfInBounds_toArray, List.set_cons_zero, List.set_cons_succ]
      refine wpAnyH_ready (rs := [10, 13]) (by kernel_rfl) (by simp) ?_
      refine AllReadyH.cons rfl (fun K hK => ?_) (AllReadyH.cons rfl (fun K hK => ?_) AllReadyH.nil)
      ·
        go_simp
        refine Calls.mono (node_pure 15 _ 1 1 _) ?_
        rintro e wA ⟨rfl, hA⟩
        have hbA := chain (below_al hbC1 _) hA
        have k1 := up_b hA (heap_alloc_new _ (.cells #[a0, a1, a2, a3, a4, a5, a6] 35))
        go_simp
        refine hK.out _ _ (HKK.out _ hbA) (fun hHeld => ?_)
        clear hK K
        try simp only [Act.put, List.setIfInBounds_toArray, List.set_cons_zero, List.set_cons_succ]
        refine wpAnyH_ready (rs := [13]) (by kernel_rfl) (by simp) ?_
        refine AllReadyH.cons rfl (fun K hK => ?_) AllReadyH.nil
        go_simp
        refine hK.out _ _ (HKK.out _ (below_al hbA _)) (fun hHeld => ?_)
        clear hK K
        try simp only [Act.put, List.setIfInBounds_toArray, List.set_cons_zero, List.set_cons_succ]
        refine wpAnyH_ready (rs := [14]) (by kernel_rfl) (by simp) ?_
        refine AllReadyH.cons rfl (fun K hK => ?_) AllReadyH.nil
        go_simp
        refine Calls.mono (node_pure 18 _ 2 2 _) ?_
        rintro e wB ⟨rfl, hB⟩
        have hbB := chain (below_al hbA _) hB
        replace k1 := up_b hB (block_alloc k1)
        have k2 := up_b hB (heap_alloc_new _ (.cells #[a0, a1, a2, a3, a4, a5, a6, s0, s1, s2, s3, s4, s5, s6] 35))
        go_simp
        refine hK.out _ _ (HKK.out _ hbB) (fun hHeld => ?_)
        clear hK K
        try simp only [Act.put, List.setIfInBounds_toArray, List.set_cons_zero, List.set_cons_succ]
        refine wpAnyH_ready (rs := [16]) (by kernel_rfl) (by simp) ?_
        refine AllReadyH.cons rfl (fun K hK => ?_) AllReadyH.nil
        go_simp
        refine Calls.mono (al_plus (HTT.out _ hbB) HF.out.1 HF.out.2 (HLL.out _ hbB) HS60.out _ _ k1 k2) ?_
        rintro e wz ⟨rfl, hz⟩
        have hbz := chain hbB hz
        clear k1 k2 hz
        go_simp
        refine hK.out _ _ (HKK.out _ hbz) (fun hHeld => ?_)
        clear hK K
        try simp only [Act.put, List.setIfInBounds_toArray, List.set_cons_zero, List.set_cons_succ]
        refine wpAnyH_take (i := 17) (v := ?_) rfl (by kernel_rfl) (by kernel_rfl) (by kernel_rfl) (fun _ _ _ h => h) (Or.inl ⟨by rfl, ?_⟩) hHeld ?_
        rotate_left
        · (intro w9 hSw; (try dsimp only at hSw); go_simp; try with_reducible rfl)
        try simp only [Act.put, List.setIfInBounds_toArray, List.set_cons_zero, List.set_cons_succ]
        refine wpAnyH_take (i := 18) (v := ?_) rfl (by kernel_rfl) (by kernel_rfl) (by kernel_rfl) (fun _ _ _ h => h) (Or.inl ⟨by rfl, ?_⟩) hHeld ?_
        rotate_left
        · (intro w9 hSw; (try dsimp only at hSw); go_simp; try with_reducible rfl)
        try simp only [Act.put, List.setIfInBounds_toArray, List.set_cons_zero, List.set_cons_succ]
        refine wpAnyH_take (i := 19) (v := ?_) rfl (by kernel_rfl) (by kernel_rfl) (by kernel_rfl) (fun _ _ _ h => h) (Or.inl ⟨by rfl, ?_⟩) hHeld ?_
        rotate_left
        · (intro w9 hSw; (try dsimp only at hSw); go_simp; try with_reducible rfl)
        try simp only [Act.put, List.setIfInBounds_toArray, List.set_cons_zero, List.set_cons_succ]
        exact HR20.out _ _ ⟨_, _, _, _, _, _, _, _, _, _, _, _, _, _, _, _, _, _, _, rfl⟩ (HKK.out _ hbz)
      ·
        go_simp
        refine hK.out _ _ (HKK.out _ (below_al (below_al hbC1 _) _)) (fun hHeld => ?_)
        clear hK K
        try simp only [Act.put, List.setIfInBounds_toArray, List.set_cons_zero, List.set_cons_succ]
        refine wpAnyH_ready (rs := [10]) (by kernel_rfl) (by simp) ?_
        refine AllReadyH.cons rfl (fun K hK => ?_) AllReadyH.nil
        go_simp
        refine Calls.mono (node_pure 15 _ 1 1 _) ?_
        rintro e wA ⟨rfl, hA⟩
        have hbA := chain (below_al (below_al hbC1 _) _) hA
        have k1 := up_b hA (block_alloc (o' := (.cells #[a0, a1, a2, a3, a4, a5, a6, s0, s1, s2, s3, s4, s5, s6] 35)) (heap_alloc_new wC1 (.cells #[a0, a1, a2, a3, a4, a5, a6] 35)))
        have k2 := up_b hA (heap_alloc_at (wC1.alloc (.cells #[a0, a1, a2, a3, a4, a5, a6] 35)) (.cells #[a0, a1, a2, a3, a4, a5, a6, s0, s1, s2, s3, s4, s5, s6] 35) (wC1.heap.size + 1) (by simp))
        go_simp
        refine hK.out _ _ (HKK.out _ hbA) (fun hHeld => ?_)
        clear hK K
        try simp only [Act.put, List.setIfInBounds_toArray, List.set_cons_zero, List.set_cons_succ]
        refine wpAnyH_ready (rs := [14]) (by kernel_rfl) (by simp) ?_
        refine AllReadyH.cons rfl (fun K hK => ?_) AllReadyH.nil
        go_simp
        refine Calls.mono (node_pure 18 _ 2 2 _) ?_
        rintro e wB ⟨rfl, hB⟩
        have hbB := chain hbA hB
        replace k1 := up_b hB k1
        replace k2 := up_b hB k2
        go_simp
        refine hK.out _ _ (HKK.out _ hbB) (fun hHeld => ?_)
        clear hK K
        try simp only [Act.put, List.setIfInBounds_toArray, List.set_cons_zero, List.set_cons_succ]
        refine wpAnyH_ready (rs := [16]) (by kernel_rfl) (by simp) ?_
        refine AllReadyH.cons rfl (fun K hK => ?_) AllReadyH.nil
        go_simp
        refine Calls.mono (al_plus (HTT.out _ hbB) HF.out.1 HF.out.2 (HLL.out _ hbB) HS60.out _ _ k1 k2) ?_
        rintro e wz ⟨rfl, hz⟩
        have hbz := chain hbB hz
        clear k1 k2 hz
        go_simp
        refine hK.out _ _ (HKK.out _ hbz) (fun hHeld => ?_)
        clear hK K
        try simp only [Act.put, List.setIfInBounds_toArray, List.set_cons_zero, List.set_cons_succ]
        refine wpAnyH_take (i := 17) (v := ?_) rfl (by kernel_rfl) (by kernel_rfl) (by kernel_rfl) (fun _ _ _ h => h) (Or.inl ⟨by rfl, ?_⟩) hHeld ?_
        rotate_left
        · (intro w9 hSw; (try dsimp only at hSw); go_simp; try with_reducible rfl)
        try simp only [Act.put, List.setIfInBounds_toArray, List.set_cons_zero, List.set_cons_succ]
        refine wpAnyH_take (i := 18) (v := ?_) rfl (by kernel_rfl) (by kernel_rfl) (by kernel_rfl) (fun _ _ _ h => h) (Or.inl ⟨by rfl, ?_⟩) hHeld ?_
        rotate_left
        · (intro w9 hSw; (try dsimp only at hSw); go_simp; try with_reducible rfl)
        try simp only [Act.put, List.setIfInBounds_toArray, List.set_cons_zero, List.set_cons_succ]
        refine wpAnyH_take (i := 19) (v := ?_) rfl (by kernel_rfl) (by kernel_rfl) (by kernel_rfl) (fun _ _ _ h => h) (Or.inl ⟨by rfl, ?_⟩) hHeld ?_
        rotate_left
        · (intro w9 hSw; (try dsimp only at hSw); go_simp; try with_reducible rfl)
        try simp only [Act.put, List.setIfInBounds_toArray, List.set_cons_zero, List.set_cons_succ]
        exact HR20.out _ _ ⟨_, _, _, _, _, _, _, _, _, _, _, _, _, _, _, _, _, _, _, rfl⟩ (HKK.out _ hbz)
    ·
      go_simp
      refine hK.out _ _ (HKK.out _ (below_al hbC1 _)) (fun hHeld => ?_)
      clear hK K
      try simp only [Act.put, List.setIfInBounds_toArray, List.set_cons_zero, List.set_cons_succ]
      refine wpAnyH_ready (rs := [9]) (by kernel_rfl) (by simp) ?_
      refine AllReadyH.cons rfl (fun K hK => ?_) AllReadyH.nil
      go_simp
      refine hK.out _ _ (HKK.out _ (below_al (below_al hbC1 _) _)) (fun hHeld => ?_)
      clear hK K
      try simp only [Act.put, List.setIfInBounds_toArray, List.set_cons_zero, List.set_cons_succ]
      refine wpAnyH_ready (rs := [10]) (by kernel_rfl) (by simp) ?_
      refine AllReadyH.cons rfl (fun K hK => ?_) AllReadyH.nil
      go_simp
      refine Calls.mono (node_pure 15 _ 1 1 _) ?_
      rintro e wA ⟨rfl, hA⟩
      have hbA := chain (below_al (below_al hbC1 _) _) hA
      have k2 := up_b hA (block_alloc (o' := (.cells #[a0, a1, a2, a3, a4, a5, a6] 35)) (heap_alloc_new wC1 (.cells #[a0, a1, a2, a3, a4, a5, a6, s0, s1, s2, s3, s4, s5, s6] 35)))
      have k1 := up_b hA (heap_alloc_at (wC1.alloc (.cells #[a0, a1, a2, a3, a4, a5, a6, s0, s1, s2, s3, s4, s5, s6] 35)) (.cells #[a0, a1, a2, a3, a4, a5, a6] 35) (wC1.heap.size + 1) (by simp))
      go_simp
      refine hK.out _ _ (HKK.out _ hbA) (fun hHeld => ?_)
      clear hK K
      try simp only [Act.put, List.setIfInBounds_toArray, List.set_cons_zero, List.set_cons_succ]
      refine wpAnyH_ready (rs := [14]) (by kernel_rfl) (by simp) ?_
      refine AllReadyH.cons rfl (fun K hK => ?_) AllReadyH.nil
      go_simp
      refine Calls.mono (node_pure 18 _ 2 2 _) ?_
      rintro e wB ⟨rfl, hB⟩
      have hbB := chain hbA hB
      replace k1 := up_b hB k1
      replace k2 := up_b hB k2
      go_simp
      refine hK.out _ _ (HKK.out _ hbB) (fun hHeld => ?_)
      clear hK K
      try simp only [Act.put, List.setIfInBounds_toArray, List.set_cons_zero, List.set_cons_succ]
      refine wpAnyH_ready (rs := [16]) (by kernel_rfl) (by simp) ?_
      refine AllReadyH.cons rfl (fun K hK => ?_) AllReadyH.nil
      go_simp
      refine Calls.mono (al_plus (HTT.out _ hbB) HF.out.1 HF.out.2 (HLL.out _ hbB) HS60.out _ _ k1 k2) ?_
      rintro e wz ⟨rfl, hz⟩
      have hbz := chain hbB hz
      clear k1 k2 hz
      go_simp
      refine hK.out _ _ (HKK.out _ hbz) (fun hHeld => ?_)
      clear hK K
      try simp only [Act.put, List.setIfInBounds_toArray, List.set_cons_zero, List.set_cons_succ]
      refine wpAnyH_take (i := 17) (v := ?_) rfl (by kernel_rfl) (by kernel_rfl) (by kernel_rfl) (fun _ _ _ h => h) (Or.inl ⟨by rfl, ?_⟩) hHeld ?_
      rotate_left
      · (intro w9 hSw; (try dsimp only at hSw); go_simp; try with_reducible rfl)
      try simp only [Act.put, List.setIfInBounds_toArray, List.set_cons_zero, List.set_cons_succ]
      refine wpAnyH_take (i := 18) (v := ?_) rfl (by kernel_rfl) (by kernel_rfl) (by kernel_rfl) (fun _ _ _ h => h) (Or.inl ⟨by rfl, ?_⟩) hHeld ?_
      rotate_left
      · (intro w9 hSw; (try dsimp only at hSw); go_simp; try with_reducible rfl)
      try simp only [Act.put, List.setIfInBounds_toArray, List.set_cons_zero, List.set_cons_succ]
      refine wpAnyH_take (i := 19) (v := ?_) rfl (by kernel_rfl) (by kernel_rfl) (by kernel_rfl) (fun _ _ _ h => h) (Or.inl ⟨by rfl, ?_⟩) hHeld ?_
      rotate_left
      · (intro w9 hSw; (try dsimp only at hSw); go_simp; try with_reducible rfl)
      try simp only [Act.put, List.setIfInBounds_toArray, List.set_cons_zero, List.set_cons_succ]
      exact HR20.out _ _ ⟨_, _, _, _, _, _, _, _, _, _, _, _, _, _, _, _, _, _, _, rfl⟩ (HKK.out _ hbz)
  case rest20 =>
    rintro a wC2 ⟨y43, y44, y45, y46, y47, y48, y49, y50, y51, y52, y53, y54, y55, y56, y57, y58, y59, y60, y61, rfl⟩ hHeld
    have hbC2 := hHeld.1
    refine wpAnyH_cut 8 #[true, true, true, true, true, true, true, true, true, true, true, true, true, true, true, true, true, true, true, true, true, true, true, true, true, true, true, true, true, true, true, true, false, false, false, false, false, false, false, false] (fun a _ => ∃ y43 y44 y45 y46 y47 y48 y49 y50 y51 y52 y53 y54 y55 y56 y57 y58 y59 y60 y61 y62 y63 y64 y65 y66 y67 y68 y69 y70 y71 y72 y73 : Value, a = ⟨#[x0, x1, x2, x3, x4, x5, x6, x7, x8, .pointer (some ⟨b9, 0, none⟩), .string s', .pointer (some ⟨b11, 0, none⟩), .pointer (some ⟨b12, 0, none⟩), x13, x14, x15, x16, x17, x18, x19, x20, x21, x22, x23, x24, x25, x26, x27, x28, x29, x30, x31, x32, x33, x34, x35, x36, x37, x38, x39, x40, x41, x42, y43, y44, y45, y46, y47, y48, y49, y50, y51, y52, y53, y54, y55, y56, y57, y58, y59, y60, y61, y62, y63, y64, y65, y66, y67, y68, y69, y70, y71, y72, y73, .bool false, x75, x76, x77, x78, x79, x80, x81, x82, x83, x84, x85, x86, x87, x88, x89, x90, x91, x92, x93, x94, x95, x96, x97, x98, x99, x100, x101, x102, x103, x104, x105, x106, x107, x108, x109, x110, x111, x112, x113, x114, x115, x116, x117, x118, x119, x120, x121, x122, x123, x124, x125, x126, x127, x128, x129, x130, x131, x132, x133, x134, x135, x136, x137, x138, x139, x140, x141, x142], df⟩) ?rest32 (fun HR32 => ?main32)
    case main32 =>
      refine wpAnyH_take (i := 20) (v := ?_) rfl (by kernel_rfl) (by kernel_rfl) (by kernel_rfl) (fun _ _ _ h => h) (Or.inl ⟨by rfl, ?_⟩) hHeld ?_
      rotate_left
      · (intro w9 hSw; (try dsimp only at hSw); go_simp; try with_reducible rfl)
      try simp only [Act.put, List.setIfInBounds_toArray, List.set_cons_zero, List.set_cons_succ]
      refine wpAnyH_take (i := 23) (v := ?_) rfl (by kernel_rfl) (by kernel_rfl) (by kernel_rfl) (fun _ _ _ h => h) (Or.inl ⟨by rfl, ?_⟩) hHeld ?_
      rotate_left
      · (intro w9 hSw; (try dsimp only at hSw); go_simp; try with_reducible rfl)
      try simp only [Act.put, List.setIfInBounds_toArray, List.set_cons_zero, List.set_cons_succ]
      refine wpAnyH_take (i := 24) (v := ?_) rfl (by kernel_rfl) (by kernel_rfl) (by kernel_rfl) (fun _ _ _ h => h) (Or.inl ⟨by rfl, ?_⟩) hHeld ?_
      rotate_left
      · (intro w9 hSw; (try dsimp only at hSw); go_simp; try with_reducible rfl)
      try simp only [Act.put, List.setIfInBounds_toArray, List.set_cons_zero, List.set_cons_succ]
      refine wpAnyH_take (i := 27) (v := ?_) rfl (by kernel_rfl) (by kernel_rfl) (by kernel_rfl) (fun _ _ _ h => h) (Or.inl ⟨by rfl, ?_⟩) hHeld ?_
      rotate_left
      · (intro w9 hSw; (try dsimp only at hSw); go_simp; try with_reducible rfl)
      try simp only [Act.put, List.setIfInBounds_toArray, List.set_cons_zero, List.set_cons_succ]
      refine wpAnyH_ready (rs := [21, 25]) (by kernel_rfl) (by simp) ?_
      refine AllReadyH.cons rfl (fun K hK => ?_) (AllReadyH.cons rfl (fun K hK => ?_) AllReadyH.nil)
      ·
        go_simp
        refine hK.out _ _ (HKK.out _ (below_al hbC2 _)) (fun hHeld => ?_)
        clear hK K
        try simp only [Act.put, List.setIfInBounds_toArray, List.set_cons_zero, List.set_cons_succ]
        refine wpAnyH_ready (rs := [22, 25]) (by kernel_rfl) (by simp) ?_
        refine AllReadyH.cons rfl (fun K hK => ?_) (AllReadyH.cons rfl (fun K hK => ?_) AllReadyH.nil)
        ·
          go_simp
          refine Calls.mono (node_pure 16 _ 1 1 _) ?_
          rintro e wA ⟨rfl, hA⟩
          have hbA := chain (below_al hbC2 _) hA
          have k1 := up_b hA (heap_alloc_new _ (.cells #[a0, a1, a2, a3, a4, a5, a6] 35))
          go_simp
          refine hK.out _ _ (HKK.out _ hbA) (fun hHeld => ?_)
          clear hK K
          try simp only [Act.put, List.setIfInBounds_toArray, List.set_cons_zero, List.set_cons_succ]
          refine wpAnyH_ready (rs := [25]) (by kernel_rfl) (by simp) ?_
          refine AllReadyH.cons rfl (fun K hK => ?_) AllReadyH.nil
          go_simp
          refine hK.out _ _ (HKK.out _ (below_al hbA _)) (fun hHeld => ?_)
          clear hK K
          try simp only [Act.put, List.setIfInBounds_toArray, List.set_cons_zero, List.set_cons_succ]
          refine wpAnyH_ready (rs := [26]) (by kernel_rfl) (by simp) ?_
          refine AllReadyH.cons rfl (fun K hK => ?_) AllReadyH.nil
          go_simp
          refine Calls.mono (node_pure 19 _ 2 2 _) ?_
          rintro e wB ⟨rfl, hB⟩
          have hbB := chain (below_al hbA _) hB
          replace k1 := up_b hB (block_alloc k1)
          have k2 := up_b hB (heap_alloc_new _ (.cells #[a0, a1, a2, a3, a4, a5, a6, .int .i64 2, .slice none 0 0, .int .i64 0, .int .i64 0, .bool false, .bool false, .slice none 0 0] 35))
          go_simp
          refine hK.out _ _ (HKK.out _ hbB) (fun hHeld => ?_)
          clear hK K
          try simp only [Act.put, List.setIfInBounds_toArray, List.set_cons_zero, List.set_cons_succ]
          refine wpAnyH_ready (rs := [28]) (by kernel_rfl) (by simp) ?_
          refine AllReadyH.cons rfl (fun K hK => ?_) AllReadyH.nil
          go_simp
          refine Calls.mono (al_quest (HTT.out _ hbB) HF.out.1 HF.out.2 (HLL.out _ hbB) HS60.out _ _ k1 k2) ?_
          rintro e wz ⟨rfl, hz⟩
          have hbz := chain hbB hz
          clear k1 k2 hz
          go_simp
          refine hK.out _ _ (HKK.out _ hbz) (fun hHeld => ?_)
          clear hK K
          try simp only [Act.put, List.setIfInBounds_toArray, List.set_cons_zero, List.set_cons_succ]
          refine wpAnyH_take (i := 29) (v := ?_) rfl (by kernel_rfl) (by kernel_rfl) (by kernel_rfl) (fun _ _ _ h => h) (Or.inl ⟨by rfl, ?_⟩) hHeld ?_
          rotate_left
          · (intro w9 hSw; (try dsimp only at hSw); go_simp; try with_reducible rfl)
          try simp only [Act.put, List.setIfInBounds_toArray, List.set_cons_zero, List.set_cons_succ]
          refine wpAnyH_take (i := 30) (v := ?_) rfl (by kernel_rfl) (by kernel_rfl) (by kernel_rfl) (fun _ _ _ h => h) (Or.inl ⟨by rfl, ?_⟩) hHeld ?_
          rotate_left
          · (intro w9 hSw; (try dsimp only at hSw); go_simp; try with_reducible rfl)
          try simp only [Act.put, List.setIfInBounds_toArray, List.set_cons_zero, List.set_cons_succ]
          refine wpAnyH_take (i := 31) (v := ?_) rfl (by kernel_rfl) (by kernel_rfl) (by kernel_rfl) (fun _ _ _ h => h) (Or.inl ⟨by rfl, ?_⟩) hHeld ?_
          rotate_left
          · (intro w9 hSw; (try dsimp only at hSw); go_simp; try with_reducible rfl)
          try simp only [Act.put, List.setIfInBounds_toArray, List.set_cons_zero, List.set_cons_succ]
          exact HR32.out _ _ ⟨_, _, _, _, _, _, _, _, _, _, _, _, _, _, _, _, _, _, _, _, _, _, _, _, _, _, _, _, _, _, _, rfl⟩ (HKK.out _ hbz)
        ·
          go_simp
          refine hK.out _ _ (HKK.out _ (below_al (below_al hbC2 _) _)) (fun hHeld => ?_)
          clear hK K
          try simp only [Act.put, List.setIfInBounds_toArray, List.set_cons_zero, List.set_cons_succ]
          refine wpAnyH_ready (rs := [22]) (by kernel_rfl) (by simp) ?_
          refine AllReadyH.cons rfl (fun K hK => ?_) AllReadyH.nil
          go_simp
          refine Calls.mono (node_pure 16 _ 1 1 _) ?_
          rintro e wA ⟨rfl, hA⟩
          have hbA := chain (below_al (below_al hbC2 _) _) hA
          have k1 := up_b hA (block_alloc (o' := (.cells #[a0, a1, a2, a3, a4, a5, a6, .int .i64 2, .slice none 0 0, .int .i64 0, .int .i64 0, .bool false, .bool false, .slice none 0 0] 35)) (heap_alloc_new wC2 (.cells #[a0, a1, a2, a3, a4, a5, a6] 35)))
          have k2 := up_b hA (heap_alloc_at (wC2.alloc (.cells #[a0, a1, a2, a3, a4, a5, a6] 35)) (.cells #[a0, a1, a2, a3, a4, a5, a6, .int .i64 2, .slice none 0 0, .int .i64 0, .int .i64 0, .bool false, .bool false, .slice none 0 0] 35) (wC2.heap.size + 1) (by simp))
          go_simp
          refine hK.out _ _ (HKK.out _ hbA) (fun hHeld => ?_)
          clear hK K
          try simp only [Act.put, List.setIfInBounds_toArray, List.set_cons_zero, List.set_cons_succ]
          refine wpAnyH_ready (rs := [26]) (by kernel_rfl) (by simp) ?_
          refine AllReadyH.cons rfl (fun K hK => ?_) AllReadyH.nil
          go_simp
          refine Calls.mono (node_pure 19 _ 2 2 _) ?_
          rintro e wB ⟨rfl, hB⟩
          have hbB := chain hbA hB
          replace k1 := up_b hB k1
          replace k2 := up_b hB k2
          go_simp
          refine hK.out _ _ (HKK.out _ hbB) (fun hHeld => ?_)
          clear hK K
          try simp only [Act.put, List.setIfInBounds_toArray, List.set_cons_zero, List.set_cons_succ]
          refine wpAnyH_ready (rs := [28]) (by kernel_rfl) (by simp) ?_
          refine AllReadyH.cons rfl (fun K hK => ?_) AllReadyH.nil
          go_simp
          refine Calls.mono (al_quest (HTT.out _ hbB) HF.out.1 HF.out.2 (HLL.out _ hbB) HS60.out _ _ k1 k2) ?_
          rintro e wz ⟨rfl, hz⟩
          have hbz := chain hbB hz
          clear k1 k2 hz
          go_simp
          refine hK.out _ _ (HKK.out _ hbz) (fun hHeld => ?_)
          clear hK K
          try simp only [Act.put, List.setIfInBounds_toArray, List.set_cons_zero, List.set_cons_succ]
          refine wpAnyH_take (i := 29) (v := ?_) rfl (by kernel_rfl) (by kernel_rfl) (by kernel_rfl) (fun _ _ _ h => h) (Or.inl ⟨by rfl, ?_⟩) hHeld ?_
          rotate_left
          · (intro w9 hSw; (try dsimp only at hSw); go_simp; try with_reducible rfl)
          try simp only [Act.put, List.setIfInBounds_toArray, List.set_cons_zero, List.set_cons_succ]
          refine wpAnyH_take (i := 30) (v := ?_) rfl (by kernel_rfl) (by kernel_rfl) (by kernel_rfl) (fun _ _ _ h => h) (Or.inl ⟨by rfl, ?_⟩) hHeld ?_
          rotate_left
          · (intro w9 hSw; (try dsimp only at hSw); go_simp; try with_reducible rfl)
          try simp only [Act.put, List.setIfInBounds_toArray, List.set_cons_zero, List.set_cons_succ]
          refine wpAnyH_take (i := 31) (v := ?_) rfl (by kernel_rfl) (by kernel_rfl) (by kernel_rfl) (fun _ _ _ h => h) (Or.inl ⟨by rfl, ?_⟩) hHeld ?_
          rotate_left
          · (intro w9 hSw; (try dsimp only at hSw); go_simp; try with_reducible rfl)
          try simp only [Act.put, List.setIfInBounds_toArray, List.set_cons_zero, List.set_cons_succ]
          exact HR32.out _ _ ⟨_, _, _, _, _, _, _, _, _, _, _, _, _, _, _, _, _, _, _, _, _, _, _, _, _, _, _, _, _, _, _, rfl⟩ (HKK.out _ hbz)
      ·
        go_simp
        refine hK.out _ _ (HKK.out _ (below_al hbC2 _)) (fun hHeld => ?_)
        clear hK K
        try simp only [Act.put, List.setIfInBounds_toArray, List.set_cons_zero, List.set_cons_succ]
        refine wpAnyH_ready (rs := [21]) (by kernel_rfl) (by simp) ?_
        refine AllReadyH.cons rfl (fun K hK => ?_) AllReadyH.nil
        go_simp
        refine hK.out _ _ (HKK.out _ (below_al (below_al hbC2 _) _)) (fun hHeld => ?_)
        clear hK K
        try simp only [Act.put, List.setIfInBounds_toArray, List.set_cons_zero, List.set_cons_succ]
        refine wpAnyH_ready (rs := [22]) (by kernel_rfl) (by simp) ?_
        refine AllReadyH.cons rfl (fun K hK => ?_) AllReadyH.nil
        go_simp
        refine Calls.mono (node_pure 16 _ 1 1 _) ?_
        rintro e wA ⟨rfl, hA⟩
        have hbA := chain (below_al (below_al hbC2 _) _) hA
        have k2 := up_b hA (block_alloc (o' := (.cells #[a0, a1, a2, a3, a4, a5, a6] 35)) (heap_alloc_new wC2 (.cells #[a0, a1, a2, a3, a4, a5, a6, .int .i64 2, .slice none 0 0, .int .i64 0, .int .i64 0, .bool false, .bool false, .slice none 0 0] 35)))
        have k1 := up_b hA (heap_alloc_at (wC2.alloc (.cells #[a0, a1, a2, a3, a4, a5, a6, .int .i64 2, .slice none 0 0, .int .i64 0, .int .i64 0, .bool false, .bool false, .slice none 0 0] 35)) (.cells #[a0, a1, a2, a3, a4, a5, a6] 35) (wC2.heap.size + 1) (by simp))
        go_simp
        refine hK.out _ _ (HKK.out _ hbA) (fun hHeld => ?_)
        clear hK K
        try simp only [Act.put, List.setIfInBounds_toArray, List.set_cons_zero, List.set_cons_succ]
        refine wpAnyH_ready (rs := [26]) (by kernel_rfl) (by simp) ?_
        refine AllReadyH.cons rfl (fun K hK => ?_) AllReadyH.nil
        go_simp
        refine Calls.mono (node_pure 19 _ 2 2 _) ?_
        rintro e wB ⟨rfl, hB⟩
        have hbB := chain hbA hB
        replace k1 := up_b hB k1
        replace k2 := up_b hB k2
        go_simp
        refine hK.out _ _ (HKK.out _ hbB) (fun hHeld => ?_)
        clear hK K
        try simp only [Act.put, List.setIfInBounds_toArray, List.set_cons_zero, List.set_cons_succ]
        refine wpAnyH_ready (rs := [28]) (by kernel_rfl) (by simp) ?_
        refine AllReadyH.cons rfl (fun K hK => ?_) AllReadyH.nil
        go_simp
        refine Calls.mono (al_quest (HTT.out _ hbB) HF.out.1 HF.out.2 (HLL.out _ hbB) HS60.out _ _ k1 k2) ?_
        rintro e wz ⟨rfl, hz⟩
        have hbz := chain hbB hz
        clear k1 k2 hz
        go_simp
        refine hK.out _ _ (HKK.out _ hbz) (fun hHeld => ?_)
        clear hK K
        try simp only [Act.put, List.setIfInBounds_toArray, List.set_cons_zero, List.set_cons_succ]
        refine wpAnyH_take (i := 29) (v := ?_) rfl (by kernel_rfl) (by kernel_rfl) (by kernel_rfl) (fun _ _ _ h => h) (Or.inl ⟨by rfl, ?_⟩) hHeld ?_
        rotate_left
        · (intro w9 hSw; (try dsimp only at hSw); go_simp; try with_reducible rfl)
        try simp only [Act.put, List.setIfInBounds_toArray, List.set_cons_zero, List.set_cons_succ]
        refine wpAnyH_take (i := 30) (v := ?_) rfl (by kernel_rfl) (by kernel_rfl) (by kernel_rfl) (fun _ _ _ h => h) (Or.inl ⟨by rfl, ?_⟩) hHeld ?_
        rotate_left
        · (intro w9 hSw; (try dsimp only at hSw); go_simp; try with_reducible rfl)
        try simp only [Act.put, List.setIfInBounds_toArray, List.set_cons_zero, List.set_cons_succ]
        refine wpAnyH_take (i := 31) (v := ?_) rfl (by kernel_rfl) (by kernel_rfl) (by kernel_rfl) (fun _ _ _ h => h) (Or.inl ⟨by rfl, ?_⟩) hHeld ?_
        rotate_left
        · (intro w9 hSw; (try dsimp only at hSw); go_simp; try with_reducible rfl)
        try simp only [Act.put, List.setIfInBounds_toArray, List.set_cons_zero, List.set_cons_succ]
        exact HR32.out _ _ ⟨_, _, _, _, _, _, _, _, _, _, _, _, _, _, _, _, _, _, _, _, _, _, _, _, _, _, _, _, _, _, _, rfl⟩ (HKK.out _ hbz)
    case rest32 =>
      rintro a wC3 ⟨y43, y44, y45, y46, y47, y48, y49, y50, y51, y52, y53, y54, y55, y56, y57, y58, y59, y60, y61, y62, y63, y64, y65, y66, y67, y68, y69, y70, y71, y72, y73, rfl⟩ hHeld
      have hbC3 := hHeld.1
      refine wpAnyH_take (i := 32) (v := ?_) rfl (by kernel_rfl) (by kernel_rfl) (by kernel_rfl) (fun _ _ _ h => h) (Or.inl ⟨by rfl, ?_⟩) hHeld ?_
      rotate_left
      · (intro w9 hSw; (try dsimp only at hSw); go_simp; try with_reducible rfl)
      try simp only [Act.put, List.setIfInBounds_toArray, List.set_cons_zero, List.set_cons_succ]
      refine wpAnyH_take (i := 35) (v := ?_) rfl (by kernel_rfl) (by kernel_rfl) (by kernel_rfl) (fun _ _ _ h => h) (Or.inl ⟨by rfl, ?_⟩) hHeld ?_
      rotate_left
      · (intro w9 hSw; (try dsimp only at hSw); go_simp; try with_reducible rfl)
      try simp only [Act.put, List.setIfInBounds_toArray, List.set_cons_zero, List.set_cons_succ]
      refine wpAnyH_take (i := 36) (v := ?_) rfl (by kernel_rfl) (by kernel_rfl) (by kernel_rfl) (fun _ _ _ h => h) (Or.inl ⟨by rfl, ?_⟩) hHeld ?_
      rotate_left
      · (intro w9 hSw; (try dsimp only at hSw); go_simp; try with_reducible rfl)
      try simp only [Act.put, List.setIfInBounds_toArray, List.set_cons_zero, List.set_cons_succ]
      refine wpAnyH_ready (rs := [33]) (by kernel_rfl) (by simp) ?_
      refine AllReadyH.cons rfl (fun K hK => ?_) AllReadyH.nil
      go_simp
      refine hK.out _ _ (HKK.out _ (below_al hbC3 _)) (fun hHeld => ?_)
      clear hK K
      try simp only [Act.put, List.setIfInBounds_toArray, List.set_cons_zero, List.set_cons_succ]
      refine wpAnyH_ready (rs := [34]) (by kernel_rfl) (by simp) ?_
      refine AllReadyH.cons rfl (fun K hK => ?_) AllReadyH.nil
      go_simp
      refine Calls.mono (node_pure 13 _ 1 1 _) ?_
      rintro e wA ⟨rfl, hA⟩
      have hbA := chain (below_al hbC3 _) hA
      have k1 := up_b hA (heap_alloc_new _ (.cells #[a0, a1, a2, a3, a4, a5, a6] 35))
      go_simp
      refine hK.out _ _ (HKK.out _ hbA) (fun hHeld => ?_)
      clear hK K
      try simp only [Act.put, List.setIfInBounds_toArray, List.set_cons_zero, List.set_cons_succ]
      refine wpAnyH_ready (rs := [37]) (by kernel_rfl) (by simp) ?_
      refine AllReadyH.cons rfl (fun K hK => ?_) AllReadyH.nil
      go_simp
      refine Calls.mono (al_cap (HTT.out _ hbA) HF.out.1 HF.out.2 (HLL.out _ hbA) HS60.out _ k1) ?_
      rintro e wz ⟨rfl, hz⟩
      have hbz := chain hbA hz
      clear k1 hz
      go_simp
      refine hK.out _ _ (HKK.out _ hbz) (fun hHeld => ?_)
      clear hK K
      try simp only [Act.put, List.setIfInBounds_toArray, List.set_cons_zero, List.set_cons_succ]
      refine wpAnyH_take (i := 38) (v := ?_) rfl (by kernel_rfl) (by kernel_rfl) (by kernel_rfl) (fun _ _ _ h => h) (Or.inl ⟨by rfl, ?_⟩) hHeld ?_
      rotate_left
      · (intro w9 hSw; (try dsimp only at hSw); go_simp; try with_reducible rfl)
      try simp only [Act.put, List.setIfInBounds_toArray, List.set_cons_zero, List.set_cons_succ]
      refine wpAnyH_take (i := 39) (v := ?_) rfl (by kernel_rfl) (by kernel_rfl) (by kernel_rfl) (fun _ _ _ h => h) (Or.inl ⟨by rfl, ?_⟩) hHeld ?_
      rotate_left
      · (intro w9 hSw; (try dsimp only at hSw); go_simp; try with_reducible rfl)
      try simp only [Act.put, List.setIfInBounds_toArray, List.set_cons_zero, List.set_cons_succ]
      refine wpAnyH_done (by kernel_rfl) ?_ _
      exact ⟨⟨_, _, _, _, _, _, _, _, _, _, _, _, _, _, _, _, _, _, _, _, _, _, _, _, _, _, _, _, _, _, _, _, _, _, _, _, _, _, _, rfl⟩, hbz⟩
end Go.Proofs.YtnpchkohfomagaaDoor.Rgy
