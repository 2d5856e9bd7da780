/- The compiler of expressions: compileClassRange. -/
import Derived.Test.YtnpchkohfomagaaDoorRgWa
import Derived.Test.YtnpchkohfomagaaDoorRgPa
import Derived.Test.YtnpchkohfomagaaDoorSeqG
import Derived.Test.YtnpchkohfomagaaDoorRgLw
import Derived.Deep.DeepCutAuto
namespace Go.Proofs.YtnpchkohfomagaaDoor.Rgw
open Go.ChangeShapes Go.WideShapes Go.ChangeAt Go.RowKit Go.Trav Go.Rg Go.Proofs.YtnpchkohfomagaaDoor.Seq Go.Utf Go.Proofs.YtnpchkohfomagaaDoor.Sparse
set_option linter.unusedVariables false
set_option linter.unusedSimpArgs false
set_option maxRecDepth 100000
def cQ : List TypeId := [164, 187, 5]
theorem cQ_cA : ∀ T ∈ cQ, T ∈ cA := by
  unfold cQ cA; intro T h
  simp only [List.mem_cons, List.not_mem_nil, or_false] at h ⊢
  rcases h with h | h | h <;> simp [h]
theorem CM.reseq {w w1 : World} {base C gs ge : Nat} {iv pv qv sv ov zv : Value} {ps : List (Nat × Nat)} {l : List In} (h : CM w base C gs ge iv pv qv sv ps l) (m : Mod (TF cQ base w) w w1)
    (h1 : ∃ n xs, w1.ownsRow 0 164 1 ov n xs) (h2 : ∃ n xs, w1.ownsRow 0 187 2 zv n xs) (g1 : ∀ k, ov.ownBlock = some k → base ≤ k) (g2 : ∀ k, zv.ownBlock = some k → base ≤ k) (b1 : Buf w1 gs 4) (b2 : Buf w1 ge 4) :
    CM ((w1.setCell ⟨C, 3, none⟩ ov).setCell ⟨C, 4, none⟩ zv) base C gs ge iv pv ov zv ps l := by
  have tC : Ty w C 135 := ⟨_, _, h.hC⟩
  have hF : ∀ k T, Ty w k T → T ∉ cQ → ¬ TF cQ base w k := fun k T ht hn => TF.not ht hn
  have hC1 := m.heap h.hC (hF C _ tC (by decide))
  have m2 : Mod (fun k => k = C) w1 ((w1.setCell ⟨C, 3, none⟩ ov).setCell ⟨C, 4, none⟩ zv) := ((Mod.refl (fun k => k = C) w1).setCell (p := ⟨C, 3, none⟩) (fun _ => rfl) _).setCell (p := ⟨C, 4, none⟩) (fun _ => rfl) _
  have tC1 : Ty w1 C 135 := ⟨_, _, hC1⟩
  have hF2 : ∀ k T, Ty w1 k T → T ≠ 135 → ¬ k = C := fun k T ht hn e => hn (ty_one (e ▸ ht) tC1)
  obtain ⟨n1, x1, q1⟩ := h1
  obtain ⟨n2, x2, q2⟩ := h2
  have bk : ∀ {g : Nat}, Blk w g → ¬ TF cQ base w g ∧ ¬ g = C := fun hb => by
    have k1 := hF _ _ hb.ty (by decide)
    exact ⟨k1, hF2 _ _ (hb.mod m k1).ty (by decide)⟩
  refine ⟨by simpa using block_set (i := 4) (u := zv) (block_set (i := 3) (u := ov) hC1), ?_, h.hp, h.nd, fun k a i h1 h2 => ?_, ?_, ⟨n1, x1, ownsRow_mod q1 m2 fun g hg => hF2 g _ (ty_own q1 hg) (by decide)⟩, ⟨n2, x2, ownsRow_mod q2 m2 fun g hg => hF2 g _ (ty_own q2 hg) (by decide)⟩, b1.mod m2 (hF2 _ _ (ty_buf b1) (by decide)), b2.mod m2 (hF2 _ _ (ty_buf b2) (by decide)), h.ne, h.gC, g1, g2, h.gb⟩
  · have k1 := own_tf h.hi m (by decide)
    exact ownsRow_mod k1 m2 fun g hg => hF2 g _ (ty_own k1 hg) (by decide)
  · obtain ⟨a1, a2, a3, a4⟩ := h.at_ k a i h1 h2
    obtain ⟨k1, k2⟩ := bk a2
    exact ⟨a1, (a2.mod m k1).mod m2 k2, (a3.mod m k1).mod m2 k2, a4⟩
  · rcases h.pool with h1 | ⟨g, o, n, h1, h2, h3, h4, h5, h6, h7⟩
    · exact Or.inl h1
    · obtain ⟨k1, k2⟩ := bk h5
      exact Or.inr ⟨g, o, n, h1, h2, h3, h4, (h5.mod m k1).mod m2 k2, fun k hk => ((h6 k hk).mod m k1).mod m2 k2, h7⟩
theorem make_uints (n : Nat) (hn : n ≤ 2000000) (W : World) : (Instr.makeSlice 116 (.int .i64 0) (.int .i64 (n : Int))).run Tryd.prog W = .ok (.slice (some ⟨W.heap.size, 0, none⟩) 0 n) (W.alloc (.cells (madeCells #[.int .u64 0] n) 54)) := by
  obtain ⟨i0, hi, hz0, hz1, hz2⟩ := info_parts (show (Tryd.prog.info? 54).map (fun i => (i.zero, i.size, i.bytes)) = some (some (.int .u64 0), 1, 8) from by kernel_rfl)
  have h := run_makeSlice (P := Tryd.prog) W 116 54 i0 (.int .u64 0) Tryd.underlying116 hi hz0 .i64 .i64 0 n (by omega) (by omega) (by rw [hz1]; simp; omega) (by rw [hz2]; simp; omega) (by omega)
  rw [hz1] at h
  simpa [Value.cells] using h
theorem own_made_uints (n base : Nat) (hn : n ≤ 2000000) (W : World) (hb : base ≤ W.heap.size) : (W.alloc (.cells (madeCells #[.int .u64 0] n) 54)).ownsRow base 54 1 (.slice (some ⟨W.heap.size, 0, none⟩) 0 n) 0 [] :=
  ⟨by simp, Or.inr ⟨W.heap.size, n, _, rfl, hb, heap_alloc_new W _, Nat.zero_le _, by unfold maxLen; omega, by simp [size_madeCells], by simp⟩⟩
theorem top_ci (base C gs ge : Nat) (qv sv : Value) (l : List In) (w : World) (hM : CI w base C gs ge qv sv l) :
    Calls Tryd.prog 77 #[.pointer (some ⟨C, 0, none⟩)] w fun e w' => e = .returned (.int .u64 (l.length : Int)) ∧ w = w' := by
  obtain ⟨iv, pv, ps, h⟩ := hM
  exact top_any base C gs ge iv pv qv sv ps l w h
theorem top_at {base C gs ge p : Nat} {qv sv : Value} {l : List In} {w : World} (hM : CI w base C gs ge qv sv l) (hp : l.length = p) :
    Calls Tryd.prog 77 #[.pointer (some ⟨C, 0, none⟩)] w fun e w' => e = .returned (.int .u64 (p : Int)) ∧ w = w' := by
  subst hp; exact top_ci base C gs ge qv sv l w hM
theorem split_at {base C gs ge p : Nat} {qv sv : Value} {l : List In} {w : World} (hM : CI w base C gs ge qv sv l) (hp : l.length = p) (hl : l.length ≤ 50000000000) :
    Calls Tryd.prog 76 #[.pointer (some ⟨C, 0, none⟩)] w fun e w' => e = .returned (.int .u64 (p : Int)) ∧ CI w' base C gs ge qv sv (l ++ [In.spl 0 0]) ∧ Mod (TF cE base w) w w' := by
  subst hp; exact split_ci base C gs ge qv sv l w hM hl
theorem jump_at {base C gs ge p : Nat} {qv sv : Value} {l : List In} {w : World} (hM : CI w base C gs ge qv sv l) (hp : l.length = p) (hl : l.length ≤ 50000000000) :
    Calls Tryd.prog 78 #[.pointer (some ⟨C, 0, none⟩)] w fun e w' => e = .returned (.int .u64 (p : Int)) ∧ CI w' base C gs ge qv sv (l ++ [In.jmp 0]) ∧ Mod (TF cE base w) w w' := by
  subst hp; exact jump_ci base C gs ge qv sv l w hM hl
theorem CI.own {w w' : World} {base C gs ge n : Nat} {qv sv v : Value} {l : List In} {xs : List Value} {b : Nat} {o : Obj} (h : CI w base C gs ge qv sv l) (hr : w.ownsRow b 54 1 v n xs) (hg : (w.alloc o).grownBy w' v.ownBlock) : CI w' base C gs ge qv sv l := by
  have hm : Mod (fun k => v.ownBlock = some k) w w' := ((Mod.refl _ w).alloc o).grown hg fun k hk _ => hk
  refine h.mod hm fun k T ht hT e => ?_
  have := ty_one ht (ty_own hr e)
  subst this
  revert hT; decide
theorem Tryd.infoUint : (Tryd.prog.info? 54).map (fun i => (i.zero, i.size, i.bytes)) = some (some (.int .u64 0), 1, 8) := by kernel_rfl
theorem plen_seq : ∀ (l : List (Int × Int)), (∀ q ∈ l, Utf.Good q.1 q.2) → plen (l.map seqPc) ≤ l.length * 6 := by
  intro l
  induction l with
  | nil => intro _; simp [plen]
  | cons q r ih =>
    intro h
    rw [List.map_cons, plen_cons, List.length_cons]
    have := ih fun x hx => h x (by simp [hx])
    have h1 : (seqPc q).c.length = wid q.1 := seqIns_len (h q (by simp))
    have := (wid_le4 q.1).2
    omega
theorem CI.c3 {w : World} {base C gs ge : Nat} {qv sv : Value} {l : List In} (h : CI w base C gs ge qv sv l) : w.cell? ⟨C, 3, none⟩ = some qv := by
  obtain ⟨iv, pv, ps, h⟩ := h
  exact block_cell h.hC rfl
set_option maxHeartbeats 8000000 in
theorem crange_ci (base C gs ge : Nat) (qv sv : Value) (a b : Int) (l : List In) (w : World) (hM : CI w base C gs ge qv sv l) (hG : Glob w) (hGb : 8 < base ∧ 9 < base) (ha : Let a) (hb : Let b) (hab : a ≤ b) (hl : l.length + 8000000 ≤ 50000000000) :
    Calls Tryd.prog 99 #[.pointer (some ⟨C, 0, none⟩), .int .i32 a, .int .i32 b] w fun e w' => e = .returned .nilIface ∧ (∃ qv' sv' c, CI w' base C gs ge qv' sv' (l ++ c) ∧ Ok (Rng a b) (rngN b) (rngZ b) l.length c ∧ RngC a b l.length c) ∧ Mod (TF cA base w) w w' := by
  have hbw0 : Below w.heap.size w w.drew := (Below.refl _ _).drew
  have hmd : Mod (TF cA base w) w w.drew := Mod.of_below hbw0
  have hGd : Glob w.drew := hG.below hbw0 (by have := hG.lt.1; omega) (by have := hG.lt.2; omega)
  have hMd := hM.below hbw0
  obtain ⟨iv, pv, ps, hCM⟩ := hMd
  have hC := hCM.hC
  obtain ⟨qn, qx, hq⟩ := hCM.hq
  obtain ⟨zn, zx, hz⟩ := hCM.hs
  obtain ⟨qa, qc, rfl⟩ := ownsRow_form hq
  obtain ⟨za, zc, rfl⟩ := ownsRow_form hz
  have c3 : w.cell? ⟨C, 3, none⟩ = some (.slice qa qn qc) := block_cell hC rfl
  have c4 : w.cell? ⟨C, 4, none⟩ = some (.slice za zn zc) := block_cell hC rfl
  have c5 : w.cell? ⟨C, 5, none⟩ = some (.slice (some ⟨gs, 0, none⟩) 4 4) := block_cell hC rfl
  have c6 : w.cell? ⟨C, 6, none⟩ = some (.slice (some ⟨ge, 0, none⟩) 4 4) := block_cell hC rfl
  have hbd : Bd (a, b) := by unfold Let at ha hb; unfold Bd; simp only; omega
  have hpre := prealloc_any (TF cQ base w.drew) a b gs ge za zn zc zx qa qn qc qx w.drew hGd hbd ⟨fun h => by have := h.1; omega, fun h => by have := h.1; omega⟩ hCM.bs hCM.be hCM.ne
    ⟨⟨hCM.gb.1, _, by decide, ty_buf hCM.bs⟩, ⟨hCM.gb.2, _, by decide, ty_buf hCM.be⟩⟩ hz (fun k hk => ⟨hCM.gz k hk, _, by decide, ty_own hz hk⟩) hq (fun k hk => ⟨hCM.gq k hk, _, by decide, ty_own hq hk⟩)
  have hbase : base ≤ w.drew.heap.size := by have := hCM.gC; have := block_lt hC; omega
  have HM := Lib.hid hCM
  have HP := Lib.hid hpre
  have HCC := Lib.hid hC
  have HL := Lib.hid (And.intro ha (And.intro hb hab))
  have HMD := Lib.hid (And.intro hmd hbase)
  clear hCM hpre hC hq hz hbd ha hb hM hmd hbase hbw0 hGd
  go_enter Tryd.func99, Tryd.ntmps99
  go_wp2_with fail
  go_upto_region 1 with (fail)
  go_cut [6] (fun v6 wc => ∃ (oa ya : Option Addr) (oc sn yc : Nat) (out : List (Int × Int)) (vs : List Value), v6 = .nilIface ∧ Hid (Done a b out ∧ CI wc base C gs ge (.slice oa out.length oc) (.slice ya sn yc) l ∧ wc.ownsRow 0 164 1 (.slice oa out.length oc) out.length vs ∧ (∀ (i : Nat) v q, vs[i]? = some v → out[i]? = some q → SeqAt w.heap.size wc v q) ∧ Mod (TF cA base w) w wc))
  case first =>
   have hs0 : w.drew.cell? ⟨C, 3, none⟩ = some (.slice qa qn qc) ∧ w.drew.cell? ⟨C, 4, none⟩ = some (.slice za zn zc) ∧ w.drew.cell? ⟨C, 5, none⟩ = some (.slice (some ⟨gs, 0, none⟩) 4 4) ∧ w.drew.cell? ⟨C, 6, none⟩ = some (.slice (some ⟨ge, 0, none⟩) 4 4) := ⟨c3, c4, c5, c6⟩
   have HS0 := Lib.hid hs0
   clear hs0
   refine wp_region_L (fun w' => w'.cell? ⟨C, 3, none⟩ = some (.slice qa qn qc) ∧ w'.cell? ⟨C, 4, none⟩ = some (.slice za zn zc) ∧ w'.cell? ⟨C, 5, none⟩ = some (.slice (some ⟨gs, 0, none⟩) 4 4) ∧ w'.cell? ⟨C, 6, none⟩ = some (.slice (some ⟨ge, 0, none⟩) 4 4)) 20 (by kernel_rfl) ?_
   refine wpAnyL_take0 (i := 0) (v := ?_) rfl rfl (by kernel_rfl) (by kernel_rfl) (by kernel_rfl) (fun _ _ _ h => h) HS0.out (Or.inl ⟨by rfl, ?_⟩) ?_
   rotate_left
   · (intro w9; go_simp; try with_reducible rfl)
   try simp only [Act.put, List.setIfInBounds_toArray, List.set_cons_zero, List.set_cons_succ]
   refine wpAnyL_take0 (i := 1) (v := ?_) rfl rfl (by kernel_rfl) (by kernel_rfl) (by kernel_rfl) (fun _ _ _ h => h) HS0.out (Or.inl ⟨by rfl, ?_⟩) ?_
   rotate_left
   · (intro w9; go_simp; try with_reducible rfl)
   try simp only [Act.put, List.setIfInBounds_toArray, List.set_cons_zero, List.set_cons_succ]
   refine wpAnyL_take0 (i := 2) (v := ?_) rfl rfl (by kernel_rfl) (by kernel_rfl) (by kernel_rfl) (fun _ _ _ h => h) HS0.out (Or.inl ⟨by rfl, ?_⟩) ?_
   rotate_left
   · (intro w9; go_simp; try with_reducible rfl)
   try simp only [Act.put, List.setIfInBounds_toArray, List.set_cons_zero, List.set_cons_succ]
   refine wpAnyL_take0 (i := 3) (v := ?_) rfl rfl (by kernel_rfl) (by kernel_rfl) (by kernel_rfl) (fun _ _ _ h => h) HS0.out (Or.inl ⟨by rfl, ?_⟩) ?_
   rotate_left
   · (intro w9; go_simp; try with_reducible rfl)
   try simp only [Act.put, List.setIfInBounds_toArray, List.set_cons_zero, List.set_cons_succ]
   refine wpAnyL_take0 (i := 4) (v := ?_) rfl rfl (by kernel_rfl) (by kernel_rfl) (by kernel_rfl) (fun _ _ _ h => h) HS0.out (Or.inl ⟨by rfl, ?_⟩) ?_
   rotate_left
   · (intro w9; go_simp; try with_reducible rfl)
   try simp only [Act.put, List.setIfInBounds_toArray, List.set_cons_zero, List.set_cons_succ]
   refine wpAnyL_take0 (i := 5) (v := ?_) rfl rfl (by kernel_rfl) (by kernel_rfl) (by kernel_rfl) (fun _ _ _ h => h) HS0.out (Or.inl ⟨by rfl, ?_⟩) ?_
   rotate_left
   · (intro w9; go_simp; try with_reducible rfl)
   try simp only [Act.put, List.setIfInBounds_toArray, List.set_cons_zero, List.set_cons_succ]
   refine wpAnyL_take0 (i := 6) (v := ?_) rfl rfl (by kernel_rfl) (by kernel_rfl) (by kernel_rfl) (fun _ _ _ h => h) HS0.out (Or.inl ⟨by rfl, ?_⟩) ?_
   rotate_left
   · (intro w9; go_simp; try with_reducible rfl)
   try simp only [Act.put, List.setIfInBounds_toArray, List.set_cons_zero, List.set_cons_succ]
   refine wpAnyL_take (i := 7) (v := ?_) rfl rfl (by kernel_rfl) rfl (by kernel_rfl) (by kernel_rfl) (by kernel_rfl) (by kernel_rfl) (fun _ _ _ h => h) HS0.out (Or.inl ⟨by rfl, ?_⟩) ?_
   rotate_left
   · (intro w9 hw9; obtain ⟨g3, g4, g5, g6⟩ := hw9; go_simp; try with_reducible rfl)
   try simp only [Act.put, List.setIfInBounds_toArray, List.set_cons_zero, List.set_cons_succ]
   refine wpAnyL_take0 (i := 8) (v := ?_) rfl rfl (by kernel_rfl) (by kernel_rfl) (by kernel_rfl) (fun _ _ _ h => h) HS0.out (Or.inl ⟨by rfl, ?_⟩) ?_
   rotate_left
   · (intro w9; go_simp; try with_reducible rfl)
   try simp only [Act.put, List.setIfInBounds_toArray, List.set_cons_zero, List.set_cons_succ]
   refine wpAnyL_take0 (i := 9) (v := ?_) rfl rfl (by kernel_rfl) (by kernel_rfl) (by kernel_rfl) (fun _ _ _ h => h) HS0.out (Or.inl ⟨by rfl, ?_⟩) ?_
   rotate_left
   · (intro w9; go_simp; try with_reducible rfl)
   try simp only [Act.put, List.setIfInBounds_toArray, List.set_cons_zero, List.set_cons_succ]
   refine wpAnyL_take0 (i := 10) (v := ?_) rfl rfl (by kernel_rfl) (by kernel_rfl) (by kernel_rfl) (fun _ _ _ h => h) HS0.out (Or.inl ⟨by rfl, ?_⟩) ?_
   rotate_left
   · (intro w9; go_simp; try with_reducible rfl)
   try simp only [Act.put, List.setIfInBounds_toArray, List.set_cons_zero, List.set_cons_succ]
   refine wpAnyL_take (i := 11) (v := ?_) rfl rfl (by kernel_rfl) rfl (by kernel_rfl) (by kernel_rfl) (by kernel_rfl) (by kernel_rfl) (fun _ _ _ h => h) HS0.out (Or.inl ⟨by rfl, ?_⟩) ?_
   rotate_left
   · (intro w9 hw9; obtain ⟨g3, g4, g5, g6⟩ := hw9; go_simp; try with_reducible rfl)
   try simp only [Act.put, List.setIfInBounds_toArray, List.set_cons_zero, List.set_cons_succ]
   refine wpAnyL_take0 (i := 12) (v := ?_) rfl rfl (by kernel_rfl) (by kernel_rfl) (by kernel_rfl) (fun _ _ _ h => h) HS0.out (Or.inl ⟨by rfl, ?_⟩) ?_
   rotate_left
   · (intro w9; go_simp; try with_reducible rfl)
   try simp only [Act.put, List.setIfInBounds_toArray, List.set_cons_zero, List.set_cons_succ]
   refine wpAnyL_take0 (i := 13) (v := ?_) rfl rfl (by kernel_rfl) (by kernel_rfl) (by kernel_rfl) (fun _ _ _ h => h) HS0.out (Or.inl ⟨by rfl, ?_⟩) ?_
   rotate_left
   · (intro w9; go_simp; try with_reducible rfl)
   try simp only [Act.put, List.setIfInBounds_toArray, List.set_cons_zero, List.set_cons_succ]
   refine wpAnyL_take0 (i := 14) (v := ?_) rfl rfl (by kernel_rfl) (by kernel_rfl) (by kernel_rfl) (fun _ _ _ h => h) HS0.out (Or.inl ⟨by rfl, ?_⟩) ?_
   rotate_left
   · (intro w9; go_simp; try with_reducible rfl)
   try simp only [Act.put, List.setIfInBounds_toArray, List.set_cons_zero, List.set_cons_succ]
   refine wpAnyL_take (i := 15) (v := ?_) rfl rfl (by kernel_rfl) rfl (by kernel_rfl) (by kernel_rfl) (by kernel_rfl) (by kernel_rfl) (fun _ _ _ h => h) HS0.out (Or.inl ⟨by rfl, ?_⟩) ?_
   rotate_left
   · (intro w9 hw9; obtain ⟨g3, g4, g5, g6⟩ := hw9; go_simp; try with_reducible rfl)
   try simp only [Act.put, List.setIfInBounds_toArray, List.set_cons_zero, List.set_cons_succ]
   refine wpAnyL_take0 (i := 16) (v := ?_) rfl rfl (by kernel_rfl) (by kernel_rfl) (by kernel_rfl) (fun _ _ _ h => h) HS0.out (Or.inl ⟨by rfl, ?_⟩) ?_
   rotate_left
   · (intro w9; go_simp; try with_reducible rfl)
   try simp only [Act.put, List.setIfInBounds_toArray, List.set_cons_zero, List.set_cons_succ]
   refine wpAnyL_take0 (i := 17) (v := ?_) rfl rfl (by kernel_rfl) (by kernel_rfl) (by kernel_rfl) (fun _ _ _ h => h) HS0.out (Or.inl ⟨by rfl, ?_⟩) ?_
   rotate_left
   · (intro w9; go_simp; try with_reducible rfl)
   try simp only [Act.put, List.setIfInBounds_toArray, List.set_cons_zero, List.set_cons_succ]
   refine wpAnyL_take0 (i := 18) (v := ?_) rfl rfl (by kernel_rfl) (by kernel_rfl) (by kernel_rfl) (fun _ _ _ h => h) HS0.out (Or.inl ⟨by rfl, ?_⟩) ?_
   rotate_left
   · (intro w9; go_simp; try with_reducible rfl)
   try simp only [Act.put, List.setIfInBounds_toArray, List.set_cons_zero, List.set_cons_succ]
   refine wpAnyL_take (i := 19) (v := ?_) rfl rfl (by kernel_rfl) rfl (by kernel_rfl) (by kernel_rfl) (by kernel_rfl) (by kernel_rfl) (fun _ _ _ h => h) HS0.out (Or.inl ⟨by rfl, ?_⟩) ?_
   rotate_left
   · (intro w9 hw9; obtain ⟨g3, g4, g5, g6⟩ := hw9; go_simp; try with_reducible rfl)
   try simp only [Act.put, List.setIfInBounds_toArray, List.set_cons_zero, List.set_cons_succ]
   refine wpAnyL_call rfl (by kernel_rfl) (by kernel_rfl) (fun K hK => ?_)
   go_simp
   refine (HP.out).mono ?_; rintro e' w1 ⟨ov, zv, out, vs, rfl, hdone, hrow, hseq, hstk, hoF, hzF, hb0, hb1, hmod⟩; obtain ⟨sn, sl, hstk⟩ := hstk; obtain ⟨oa, oc, rfl⟩ := ownsRow_form hrow; obtain ⟨ya, yc, rfl⟩ := ownsRow_form hstk; have hC1 := hmod.heap HCC.out (TF.not (T := 135) ⟨_, _, HCC.out⟩ (by decide)); have k5 : w1.cell? ⟨C, 5, none⟩ = some (.slice (some ⟨gs, 0, none⟩) 4 4) := block_cell hC1 rfl; have k6 : w1.cell? ⟨C, 6, none⟩ = some (.slice (some ⟨ge, 0, none⟩) 4 4) := block_cell hC1 rfl; have k3 : w1.cell? ⟨C, 3, none⟩ = some (.slice qa qn qc) := block_cell hC1 rfl; have k3f : w1.frozen? ⟨C, 3, none⟩ = false := block_free hC1; have k4 : (w1.setCell ⟨C, 3, none⟩ (.slice oa out.length oc)).cell? ⟨C, 4, none⟩ = some (.slice za zn zc) := block_cell (block_set hC1) rfl; have k4f : (w1.setCell ⟨C, 3, none⟩ (.slice oa out.length oc)).frozen? ⟨C, 4, none⟩ = false := block_free (block_set hC1); have m35 : (w1.setCell ⟨C, 3, none⟩ (.slice oa out.length oc)).cell? ⟨C, 5, none⟩ = some (.slice (some ⟨gs, 0, none⟩) 4 4) := block_cell (block_set hC1) rfl; have m45 : ((w1.setCell ⟨C, 3, none⟩ (.slice oa out.length oc)).setCell ⟨C, 4, none⟩ (.slice ya sn yc)).cell? ⟨C, 5, none⟩ = some (.slice (some ⟨gs, 0, none⟩) 4 4) := block_cell (block_set (block_set hC1)) rfl; have m36 : (w1.setCell ⟨C, 3, none⟩ (.slice oa out.length oc)).cell? ⟨C, 6, none⟩ = some (.slice (some ⟨ge, 0, none⟩) 4 4) := block_cell (block_set hC1) rfl; have m46 : ((w1.setCell ⟨C, 3, none⟩ (.slice oa out.length oc)).setCell ⟨C, 4, none⟩ (.slice ya sn yc)).cell? ⟨C, 6, none⟩ = some (.slice (some ⟨ge, 0, none⟩) 4 4) := block_cell (block_set (block_set hC1)) rfl; have HH := Lib.hid (And.intro hdone (And.intro hrow (And.intro hseq (And.intro hstk (And.intro hoF (And.intro hzF (And.intro hb0 (And.intro hb1 hmod)))))))); clear hdone hrow hseq hstk hoF hzF hb0 hb1 hmod hC1
   go_simp
   refine hK _ _ ?_
   clear hK K
   try simp only [Act.put, List.setIfInBounds_toArray, List.set_cons_zero, List.set_cons_succ]
   refine wpAny_take (i := 21) (v := ?_) rfl (by kernel_rfl) (by kernel_rfl) (by kernel_rfl) (fun _ _ _ h => h) (Or.inl ⟨by rfl, ?_⟩) ?_
   rotate_left
   · (intro w9; go_simp; try with_reducible rfl)
   try simp only [Act.put, List.setIfInBounds_toArray, List.set_cons_zero, List.set_cons_succ]
   refine wpAny_take (i := 22) (v := ?_) rfl (by kernel_rfl) (by kernel_rfl) (by kernel_rfl) (fun _ _ _ h => h) (Or.inl ⟨by rfl, ?_⟩) ?_
   rotate_left
   · (intro w9; go_simp; try with_reducible rfl)
   try simp only [Act.put, List.setIfInBounds_toArray, List.set_cons_zero, List.set_cons_succ]
   refine wpAny_take (i := 23) (v := ?_) rfl (by kernel_rfl) (by kernel_rfl) (by kernel_rfl) (fun _ _ _ h => h) (Or.inl ⟨by rfl, ?_⟩) ?_
   rotate_left
   · (intro w9; go_simp; try with_reducible rfl)
   try simp only [Act.put, List.setIfInBounds_toArray, List.set_cons_zero, List.set_cons_succ]
   refine wpAny_take (i := 24) (v := ?_) rfl (by kernel_rfl) (by kernel_rfl) (by kernel_rfl) (fun _ _ _ h => h) (Or.inl ⟨by rfl, ?_⟩) ?_
   rotate_left
   · (intro w9; go_simp; try with_reducible rfl)
   try simp only [Act.put, List.setIfInBounds_toArray, List.set_cons_zero, List.set_cons_succ]
   refine wpAny_take (i := 25) (v := ?_) rfl (by kernel_rfl) (by kernel_rfl) (by kernel_rfl) (fun _ _ _ h => h) (Or.inl ⟨by rfl, ?_⟩) ?_
   rotate_left
   · (intro w9; go_simp; try with_reducible rfl)
   try simp only [Act.put, List.setIfInBounds_toArray, List.set_cons_zero, List.set_cons_succ]
   refine wpAny_take (i := 26) (v := ?_) rfl (by kernel_rfl) (by kernel_rfl) (by kernel_rfl) (fun _ _ _ h => h) (Or.inl ⟨by rfl, ?_⟩) ?_
   rotate_left
   · (intro w9; go_simp; try with_reducible rfl)
   try simp only [Act.put, List.setIfInBounds_toArray, List.set_cons_zero, List.set_cons_succ]
   refine wpAny_one (i := 27) rfl (by kernel_rfl) (fun K hK => ?_)
   go_simp
   refine hK _ _ ?_
   clear hK K
   try simp only [Act.put, List.setIfInBounds_toArray, List.set_cons_zero, List.set_cons_succ]
   refine wpAny_take (i := 28) (v := ?_) rfl (by kernel_rfl) (by kernel_rfl) (by kernel_rfl) (fun _ _ _ h => h) (Or.inl ⟨by rfl, ?_⟩) ?_
   rotate_left
   · (intro w9; go_simp; try with_reducible rfl)
   try simp only [Act.put, List.setIfInBounds_toArray, List.set_cons_zero, List.set_cons_succ]
   refine wpAny_take (i := 29) (v := ?_) rfl (by kernel_rfl) (by kernel_rfl) (by kernel_rfl) (fun _ _ _ h => h) (Or.inl ⟨by rfl, ?_⟩) ?_
   rotate_left
   · (intro w9; go_simp; try with_reducible rfl)
   try simp only [Act.put, List.setIfInBounds_toArray, List.set_cons_zero, List.set_cons_succ]
   refine wpAny_one (i := 30) rfl (by kernel_rfl) (fun K hK => ?_)
   go_simp
   refine hK _ _ ?_
   clear hK K
   try simp only [Act.put, List.setIfInBounds_toArray, List.set_cons_zero, List.set_cons_succ]
   refine wpAny_one (i := 31) rfl (by kernel_rfl) (fun K hK => ?_)
   go_simp
   refine hK _ _ ?_
   clear hK K
   try simp only [Act.put, List.setIfInBounds_toArray, List.set_cons_zero, List.set_cons_succ]
   refine wpAny_done (by kernel_rfl) ?_ _
   all_goals
     go_wp2_with fail
     go_meet
     obtain ⟨hdone, hrow, hseq, hstk, hoF, hzF, hb0, hb1, hmod⟩ := HH.out
     have hre := HM.out.reseq (ov := .slice oa out.length oc) (zv := .slice ya sn yc) hmod ⟨_, _, hrow⟩ ⟨_, _, hstk⟩ (fun k hk => (hoF k hk).elim (fun h => h.1) (fun h => Nat.le_trans HMD.out.2 h)) (fun k hk => (hzF k hk).elim (fun h => h.1) (fun h => Nat.le_trans HMD.out.2 h)) hb0 hb1
     have m2 : Mod (fun k => k = C) w1 ((w1.setCell ⟨C, 3, none⟩ (.slice oa out.length oc)).setCell ⟨C, 4, none⟩ (.slice ya sn yc)) := ((Mod.refl (fun k => k = C) w1).setCell (p := ⟨C, 3, none⟩) (fun _ => rfl) _).setCell (p := ⟨C, 4, none⟩) (fun _ => rfl) _
     have tC1 : Ty w1 C 135 := ty_mod (T := 135) ⟨_, _, HCC.out⟩ hmod (TF.not (T := 135) ⟨_, _, HCC.out⟩ (by decide))
     have hF2 : ∀ k T, Ty w1 k T → T ≠ 135 → ¬ k = C := fun k T ht hn e => hn (ty_one (e ▸ ht) tC1)
     have hmA : Mod (TF cA base w) w ((w1.setCell ⟨C, 3, none⟩ (.slice oa out.length oc)).setCell ⟨C, 4, none⟩ (.slice ya sn yc)) := TF.trans HMD.out.1 (TF.trans (TF.mono hmod cQ_cA) (m2.mono fun k _ e => by subst e; exact ⟨HM.out.gC, 135, by decide, tC1⟩))
     exact ⟨oa, ya, oc, sn, yc, out, vs, rfl, Lib.hid ⟨hdone, ⟨_, _, _, hre⟩, ownsRow_mod hrow m2 (fun g hg => hF2 g _ (ty_own hrow hg) (by decide)), fun i v q h1 h2 => (hseq i v q h1 h2).mod m2 (fun g e o ho => by subst e; obtain ⟨c, fr, e2⟩ := tC1; rw [e2] at ho; cases ho; exact ⟨_, _, _, rfl, by decide⟩), hmA⟩⟩
  case rest =>
    clear HM HP HCC c3 c4 c5 c6 HMD
    obtain ⟨oa, ya, oc, sn, yc, out, vs, rfl, HR⟩ := hcut
    rename World => wc
    obtain ⟨hdone, hci, hrow, hseq, hmA⟩ := HR.out
    have hln := hdone.cnt
    obtain ⟨init, q, hout⟩ := done_snoc hdone HL.out.1 HL.out.2.2
    obtain ⟨m, hm⟩ : ∃ m, init.length = m := ⟨_, rfl⟩
    have holen : out.length = m + 1 := by rw [hout]; simp [hm]
    have hvl : vs.length = m + 1 := by have := hrow.1; omega
    obtain ⟨g, cp, e0, hcp1, hcp2, _, hcell⟩ := ownsRow_at hrow (by omega)
    cases e0
    rw [holen] at hci hrow hln
    have hmn : m ≤ 59 := by omega
    have hmk := fun W => make_uints m (by omega) W
    have hbase : base ≤ wc.heap.size := hci.base_le
    have HCI := Lib.hid hci
    have HROW := Lib.hid hrow
    have HSQ := Lib.hid (And.intro hseq hcell)
    have HDN := Lib.hid (And.intro hdone (And.intro hout hm))
    have HMA := Lib.hid hmA
    have k3 := hci.c3
    clear hdone hci hrow hseq hmA hcell hout HR hm
    go_wp2_with fail
    have hwb : Below wc.heap.size wc (wc.alloc (.cells (madeCells #[.int .u64 0] m) 54)) := (Below.refl _ _).alloc (Nat.le_refl _) _
    go_loopw [7, 8, 9, 10, 11, 12] (fun jv ix _ _ _ _ wr => ∃ k : Nat, ix = .int .i64 k ∧ k ≤ m ∧ Hid (CI wr base C gs ge (.slice (some ⟨g, 0, none⟩) (m + 1 : Nat) oc) (.slice ya sn yc) (l ++ segs 0 l.length ((init.take k).map seqPc))) ∧ Hid (wr.ownsRow wc.heap.size 54 1 jv k ((jpos l.length ((init.take k).map seqPc)).map uV)) ∧ Hid (Mod (TF cE base wc) wc wr)) (fun _ ix _ _ _ _ _ => m - (intOf ix).toNat)
    case atStart => exact ⟨0, rfl, Nat.zero_le _, Lib.hid (by simpa [segs] using HCI.out.below hwb), Lib.hid (by simpa [jpos] using own_made_uints m wc.heap.size (by omega) wc (Nat.le_refl _)), Lib.hid (Mod.of_below hwb)⟩
    case round =>
      obtain ⟨k, rfl, hk, HC, HJ, HW⟩ := hrel
      have c3 := HC.out.c3
      by_cases hlt : k < m
      · obtain ⟨q', hq'⟩ : ∃ q', init[k]? = some q' := ⟨_, List.getElem?_eq_getElem (by have := HDN.out.2.2; omega)⟩
        obtain ⟨v, hv⟩ : ∃ v, vs[k]? = some v := ⟨_, List.getElem?_eq_getElem (by omega)⟩
        have ho : out[k]? = some q' := by rw [HDN.out.2.1, List.getElem?_append_left (by have := HDN.out.2.2; omega)]; exact hq'
        have hsq := HSQ.out.1 k v q' hv ho
        have hgd : Utf.Good q'.1 q'.2 := (HDN.out.1.good q' (List.mem_of_getElem? ho)).1
        have hcl := HW.out.cell (HSQ.out.2 k v hv).1 (TF.not (ty_own HROW.out rfl) (by decide))
        have hsnoc : (init.take (k + 1)).map seqPc = (init.take k).map seqPc ++ [seqPc q'] := by rw [take_get hq', List.map_append]; rfl
        have hgi : ∀ x ∈ init.take k, Utf.Good x.1 x.2 := fun x hx => (HDN.out.1.good x (by rw [HDN.out.2.1]; exact List.mem_append_left _ (List.mem_of_mem_take hx))).1
        have hpl := plen_seq _ hgi
        have hwq := wid_le4 q'.1
        have hqc : (seqPc q').c = seqIns q' := rfl
        have hqn := seqIns_len hgd
        obtain ⟨gq, hgq, rfl, hblk⟩ := id hsq
        have HSK := Lib.hid (And.intro hsq hgd)
        have HSN := Lib.hid hsnoc
        have htk : (init.take k).length ≤ k := by simp; omega
        have hLl : (l ++ segs 0 l.length ((init.take k).map seqPc)).length = l.length + plen ((init.take k).map seqPc) := by rw [List.length_append, segs_len]
        generalize hps : (init.take k).map seqPc = P at *
        generalize hpp : plen P = pp at *
        have hL7 : (l ++ segs 0 l.length P).length ≤ 49999999000 := by omega
        obtain ⟨p0, hp0⟩ : ∃ p0, (l ++ segs 0 l.length P).length = p0 := ⟨_, rfl⟩
        obtain ⟨p1, hp1⟩ : ∃ p1, p1 = p0 + 1 := ⟨_, rfl⟩
        obtain ⟨p2, hp2⟩ : ∃ p2, p2 = p1 + wid q'.1 := ⟨_, rfl⟩
        obtain ⟨p3, hp3⟩ : ∃ p3, p3 = p2 + 1 := ⟨_, rfl⟩
        have e1 : (l ++ segs 0 l.length P ++ [In.spl 0 0]).length = p1 := by rw [List.length_append, hp0, hp1]; rfl
        have e2 : (l ++ segs 0 l.length P ++ [In.spl 0 0] ++ seqIns q').length = p2 := by rw [List.length_append, e1, hqn, hp2]
        have e3 : (l ++ segs 0 l.length P ++ [In.spl 0 0] ++ seqIns q' ++ [In.jmp 0]).length = p3 := by rw [List.length_append, e2, hp3]; rfl
        have HPS := Lib.hid (And.intro hps (And.intro hpp (And.intro hp0 (And.intro hp1 (And.intro hp2 (And.intro hp3 (And.intro e1 (And.intro e2 (And.intro e3 (And.intro hLl hqn))))))))))
        have hb1 : (l ++ segs 0 l.length P ++ [In.spl 0 0]).length + 4 ≤ 50000000000 := by omega
        have hb2 : (l ++ segs 0 l.length P ++ [In.spl 0 0] ++ seqIns q').length ≤ 50000000000 := by omega
        have HB := Lib.hid (And.intro hL7 (And.intro hb1 hb2))
        clear hq' hv ho hsq hgd hsnoc hgi hpl hwq hqc hqn hblk htk hLl hps hpp hL7 hp0 hp1 hp2 hp3 e1 e2 e3 hb1 hb2 hgq
        go_wp2_with fail
        refine (split_at HC.out HPS.out.2.2.1 (by have := HB.out.1; omega)).mono ?_
        rintro e w1 ⟨rfl, hC1, hm1⟩
        have HC1 := Lib.hid hC1
        have HM1 := Lib.hid hm1
        clear hC1 hm1
        go_wp2_with fail
        refine (top_at HC1.out HPS.out.2.2.2.2.2.2.1).mono ?_
        rintro e w1' ⟨rfl, rfl⟩
        go_wp2_with fail
        refine (ranges_ci base C gs ge w.heap.size _ _ _ q' _ _ HC1.out (seqAt_tf (seqAt_tf HSK.out.1 HW.out (by decide)) HM1.out (by decide)) HSK.out.2 HB.out.2.1).mono ?_
        rintro e w2 ⟨rfl, hC2, hm2⟩
        have HC2 := Lib.hid hC2
        have HM2 := Lib.hid (TF.trans HM1.out hm2)
        clear hC2 hm2 HC1 HM1
        go_wp2_with fail
        refine (jump_at HC2.out HPS.out.2.2.2.2.2.2.2.1 HB.out.2.2).mono ?_
        rintro e w3 ⟨rfl, hC3, hm3⟩
        have hm03 := TF.trans HM2.out hm3
        have hJ3 := own_tf HJ.out hm03 (by decide)
        have hb3 : wc.heap.size ≤ w3.heap.size := Nat.le_trans HW.out.size hm03.size
        have HC3 := Lib.hid hC3
        have HM3 := Lib.hid hm03
        have HJ3 := Lib.hid hJ3
        clear hC3 hm3 hm03 hJ3 HC2 HM2
        go_wp2_with (at_builtin; (refine wpList_append_one rfl (.tmp 79) (.tmp 82) 116 rfl wc.heap.size 54 _ 1 8 Tryd.underlying116 Tryd.infoUint rfl (by decide) (by decide) _ _ _ rfl HJ3.out #[.int .u64 (p2 : Int)] _ _ rfl (by simp) rfl (by simp [Value.oneCell']) (by omega) hb3 ?_; intro ao5 cap5 w4 hown hgr hat; have hC4 := HC3.out.own HJ3.out hgr; have hm4 : Mod (TF cE base wc) wc w4 := (TF.trans HW.out HM3.out).step ((((Mod.refl (fun k => u7.ownBlock = some k) w3).alloc _).grown hgr fun k hk _ => hk)) (fun i hi e => by have := (HJ3.out.lt i e).1; omega); have HC4 := Lib.hid hC4; have HM4 := Lib.hid hm4; have HJ4 := Lib.hid hown; clear hC4 hm4 hown hgr hat))
        refine (top_at HC4.out HPS.out.2.2.2.2.2.2.2.2.1).mono ?_
        rintro e w4' ⟨rfl, rfl⟩
        go_wp2_with fail
        refine (setS_ci base C gs ge p0 p1 p3 _ _ _ (In.spl 0 0) _ HC4.out (by rw [← HPS.out.2.2.1]; exact get_seg _ (seqPc q'))).mono ?_
        rintro e w5 ⟨rfl, hC5, hm5⟩
        have HC5 := Lib.hid hC5
        have HM5 := Lib.hid (TF.trans HM4.out hm5)
        have HJ5 := Lib.hid (own_tf HJ4.out hm5 (by decide))
        clear hC5 hm5
        go_wp2_with fail
        go_roundw
        case rel =>
          obtain ⟨hps, hpp, hp0, hp1, hp2, hp3, e1, e2, e3, hLl, hqn⟩ := HPS.out
          refine ⟨k + 1, by go_num, by omega, Lib.hid ?_, Lib.hid ?_, HM5⟩
          · have h9 := HC5.out
            have hx := put_seg (l ++ segs 0 l.length P) (seqPc q')
            have hqc : (seqPc q').c = seqIns q' := rfl
            rw [hqc, hp0, hqn] at hx
            rw [show p1 = p0 + 1 from hp1, show p3 = p0 + wid q'.1 + 2 by omega, hx] at h9
            rw [HSN.out, segs_snoc, hpp, ← List.append_assoc, ← hLl, hp0]
            exact h9
          · rw [HSN.out, jpos_snoc, hpp, List.map_append]
            have hqc : (seqPc q').c = seqIns q' := rfl
            have h9 := HJ5.out
            rw [hqc, hqn, show l.length + pp + wid q'.1 + 1 = p2 by omega]
            exact h9
        case measure => simp [intOf]; omega
      · obtain rfl : m = k := by omega
        have htk : init.take m = init := List.take_of_length_le (by have := HDN.out.2.2; omega)
        rw [htk] at HC HJ
        have ho : out[m]? = some q := by rw [HDN.out.2.1, List.getElem?_append_right (by have := HDN.out.2.2; omega)]; have := HDN.out.2.2; simp [this]
        obtain ⟨v, hv⟩ : ∃ v, vs[m]? = some v := ⟨_, List.getElem?_eq_getElem (by omega)⟩
        have hsq := HSQ.out.1 m v q hv ho
        have hgd : Utf.Good q.1 q.2 := (HDN.out.1.good q (List.mem_of_getElem? ho)).1
        have hgi : ∀ x ∈ init, Utf.Good x.1 x.2 := fun x hx => (HDN.out.1.good x (by rw [HDN.out.2.1]; exact List.mem_append_left _ hx)).1
        have hpl := plen_seq _ hgi
        have hil := HDN.out.2.2
        have hwq := wid_le4 q.1
        have hqn := seqIns_len hgd
        have hLl : (l ++ segs 0 l.length (init.map seqPc)).length = l.length + plen (init.map seqPc) := by rw [List.length_append, segs_len]
        have hgr : Ty wc g 164 := ty_own HROW.out rfl
        have hcl := HW.out.cell (HSQ.out.2 m v hv).1 (TF.not hgr (by decide))
        obtain ⟨gq, hgq, rfl, hblk⟩ := id hsq
        have hbd : Below wr.heap.size wr wr.drew := (Below.refl _ _).drew
        have hmd : Mod (TF cE base wc) wc wr.drew := TF.trans HW.out (Mod.of_below hbd)
        have hgr2 : Ty wr.drew g 164 := ty_mod hgr hmd (TF.not hgr (by decide))
        have hCd := HC.out.below hbd
        have hrg := ranges_ci base C gs ge w.heap.size _ _ _ q _ wr.drew hCd (seqAt_tf hsq hmd (by decide)) hgd (by omega)
        have HRG := Lib.hid hrg
        have HMDD := Lib.hid (And.intro hgr2 hmd)
        have hcld : wr.drew.cell? ⟨g, m, none⟩ = some (.slice (some ⟨gq, 0, none⟩) (wid q.1) (wid q.1)) := hcl
        have HJd := Lib.hid (ownsRow_below HJ.out hbd (fun k hk => (HJ.out.lt k hk).2))
        obtain ⟨jo, jc, hju⟩ := ownsRow_form HJ.out
        obtain ⟨p0, hp0⟩ : ∃ p0, p0 = l.length + plen (init.map seqPc) + wid q.1 := ⟨_, rfl⟩
        have e1 : (l ++ segs 0 l.length (init.map seqPc) ++ seqIns q).length = p0 := by rw [List.length_append, hLl, hqn, hp0]
        have HE := Lib.hid (And.intro e1 (And.intro hp0 (And.intro hqn (And.intro hgd hil))))
        clear htk ho hv hsq hgi hpl hil hqn hLl hgr hblk hbd hmd hgr2 hCd hrg hp0 e1 hgd hgq
        have hwm : IntKind.i64.wrap (m : Int) = (m : Int) := IntWalk.i64_in _ (by omega)
        have hix0 : (0 : Int) ≤ (m : Int) := by omega
        have hix1 : (m : Int) < (m : Int) + 1 := by omega
        have hix2 : m < m + 1 := by omega
        go_wp2_with fail
        go_region_held3 (fun w' => w'.cell? ⟨C, 3, none⟩ = some (.slice (some ⟨g, 0, none⟩) (m + 1 : Nat) oc) ∧ w'.cell? ⟨g, m, none⟩ = some (.slice (some ⟨gq, 0, none⟩) (wid q.1) (wid q.1))) (go_keep) (first | (go_at_call 74; refine (HRG.out).mono ?_; rintro e w1 ⟨rfl, hC1, hm1⟩; have d3 := hC1.c3; have d4 := hm1.cell hcld (TF.not HMDD.out.1 (by decide)); have HC1 := Lib.hid hC1; have HM1 := Lib.hid hm1; clear hC1 hm1))
        go_wp2_with fail
        refine (top_at HC1.out HE.out.1).mono ?_
        rintro e w1' ⟨rfl, rfl⟩
        have hJ1 := own_tf HJd.out HM1.out (by decide)
        have hC6 : CI w1 base C gs ge (.slice (some ⟨g, 0, none⟩) (m + 1 : Nat) oc) (.slice ya sn yc) (half l p0 0 (init.map seqPc) (seqIns q)) := by rw [half_zero]; exact HC1.out
        have HC6 := Lib.hid hC6
        have HJ1 := Lib.hid hJ1
        have HMM := Lib.hid (TF.trans HMDD.out.2 HM1.out)
        clear hC6 hJ1 HC1 HM1 HMDD HJd HRG HJ HC HW c3 hcl hcld d3 d4
        subst hju
        go_wp2_with fail
        go_loopw [15, 109] (fun _ ix wr => ∃ j : Nat, ix = .int .i64 j ∧ j ≤ m ∧ Hid (CI wr base C gs ge (.slice (some ⟨g, 0, none⟩) (m + 1 : Nat) oc) (.slice ya sn yc) (half l p0 j (init.map seqPc) (seqIns q))) ∧ Hid (Mod (TF cE base w1) w1 wr)) (fun _ ix _ => m - (intOf ix).toNat)
        case atStart => exact ⟨0, rfl, Nat.zero_le _, HC6, Lib.hid (Mod.refl _ _)⟩
        case round =>
          clear HC6
          obtain ⟨j, rfl, hj, HC, HW⟩ := hrel
          by_cases hlt2 : j < m
          · obtain ⟨x, hx⟩ : ∃ x, (init.map seqPc)[j]? = some x := ⟨_, List.getElem?_eq_getElem (by have := HE.out.2.2.2.2; simp; omega)⟩
            have hjp := jpos_at (init.map seqPc) l.length j x hx
            obtain ⟨A, B, hA, hh1, hh2⟩ := half_split l p0 j (init.map seqPc) (seqIns q) x hx
            have hrr := own_tf HJ1.out HW.out (by decide)
            obtain ⟨jb, joff, jcap, z, ejo, hz, hcz⟩ := Reads.one uV (reads_of_owns hrr) hlt2
            cases ejo
            rw [hjp] at hz
            obtain rfl := Option.some.inj hz
            obtain ⟨pj, hpj⟩ : ∃ pj, pj = l.length + plen ((init.map seqPc).take j) + x.c.length + 1 := ⟨_, rfl⟩
            rw [← hpj] at hcz
            have hcz' : wr.cell? ⟨jb, joff + j, none⟩ = some (.int .u64 (pj : Int)) := hcz
            have hset := setJ_ci base C gs ge pj p0 _ _ _ (In.jmp 0) wr HC.out (by rw [hh1]; exact get_mid _ _ _ _ (by omega))
            have HST := Lib.hid hset
            have HHH := Lib.hid (And.intro hh1 (And.intro hh2 (And.intro hA hpj)))
            clear hx hjp hA hh1 hh2 hrr hz hpj hcz hset
            go_wp2_with fail
            refine HST.out.mono ?_
            rintro e w7 ⟨rfl, hC7, hm7⟩
            have HC7 := Lib.hid hC7
            have HM7 := Lib.hid (TF.trans HW.out hm7)
            clear hC7 hm7 HST
            go_wp2_with fail
            go_roundw
            case rel =>
              refine ⟨j + 1, by go_num, by omega, Lib.hid ?_, HM7⟩
              obtain ⟨hh1, hh2, hA, hpj⟩ := HHH.out
              have h9 := HC7.out
              rw [hh1, set_mid _ _ _ _ _ (by omega)] at h9
              rw [hh2]
              exact h9
            case measure => simp [intOf]; omega
          · obtain rfl : m = j := by omega
            go_wp2_with fail
            go_ret
            obtain ⟨e1, hp0, hqn, hgd, hil⟩ := HE.out
            have h9 := HC.out
            have hlm : (init.map seqPc).length = m := by simp [hil]
            rw [← hlm, half_all] at h9
            have hok := Ok.range (q := q) (out := init) (by rw [← HDN.out.2.1]; exact HDN.out.1) (fun h127 => done_asc (by rw [← HDN.out.2.1]; exact HDN.out.1) h127) (by omega) l.length
            have hrc : RngC a b l.length (segs (l.length + plen (init.map seqPc) + (seqIns q).length) l.length (init.map seqPc) ++ seqIns q) := ⟨init, q, by rw [← HDN.out.2.1]; exact HDN.out.1, rfl⟩
            rw [hqn, ← hp0] at hok hrc
            exact ⟨rfl, ⟨_, _, _, h9, hok, hrc⟩, TF.trans HMA.out (TF.mono (TF.trans HMM.out HW.out) cE_cA)⟩
end Go.Proofs.YtnpchkohfomagaaDoor.Rgw
