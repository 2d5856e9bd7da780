/- fromNfa. -/
import Derived.Test.YtnfagjemhbgfkaaDoorFnf0
import Derived.Test.YtnfagjemhbgfkaaDoorFnp
import Derived.Test.YtnfagjemhbgfkaaDoorPlm4
import Derived.Test.YtnfagjemhbgfkaaDoorPlm5
import Derived.Deep.AppendLies
namespace Go.Proofs.YtnfagjemhbgfkaaDoor.Hsh
open Go.ChangeShapes Go.WideShapes Go.ChangeAt Go.RowKit Go.Trav Go.Nor Go.Proofs.YtnfagjemhbgfkaaDoor.Sha Go.Proofs.YtnfagjemhbgfkaaDoor.Nfa Go.Proofs.YtnfagjemhbgfkaaDoor.Srt Go.Proofs.YtnfagjemhbgfkaaDoor.Jsn
set_option linter.unusedVariables false
set_option linter.unusedSimpArgs false
set_option maxRecDepth 100000
/-- What fromNfa keeps: the hash, and of its sets that all are normal and none comes twice. -/
structure FI (K : Nat → Int) (m : Nat) (w0 w : World) (H M : Nat) (iv : Value) (vs : List Value) (Ss : List (List Plc)) : Prop where
  h : HAt K w w0.heap.size H M iv vs Ss
  nd : Ss.Nodup
  nm : ∀ S ∈ Ss, Norm m S
  ln : ∀ S ∈ Ss, S.length ≤ 10
  bel : Below w0.heap.size w0 w
theorem FI.few {K : Nat → Int} {m : Nat} {w0 w : World} {H M : Nat} {iv : Value} {vs : List Value} {Ss : List (List Plc)} (h : FI K m w0 w H M iv vs Ss) (hm : m ≤ 2) : Ss.length ≤ 8192 := norm_few hm h.nd h.nm
theorem FI.below {K : Nat → Int} {m : Nat} {w0 w w' : World} {H M : Nat} {iv : Value} {vs : List Value} {Ss : List (List Plc)} (h : FI K m w0 w H M iv vs Ss) (hb : Below w.heap.size w w') : FI K m w0 w' H M iv vs Ss :=
  ⟨h.h.below hb, h.nd, h.nm, h.ln, h.bel.trans (hb.mono h.bel.size)⟩
/-- getOrAllocate of a normal set keeps what fromNfa keeps. -/
theorem goa_fi {K : Nat → Int} {m : Nat} (hm : m ≤ 2) {w0 w : World} {H M n : Nat} {iv v : Value} {vs : List Value} {Ss : List (List Plc)} {S : List Plc} (h : FI K m w0 w H M iv vs Ss) (hS : Norm m S) (hR : Reads w v n 3 (S.flatMap pC)) (hn : n ≤ 200) (hln : S.length ≤ 10)
    (hv : ∀ k, v.ownBlock = some k → k < w.heap.size ∧ k ≠ H ∧ k ≠ M ∧ iv.ownBlock ≠ some k) (hK : KAt w0 K) :
    Calls Tryd.prog 10 #[.pointer (some ⟨H, 0, none⟩), .agg #[v]] w fun e w' => ∃ (a : Int) (iv' : Value) (vs' : List Value) (Ss' : List (List Plc)), e = .returned (.int .i64 a) ∧ (Lit.int .i64 a).wf = true ∧ FI K m w0 w' H M iv' vs' Ss' ∧ ((∃ r, Ss' = Ss ++ r) ∧ (vs' = vs ∨ vs' = vs ++ [v])) ∧ Mod (Fh H M iv) w w' ∧ (∀ k, iv'.ownBlock = some k → iv.ownBlock = some k ∨ w.heap.size ≤ k) := by
  have hk := kat_lt hK
  have hL := h.few hm
  refine (goa_any K w0.heap.size H M n iv v vs Ss S w h.h hR hv (fun p hp => ?_) hn (hK.mod (Mod.of_below (F := fun _ => False) h.bel) (fun h => h)) (by omega) h.bel.size hk).mono ?_
  · obtain ⟨h1, h2⟩ := hS.small hm p hp
    exact ⟨by omega, by omega⟩
  · rintro e w' ⟨a, iv', vs', Ss', rfl, hwf, hH, hc, hmod, hiv⟩
    have hb : Below w0.heap.size w0 w' := h.bel.trans (hmod.toBelow h.bel.size (fun k hk hF => by
      obtain ⟨g1, g2⟩ := h.h.ge
      rcases hF with rfl | rfl | hF
      · exact g1
      · exact g2
      · exact (h.h.row.lt k hF).1))
    refine ⟨a, iv', vs', Ss', rfl, hwf, ?_, ?_, hmod, hiv⟩
    · rcases hc with ⟨rfl, rfl, rfl⟩ | ⟨hn, rfl, rfl⟩
      · exact ⟨hH, h.nd, h.nm, h.ln, hb⟩
      · refine ⟨hH, ?_, ?_, ?_, hb⟩
        · rw [List.nodup_append]
          exact ⟨h.nd, by simp, fun a ha b hb' e => hn (by
            have : b = S := by simpa using hb'
            rw [← this, ← e]; exact ha)⟩
        · intro T hT
          rcases List.mem_append.1 hT with hT | hT
          · exact h.nm T hT
          · rw [List.mem_singleton.1 hT]; exact hS
        · intro T hT
          rcases List.mem_append.1 hT with hT | hT
          · exact h.ln T hT
          · rw [List.mem_singleton.1 hT]; exact hln
    · rcases hc with ⟨rfl, rfl, -⟩ | ⟨-, rfl, rfl⟩
      · exact ⟨⟨[], by simp⟩, Or.inl rfl⟩
      · exact ⟨⟨_, rfl⟩, Or.inr rfl⟩
theorem Tryd.info63 : (Tryd.prog.info? 63).map (fun i => (i.zero, i.size, i.bytes)) = some (some (.agg #[.int .u32 0, .int .u32 0]), 2, 8) := by kernel_rfl
theorem Tryd.info54 : (Tryd.prog.info? 54).map (fun i => (i.zero, i.size, i.bytes)) = some (some (.int .u64 0), 1, 8) := by kernel_rfl
def u64V (x : Nat) : Value := .int .u64 (x : Int)
/-- A row of small numbers in a block of its own. -/
def UAt (w : World) (C : Nat) (l : List Nat) : Prop := w.heap[C]? = some (.cells (l.map u64V).toArray 54 (0, 0)) ∧ ∀ x ∈ l, x ≤ 1000
theorem UAt.below {w w' : World} {C : Nat} {l : List Nat} (h : UAt w C l) (hb : Below w.heap.size w w') : UAt w' C l := ⟨(hb.block _ (block_lt h.1)).trans h.1, h.2⟩
theorem UAt.mod {w w' : World} {C : Nat} {l : List Nat} {F : Nat → Prop} (h : UAt w C l) (hm : Mod F w w') (hn : ¬ F C) : UAt w' C l := ⟨hm.heap h.1 hn, h.2⟩
theorem UAt.get {w : World} {C : Nat} {l : List Nat} (h : UAt w C l) {i : Nat} (hi : i < l.length) : ∃ x : Nat, x ≤ 1000 ∧ w.cell? ⟨C, i, none⟩ = some (.int .u64 (x : Int)) :=
  ⟨l[i], h.2 _ (List.getElem_mem _), block_cell h.1 (by rw [List.getElem?_toArray, List.getElem?_map, List.getElem?_eq_getElem hi]; rfl)⟩
theorem UAt.set {w : World} {C : Nat} {l : List Nat} (h : UAt w C l) (i x : Nat) (hx : x ≤ 1000) : UAt (w.setCell ⟨C, i, none⟩ (.int .u64 (x : Int))) C (l.set i x) := by
  refine ⟨?_, fun y hy => ?_⟩
  · have := block_set (i := i) (u := u64V x) h.1
    rw [Go.Trav.row_set] at this
    exact this
  · rcases List.mem_or_eq_of_mem_set hy with hy | rfl
    · exact h.2 y hy
    · exact hx
theorem size_made (n : Nat) : (madeCells (Value.int .u64 0).cells (n * 1)).toList.length = n * 1 := by simp [madeCells]
theorem made_zero (n : Nat) : (madeCells (Value.int .u64 0).cells (n * 1)).toList = ((List.replicate n 0).map u64V) := by
  refine List.ext_getElem (by simp [madeCells]) fun i h1 h2 => ?_
  simp [madeCells, Value.cells, Nat.mod_one, u64V]
theorem uat_made {w : World} {base g n : Nat} (h : w.ownsRow base 54 1 (.slice (some ⟨g, 0, none⟩) n n) n (madeCells (Value.int .u64 0).cells (n * 1)).toList) : UAt w g (List.replicate n 0) := by
  obtain ⟨hl, h⟩ := h
  rcases h with ⟨h1, h2⟩ | ⟨g', cap', cur, h1, hb, hg, hn, hm, hs, ht⟩
  · cases h1
  · simp only [Value.slice.injEq, Option.some.injEq, Addr.mk.injEq] at h1
    obtain ⟨⟨rfl, -⟩, -, rfl⟩ := h1
    refine ⟨?_, fun x hx => by rw [(List.mem_replicate.1 hx).2]; omega⟩
    have hcur : cur.toList = (madeCells (Value.int .u64 0).cells (n * 1)).toList := by
      rw [← ht, List.take_of_length_le]
      rw [Array.length_toList, hs]
      exact Nat.le_refl _
    rw [hg]
    congr 2
    apply Array.ext'
    rw [hcur, made_zero]
theorem HAt.mod {K : Nat → Int} {w w' : World} {base H M : Nat} {iv : Value} {vs : List Value} {Ss : List (List Plc)} {F : Nat → Prop} (h : HAt K w base H M iv vs Ss) (hm : Mod F w w') (hH : ¬ F H) (hM : ¬ F M) (hi : ∀ k, iv.ownBlock = some k → ¬ F k) (hv : ∀ v ∈ vs, ∀ k, v.ownBlock = some k → ¬ F k) : HAt K w' base H M iv vs Ss :=
  ⟨hm.heap h.blk hH, ownsRow_mod h.row hm hi, h.len,
    (by
      obtain ⟨n, D, h1, h2, h3⟩ := h.map
      obtain ⟨es, clock, g1, g2⟩ := h2
      exact ⟨n, D, h1, ⟨es, clock, hm.heap g1 hM, g2⟩, h3⟩),
    (fun i v S h1 h2 => by
      obtain ⟨n, hr⟩ := h.vals i v S h1 h2
      exact ⟨n, hr.mod hm (fun g hg => hv v (List.mem_of_getElem? h1) g hg)⟩),
    (fun v hv' k hk => by obtain ⟨h1, h2⟩ := h.own v hv' k hk; exact ⟨Nat.lt_of_lt_of_le h1 hm.size, h2⟩), h.ne, h.ge⟩
/-- What the second loop keeps. -/
structure LI (K : Nat → Int) (m : Nat) (w0 w : World) (H M C : Nat) (iv : Value) (vs : List Value) (Ss : List (List Plc)) (tv : Value) (n : Nat) (xs : List Value) (l : List Nat) : Prop where
  fi : FI K m w0 w H M iv vs Ss
  row : w.ownsRow w0.heap.size 63 2 tv n xs
  u : UAt w C l
  c : H ≠ C ∧ M ≠ C ∧ iv.ownBlock ≠ some C ∧ tv.ownBlock ≠ some C ∧ ∀ v ∈ vs, v.ownBlock ≠ some C
  t : tv.ownBlock ≠ some H ∧ tv.ownBlock ≠ some M ∧ (∀ k, iv.ownBlock = some k → tv.ownBlock ≠ some k) ∧ ∀ v ∈ vs, ∀ k, v.ownBlock = some k → tv.ownBlock ≠ some k
  ge : w0.heap.size ≤ C
theorem LI.below {K : Nat → Int} {m : Nat} {w0 w w' : World} {H M C : Nat} {iv : Value} {vs : List Value} {Ss : List (List Plc)} {tv : Value} {n : Nat} {xs : List Value} {l : List Nat} (h : LI K m w0 w H M C iv vs Ss tv n xs l) (hb : Below w.heap.size w w') : LI K m w0 w' H M C iv vs Ss tv n xs l :=
  ⟨h.fi.below hb, ownsRow_below h.row hb (fun g hg => (h.row.lt g hg).2), h.u.below hb, h.c, h.t, h.ge⟩
theorem LI.goa {K : Nat → Int} {m : Nat} {w0 wd we : World} {H M C : Nat} {iv iv' v : Value} {vs vs' : List Value} {Ss Ss' : List (List Plc)} {tv : Value} {n : Nat} {xs : List Value} {l : List Nat} (h : LI K m w0 wd H M C iv vs Ss tv n xs l) (hF : FI K m w0 we H M iv' vs' Ss') (hm : Mod (Fh H M iv) wd we)
    (hi : ∀ k, iv'.ownBlock = some k → iv.ownBlock = some k ∨ wd.heap.size ≤ k) (hv : vs' = vs ∨ vs' = vs ++ [v]) (hvC : ∀ k, v.ownBlock = some k → k ≠ C ∧ tv.ownBlock ≠ some k) : LI K m w0 we H M C iv' vs' Ss' tv n xs l := by
  obtain ⟨c1, c2, c3, c4, c5⟩ := h.c
  obtain ⟨t1, t2, t3, t4⟩ := h.t
  have hC := block_lt h.u.1
  have hmem : ∀ u ∈ vs', u ∈ vs ∨ u = v := by
    intro u hu
    rcases hv with rfl | rfl
    · exact Or.inl hu
    · rcases List.mem_append.1 hu with hu | hu
      · exact Or.inl hu
      · exact Or.inr (by simpa using hu)
  refine ⟨hF, ownsRow_mod h.row hm ?_, h.u.mod hm ?_, ⟨c1, c2, ?_, c4, ?_⟩, ⟨t1, t2, ?_, ?_⟩, h.ge⟩
  · intro g hg hFh
    rcases hFh with rfl | rfl | hFh
    · exact t1 hg
    · exact t2 hg
    · exact t3 g hFh hg
  · intro hFh
    rcases hFh with e | e | e
    · exact c1 e.symm
    · exact c2 e.symm
    · exact c3 e
  · intro e
    rcases hi C e with e | e
    · exact c3 e
    · omega
  · intro u hu e
    rcases hmem u hu with hu | rfl
    · exact c5 u hu e
    · exact (hvC C e).1 rfl
  · intro k hk e
    rcases hi k hk with hk | hk
    · exact t3 k hk e
    · have := (h.row.lt k e).2
      omega
  · intro u hu k hk e
    rcases hmem u hu with hu | rfl
    · exact t4 u hu k hk e
    · exact (hvC k hk).2 e
/-- An append onto the row of transitions keeps all. -/
theorem LI.app {K : Nat → Int} {m : Nat} {w0 we w9 : World} {H M C : Nat} {iv : Value} {vs : List Value} {Ss : List (List Plc)} {tv : Value} {n : Nat} {xs : List Value} {l : List Nat} (h : LI K m w0 we H M C iv vs Ss tv n xs l) {o : Obj} {g n' cap : Nat} {xs' : List Value}
    (hown : w9.ownsRow w0.heap.size 63 2 (.slice (some ⟨g, 0, none⟩) n' cap) n' xs') (hgr : (we.alloc o).grownBy w9 tv.ownBlock) (hg : tv.ownBlock = some g ∨ g = (we.alloc o).heap.size) : LI K m w0 w9 H M C iv vs Ss (.slice (some ⟨g, 0, none⟩) n' cap) n' xs' l := by
  obtain ⟨c1, c2, c3, c4, c5⟩ := h.c
  obtain ⟨t1, t2, t3, t4⟩ := h.t
  have hm : Mod (fun k => tv.ownBlock = some k) we w9 := ((Mod.refl _ we).alloc o).grown hgr (fun k e _ => e)
  have key : ∀ k, k < we.heap.size → tv.ownBlock ≠ some k → (Value.slice (some ⟨g, 0, none⟩) n' cap).ownBlock ≠ some k := by
    intro k hk hn e
    have e2 : g = k := by simpa [Value.ownBlock] using e
    rcases hg with hg | hg
    · exact hn (by rw [hg, e2])
    · simp at hg
      omega
  have hH := block_lt h.fi.h.blk
  have hM : M < we.heap.size := by
    obtain ⟨nq, Dq, -, hmq, -⟩ := h.fi.h.map
    exact hmq.lt
  refine ⟨⟨h.fi.h.mod hm t1 t2 t3 t4, h.fi.nd, h.fi.nm, h.fi.ln, h.fi.bel.trans (hm.toBelow h.fi.bel.size (fun k _ hF => (h.row.lt k hF).1))⟩, hown, h.u.mod hm c4, ⟨c1, c2, c3, key C (block_lt h.u.1) c4, c5⟩, ⟨key H hH t1, key M hM t2, fun k hk => key k (h.fi.h.row.lt k hk).2 (t3 k hk), fun v hv k hk => key k (h.fi.h.own v hv k hk).1 (t4 v hv k hk)⟩, h.ge⟩
/-- normalize of any set of few places. -/
theorem normz_any (base M : Nat) (v : Value) (S : List Plc) (w : World) (h : MsAt w base M v S) (hs : ∀ s ∈ S, Sm s) (hl : S.length ≤ 12) (hb : base ≤ w.heap.size) :
    Calls Tryd.prog 17 #[.pointer (some ⟨M, 0, none⟩)] w fun e w' => ∃ (o : Nat) (S' : List Plc), e = .returned (.int .u32 o) ∧ S'.Perm (S.map (back (least S))) ∧ Upto S' S'.length ∧ MsAt w' base M v S' ∧ Below base w w' := by
  by_cases hne : S = []
  · subst hne
    refine (norm0_any base M v w h).mono ?_
    rintro e w' ⟨rfl, h1, h2⟩
    exact ⟨0, [], rfl, List.Perm.refl _, (fun p q x y g1 g2 => by simp at g2), h1, h2.mono hb⟩
  · refine (normx_any base M v S w h hs hne hl).mono ?_
    rintro e w' ⟨rfl, ⟨S', h1, h2, h3⟩, h4⟩
    exact ⟨_, S', rfl, h1, h2, h3, h4⟩
set_option maxHeartbeats 16000000 in
theorem from_any (K : Nat → Int) (L m : Nat) (sw : Bool) (w : World) (hL : LaAt w L m sw) (hm : m ≤ 2) (hK : KAt w K) :
    Calls Tryd.prog 8 #[.pointer (some ⟨L, 0, none⟩)] w fun e w' => ∃ P, e = .returned (.tuple #[.pointer (some ⟨P, 0, none⟩), .nilIface]) ∧ w'.cell? ⟨P, 2, none⟩ = some (.int .u8 m) ∧ Below w.heap.size w w' := by
  have HL := Lib.hid hL
  have HK := Lib.hid hK
  clear hL hK
  go_enter Tryd.func8, Tryd.ntmps8
  go_wp2_with fail
  refine (newh_any K w).mono ?_
  rintro e w1 ⟨H, M, iv, rfl, hH, hB⟩
  have HF1 : Hid (FI K m w w1 H M iv [] []) := Lib.hid ⟨hH, List.nodup_nil, (fun S hS => by cases hS), (fun S hS => by cases hS), hB⟩
  clear hH hB
  go_wp2_with fail
  refine (newms2_any w1).mono ?_
  rintro e w2 ⟨M0, g0, c0, rfl, hM0, hB2⟩
  have HF2 := Lib.hid (HF1.out.below hB2)
  have HM0 := Lib.hid hM0
  have HB2 := Lib.hid hB2
  have cm := block_cell (i := 0) (u := .slice (some ⟨g0, 0, none⟩) 0 c0) hM0.blk rfl
  clear hM0 hB2
  go_wp2_with fail
  have hv0 : ∀ k, (Value.slice (some ⟨g0, 0, none⟩) 0 c0).ownBlock = some k → k < w2.heap.size ∧ k ≠ H ∧ k ≠ M ∧ iv.ownBlock ≠ some k := by
    intro k hk
    obtain ⟨k1, k2⟩ := HM0.out.row.lt k hk
    have h1 := block_lt HF1.out.h.blk
    obtain ⟨nq, Dq, -, hmq, -⟩ := HF1.out.h.map
    have h2 := hmq.lt
    refine ⟨k2, by omega, by omega, fun e => ?_⟩
    have := (HF1.out.h.row.lt k e).2
    omega
  refine (goa_fi hm HF2.out (norm_nil m) (by have := owns_reads HM0.out.row; simpa using this) (by omega) (by decide) hv0 HK.out).mono ?_
  rintro e w3 ⟨a3, iv3, vs3, Ss3, rfl, hwf3, hF3, hx3, hm3, hiv3⟩
  have HF3 := Lib.hid hF3
  clear hF3 hx3 hm3 hiv3 hv0 cm hwf3
  go_wp2_with fail
  refine (ini_any (.pointer (some ⟨L, 0, none⟩)) w3).mono ?_
  rintro e w4 ⟨M1, v1, rfl, hM1, hB4⟩
  have HF4 := Lib.hid (HF3.out.below hB4)
  have HM1 := Lib.hid hM1
  have HB4 := Lib.hid hB4
  have cm := block_cell (i := 0) (u := v1) hM1.blk rfl
  clear hM1 hB4
  go_wp2_with fail
  have hv1 : ∀ k, v1.ownBlock = some k → k < w4.heap.size ∧ k ≠ H ∧ k ≠ M ∧ iv3.ownBlock ≠ some k := by
    intro k hk
    obtain ⟨k1, k2⟩ := HM1.out.row.lt k hk
    have h1 := block_lt HF3.out.h.blk
    obtain ⟨nq, Dq, -, hmq, -⟩ := HF3.out.h.map
    have h2 := hmq.lt
    refine ⟨k2, by omega, by omega, fun e => ?_⟩
    have := (HF3.out.h.row.lt k e).2
    omega
  refine (goa_fi hm HF4.out (norm_start m) (owns_reads HM1.out.row) (by decide) (by decide) hv1 HK.out).mono ?_
  rintro e w5 ⟨a5, iv5, vs5, Ss5, rfl, hwf5, hF5, hx5, hm5, hiv5⟩
  have HF5 := Lib.hid hF5
  have hL5 : LaAt w5 L m sw := HL.out.below hF5.bel
  have HL5 := Lib.hid hL5
  clear hF5 hx5 hm5 hiv5 hv1 cm hwf5 hL5
  go_wp2_with fail
  refine (maxd_any L m sw w5 HL5.out).mono ?_
  rintro e w6 ⟨rfl, rfl⟩
  go_wp2_with fail
  refine (dia_any L m sw _ HL5.out (by omega)).mono ?_
  rintro e w6 ⟨rfl, rfl⟩
  obtain ⟨D, hD⟩ : ∃ D, D = 2 * m + 1 := ⟨_, rfl⟩
  rw [← hD]
  have hD5 : (D : Int) ≤ 5 := by omega
  have hD0 : (0 : Int) ≤ (D : Int) := by omega
  obtain ⟨N, hN, hN2, hN32⟩ : ∃ N : Nat, wrap64 ((2 : Int) ^ D) = (N : Int) ∧ 2 ≤ N ∧ N ≤ 32 := by
    have hc : D = 1 ∨ D = 3 ∨ D = 5 := by omega
    rcases hc with rfl | rfl | rfl
    · exact ⟨2, by kernel_rfl, by omega, by omega⟩
    · exact ⟨8, by kernel_rfl, by omega, by omega⟩
    · exact ⟨32, by kernel_rfl, by omega, by omega⟩
  have HD := Lib.hid hD
  clear hD
  obtain ⟨i0, hi, hz0, hz1, hz2⟩ := info_parts Tryd.info54
  have HI := Lib.hid hi
  clear hi
  have hb64 : i0.bytes * N ≤ 281474976710656 := by rw [hz2]; omega
  go_wp2_with (refine wpList_make_full _ rfl _ _ 53 rfl _ 54 i0 _ 1 Tryd.underlying53 HI.out hz0 hz1 .i64 .i64 _ _ N rfl rfl hN hN hb64 (by unfold maxLen; omega) (Nat.le_refl _) ?_; intro w7 hown7 hgr7)
  have hUA : UAt w7 w6.heap.size (List.replicate N 0) := uat_made hown7
  have hB7 : Below w6.heap.size w6 w7 := (Below.refl _ _).grown hgr7 (Nat.le_refl _) (fun k hk => by cases hk)
  have HF7 := Lib.hid (HF5.out.below hB7)
  have hC7 := block_lt hUA.1
  obtain ⟨C0, hC0⟩ : ∃ C0, C0 = w6.heap.size := ⟨_, rfl⟩
  rw [← hC0] at hUA hC7 ⊢
  have hHC : H ≠ C0 ∧ M ≠ C0 ∧ (∀ k, iv5.ownBlock = some k → k ≠ C0) ∧ w.heap.size ≤ C0 ∧ (∀ v ∈ vs5, ∀ k, v.ownBlock = some k → k ≠ C0) := by
    have h1 := block_lt HF5.out.h.blk
    obtain ⟨nq, Dq, -, hmq, -⟩ := HF5.out.h.map
    have h2 := hmq.lt
    have h3 := HF5.out.bel.size
    refine ⟨by omega, by omega, fun k hk => ?_, by omega, fun v hv k hk => ?_⟩
    · have := (HF5.out.h.row.lt k hk).2
      omega
    · have := (HF5.out.h.own v hv k hk).1
      omega
  have HHC := Lib.hid hHC
  have HUA : Hid (∃ l : List Nat, l.length = N ∧ UAt w7 C0 l) := Lib.hid ⟨_, by simp, hUA⟩
  have HW7 : Hid (Mod (fun k => k = C0) w7 w7) := Lib.hid (Mod.refl _ _)
  clear hown7 hgr7 hUA hB7 hC0 hHC hN
  go_loopw [10] (fun iv wr => ∃ i : Nat, iv = .int .i64 i ∧ i ≤ N ∧ Hid (∃ l : List Nat, l.length = N ∧ UAt wr C0 l) ∧ Hid (Mod (fun k => k = C0) w7 wr)) (fun iv _ => N - (intOf iv).toNat)
  case atStart => exact ⟨0, rfl, Nat.zero_le _, HUA, HW7⟩
  case round =>
    clear HUA HW7
    obtain ⟨i, rfl, hin, HU, HM7⟩ := hrel
    rename World => wr
    obtain ⟨l, hll, hu⟩ := HU.out
    by_cases hlt : i < N
    · have hlz : (i : Int) < (N : Int) := by omega
      obtain ⟨x, hx, cx⟩ := hu.get (i := i) (by omega)
      have fx : wr.frozen? ⟨C0, i, none⟩ = false := block_free hu.1
      have HU2 : Hid (UAt (wr.setCell ⟨C0, i, none⟩ (.int .u64 (i : Int))) C0 (l.set i i)) := Lib.hid (hu.set i i (by omega))
      have HLL := Lib.hid hll
      clear hu hll
      have hi0 : (0 : Int) ≤ (i : Int) := by omega
      have hi32 : (i : Int) ≤ 32 := by omega
      go_wp2_with fail
      go_roundw
      case rel => exact ⟨i + 1, by push_cast; rfl, by omega, Lib.hid ⟨_, by rw [List.length_set]; exact HLL.out, HU2.out⟩, Lib.hid (HM7.out.setCell (p := ⟨C0, i, none⟩) (fun _ => rfl) _)⟩
      case measure => simp [intOf] <;> omega
    · obtain rfl : i = N := by omega
      have HLL := Lib.hid hll
      have HUL := Lib.hid hu
      clear hu hll
      obtain ⟨i1, hi1, hy0, hy1, hy2⟩ := info_parts Tryd.info63
      have HI1 := Lib.hid hi1
      clear hi1
      obtain ⟨q, hq⟩ : ∃ q : Nat, q = i * D := ⟨_, rfl⟩
      have hmul : (i : Int) * (D : Int) = (q : Int) := by rw [hq]; push_cast; rfl
      have hmb : q ≤ 160 := by rw [hq]; exact Nat.le_trans (Nat.mul_le_mul hN32 (by omega : D ≤ 5)) (by decide)
      have hmw : IntKind.i64.wrap (q : Int) = (q : Int) := IntWalk.i64_in _ (by omega)
      have hmz : (q : Int) ≤ 160 := by omega
      have hbt : i1.bytes * q ≤ 281474976710656 := by rw [hy2]; omega
      clear hq
      have hge8 : w.heap.size ≤ wr.heap.size := by
        have h1 := HF5.out.bel.size
        have h2 := HM7.out.size
        have h3 := HF7.out.bel.size
        omega
      go_wp2_with (refine wpList_make_own _ rfl _ _ 39 rfl w.heap.size 63 i1 _ 2 Tryd.underlying39 HI1.out hy0 hy1 .i64 .i64 _ q rfl rfl rfl hbt (by unfold maxLen; omega) hge8 ?_; intro w8 hown8 hgr8)
      have hMC : Mod (fun k => k = C0) w7 w8 := (HM7.out.mono (fun _ _ e => e)).grown hgr8 (fun k e => by cases e)
      obtain ⟨c1, c2, c3, c4, c5⟩ := HHC.out
      have hF8 : FI K m w w8 H M iv5 vs5 Ss5 := ⟨HF7.out.h.mod hMC c1 c2 c3 c5, HF7.out.nd, HF7.out.nm, HF7.out.ln, HF7.out.bel.trans (hMC.toBelow HF7.out.bel.size (fun k _ e => by rw [e]; exact c4))⟩
      have hu8 : UAt w8 C0 l := HUL.out.mod ((Mod.refl (fun _ => False) wr).grown hgr8 (fun k e => by cases e)) (fun h => h)
      have htb : wr.heap.size ≠ C0 := by have := block_lt HUL.out.1; omega
      have hHw := block_lt (HF7.out.h.mod HM7.out c1 c2 c3 c5).blk
      have hMw : M < wr.heap.size := by
        obtain ⟨nq, Dq, -, hmq, -⟩ := (HF7.out.h.mod HM7.out c1 c2 c3 c5).map
        exact hmq.lt
      have hLI : LI K m w w8 H M C0 iv5 vs5 Ss5 (.slice (some ⟨wr.heap.size, 0, none⟩) 0 q) 0 [] l := by
        refine ⟨hF8, hown8, hu8, ⟨c1, c2, fun e => c3 _ e rfl, ?_, fun v hv e => c5 v hv _ e rfl⟩, ⟨?_, ?_, ?_, ?_⟩, c4⟩
        · intro e
          exact htb (by simpa [Value.ownBlock] using e)
        · intro e
          have : wr.heap.size = H := by simpa [Value.ownBlock] using e
          omega
        · intro e
          have : wr.heap.size = M := by simpa [Value.ownBlock] using e
          omega
        · intro k hk e
          have h1 : wr.heap.size = k := by simpa [Value.ownBlock] using e
          have h2 := ((HF7.out.h.mod HM7.out c1 c2 c3 c5).row.lt k hk).2
          omega
        · intro v hv k hk e
          have h1 : wr.heap.size = k := by simpa [Value.ownBlock] using e
          have h2 := ((HF7.out.h.mod HM7.out c1 c2 c3 c5).own v hv k hk).1
          omega
      have HLI := Lib.hid hLI
      clear hLI hMC c1 c2 c3 c4 c5 hF8 hu8 htb hHw hMw hown8 hgr8
      go_loopw [11, 12] (fun tv xv wq => ∃ (x n : Nat) (xs : List Value) (iv : Value) (vs : List Value) (Ss : List (List Plc)), xv = .int .i64 x ∧ x ≤ vs.length ∧ n ≤ 32 * x ∧ Hid (LI K m w wq H M C0 iv vs Ss tv n xs l)) (fun _ xv _ => 20000 - (intOf xv).toNat)
      case atStart => exact ⟨0, 0, [], iv5, vs5, Ss5, rfl, Nat.zero_le _, Nat.le_refl _, HLI⟩
      case round =>
        clear HLI
        obtain ⟨x, n, xs, iv, vs, Ss, rfl, hxl, hn, HI⟩ := hrel
        rename World => wq
        obtain ⟨ao, cap, rfl⟩ := ownsRow_form HI.out.fi.h.row
        have hfew := HI.out.fi.few hm
        have hvl := HI.out.fi.h.len
        have hxz : (x : Int) < 10000 := by omega
        have c1 : wq.cell? ⟨H, 1, none⟩ = some (.slice ao vs.length cap) := block_cell HI.out.fi.h.blk rfl
        by_cases hxe : x = vs.length
        · have hxq : (x : Int) = (vs.length : Int) := by omega
          have hx1 : ¬ (x : Int) = 10000 := by omega
          have hx2 : ((x : Int) == 10000) = false := beq_eq_false_iff_ne.2 hx1
          clear hfew hvl
          --[A
          obtain ⟨i2, hi2, hw0, hw1, hw2⟩ := info_parts Tryd.info5
          have HI2 := Lib.hid hi2
          clear hi2
          have hvle : vs.length ≤ 8192 := by rw [HI.out.fi.h.len]; exact HI.out.fi.few hm
          obtain ⟨q2, hq2⟩ : ∃ q2 : Nat, q2 = D * vs.length := ⟨_, rfl⟩
          have hmul2 : (D : Int) * (vs.length : Int) = (q2 : Int) := by rw [hq2]; push_cast; rfl
          have hmb2 : q2 ≤ 40960 := by rw [hq2]; exact Nat.le_trans (Nat.mul_le_mul (by omega : D ≤ 5) hvle) (by decide)
          have hmw2 : IntKind.i64.wrap (q2 : Int) = (q2 : Int) := IntWalk.i64_in _ (by omega)
          have hmz2 : (q2 : Int) ≤ 40960 := by omega
          have hbt2 : i2.bytes * q2 ≤ 281474976710656 := by rw [hw2]; omega
          clear hq2
          --[A0
          go_wp2_with (refine wpList_make_own _ rfl _ _ 38 rfl wq.heap.size 5 i2 _ 1 Tryd.underlying38 HI2.out hw0 hw1 .i64 .i64 _ q2 rfl rfl rfl hbt2 (by unfold maxLen; omega) (Nat.le_refl _) ?_; intro w8 hown8 hgr8)
          have hB8 : Below wq.heap.size wq w8 := (Below.refl _ _).grown hgr8 (Nat.le_refl _) (fun k hk => by cases hk)
          have HO8 := Lib.hid hown8
          have HB8 := Lib.hid hB8
          clear hown8 hB8 hgr8 hmul2 hmb2 hmw2 hmz2 hbt2 c1
          go_loopw [21, 22] (fun dv xv wr2 => ∃ (s n2 : Nat) (ys : List Value), xv = .int .i64 s ∧ s ≤ vs.length ∧ n2 ≤ 5 * s ∧ Hid (wr2.ownsRow wq.heap.size 5 1 dv n2 ys) ∧ Hid (Below wq.heap.size wq wr2)) (fun _ xv _ => vs.length - (intOf xv).toNat)
          case atStart => exact ⟨0, 0, [], rfl, Nat.zero_le _, Nat.le_refl _, HO8, HB8⟩
          case round =>
            clear HO8 HB8
            obtain ⟨s, n2, ys, rfl, hs, hn2, HO, HB⟩ := hrel
            rename World => wr2
            by_cases hsl : s < vs.length
            · have hsz : (s : Int) < (vs.length : Int) := by omega
              obtain ⟨gi, hgi⟩ : ∃ gi, ao = some ⟨gi, 0, none⟩ := by
                obtain ⟨hl, h⟩ := HI.out.fi.h.row
                rcases h with ⟨h1, h2⟩ | ⟨g, cap', cur, h1, -⟩
                · omega
                · simp only [Value.slice.injEq] at h1
                  exact ⟨g, h1.1⟩
              subst hgi
              have HF := Lib.hid (HI.out.fi.below HB.out)
              go_wp2_with fail
              refine (getid_any H vs.length cap s gi (some M) wr2 HF.out.h.blk hsl).mono ?_
              rintro e wb ⟨rfl, rfl⟩
              go_wp2_with fail
              go_loopw [21, 24] (fun dv jv wr3 => ∃ (j n3 : Nat) (ys : List Value), jv = .int .i64 j ∧ j ≤ D ∧ n3 ≤ 5 * s + j ∧ Hid (wr3.ownsRow wq.heap.size 5 1 dv n3 ys) ∧ Hid (Below wq.heap.size wq wr3)) (fun _ jv _ => D - (intOf jv).toNat)
              case atStart => exact ⟨0, n2, ys, rfl, Nat.zero_le _, by omega, HO, HB⟩
              case round =>
                clear HO HB HF hn2 hs
                obtain ⟨j, n3, ys, rfl, hj, hn3, HO, HB⟩ := hrel
                rename World => wr3
                by_cases hjd : j < D
                · have hjz : (j : Int) < (D : Int) := by omega
                  have hjz0 : (0 : Int) ≤ (j : Int) := by omega
                  --[A1
                  go_wp2_with fail
                  obtain ⟨lv, hvx⟩ : ∃ lv, vs[s]? = some lv := ⟨_, List.getElem?_eq_getElem hsl⟩
                  obtain ⟨S, hSx⟩ : ∃ S, Ss[s]? = some S := ⟨_, List.getElem?_eq_getElem (by rw [← HI.out.fi.h.len]; exact hsl)⟩
                  have hFI := HI.out.fi.below HB.out
                  obtain ⟨cs, hcs, hcx⟩ : ∃ cs : Array Value, wr3.heap[gi]? = some (.cells cs 50 (0, 0)) ∧ cs[s]? = some lv := by
                    obtain ⟨hl, h⟩ := hFI.h.row
                    rcases h with ⟨h1, h2⟩ | ⟨g, cap', cur, h1, hb, hg, hnc, hcm, hcs, ht⟩
                    · omega
                    · simp only [Value.slice.injEq, Option.some.injEq, Addr.mk.injEq] at h1
                      obtain ⟨⟨rfl, -⟩, -, rfl⟩ := h1
                      refine ⟨cur, hg, ?_⟩
                      have h2 := hvx
                      rw [← ht, List.getElem?_take] at h2
                      split at h2
                      · rw [← Array.getElem?_toList]; exact h2
                      · cases h2
                  obtain ⟨ns, hRs⟩ := hFI.h.vals s lv S hvx hSx
                  have hSl : S.length ≤ 10 := hFI.ln S (List.mem_of_getElem? hSx)
                  have hsm := (hFI.nm S (List.mem_of_getElem? hSx)).small hm
                  have hns : ns = S.length := (hRs.recs pC pC_len (by decide)).symm
                  have hMS := msd_any gi s L m j ns cs sw lv S wr3 (HL.out.below hFI.bel) hcs hcx hRs (fun p hp => ⟨by have := (hsm p hp).1; omega, (hsm p hp).2⟩) (by omega) (by omega) (by omega)
                  have HMS := Lib.hid hMS
                  clear hMS hns hsm hSl hRs hcs hcx hFI hSx hvx
                  refine HMS.out.mono ?_
                  rintro e w10 ⟨rfl, hB10⟩
                  obtain ⟨d, hd⟩ : ∃ d, d = told m j S := ⟨_, rfl⟩
                  rw [← hd]
                  clear hd
                  have HO10 := Lib.hid (ownsRow_below HO.out hB10 (fun g hg => (HO.out.lt g hg).2))
                  have HB10 := Lib.hid (HB.out.trans (hB10.mono HB.out.size))
                  have mD : ∀ w, (method 250 77 (.agg #[.int .u8 d]) "pub-traverser/pub/vellum/levenshtein.distance").run Tryd.prog w = .ok (25, .agg #[.int .u8 d]) w := fun w => by kernel_rfl
                  have nD : ∀ w, (nilAhead 250 77 (.agg #[.int .u8 d]) "pub-traverser/pub/vellum/levenshtein.distance").run Tryd.prog w = .ok (some false) w := fun w => by kernel_rfl
                  have HAT := Lib.hid (fun W => atd_any (d : Int) W)
                  clear hB10
                  unfold atV
                  go_wp2_with fail
                  refine (HAT.out _).mono ?_
                  rintro e w11 ⟨rfl, hB11⟩
                  have HO11 := Lib.hid (ownsRow_below HO10.out hB11 (fun g hg => (HO10.out.lt g hg).2))
                  have HB11 := Lib.hid (HB10.out.trans (hB11.mono HB10.out.size))
                  have hq1 : n3 + 1 ≤ maxLen := by unfold maxLen; omega
                  have hq2 : (n3 + 1) * 1 ≤ 140737488355328 := by omega
                  have hq3 : wq.heap.size ≤ (w11.alloc (.cells #[.int .u8 (d : Int)] 5)).heap.size := by
                    have := HB11.out.size
                    simp
                    omega
                  have HQ := Lib.hid (And.intro hq1 (And.intro hq2 hq3))
                  clear hB11 hq1 hq2 hq3
                  go_wp2_with (refine wpList_append_lies _ rfl (.tmp 135) (.tmp 138) 38 rfl wq.heap.size 5 i2 _ 1 1 Tryd.underlying38 HI2.out hw0 hw1 hw2 rfl (by decide) u21 n3 ys rfl (HO11.out.alloc _) ⟨w11.heap.size, 0, none⟩ 1 1 [.int .u8 (d : Int)] rfl rfl (World.news_of_block (heap_alloc_new _ _)) (by simp [Value.oneCell']) (by omega) HQ.out.1 HQ.out.2.1 HQ.out.2.2 _ rfl ?_; intro g9 cap9 w9 hown9 hgr9 hat9 hlt9)
                  have HO9 := Lib.hid hown9
                  have HB9 := Lib.hid (below_own HB11.out HO11.out _ hgr9 HB11.out.size)
                  clear hown9 hgr9 hat9 hlt9
                  go_roundw
                  case rel => exact ⟨j + 1, n3 + 1, _, by push_cast; rfl, by omega, by omega, HO9, HB9⟩
                  case measure => simp [intOf] <;> omega
                  --]A1
                · obtain rfl : j = D := by omega
                  --[A2
                  go_wp2_with fail
                  go_roundw
                  case rel => exact ⟨s + 1, n3, ys, by push_cast; rfl, by omega, by omega, HO, HB⟩
                  case measure => simp [intOf] <;> omega
                  --]A2
            · obtain rfl : s = vs.length := by omega
              --[A3
              obtain ⟨ao1, cp1, rfl⟩ := ownsRow_form HI.out.row
              obtain ⟨ao2, cp2, rfl⟩ := ownsRow_form HO.out
              go_wp2_with fail
              go_ret2
              have hB := HI.out.fi.bel.trans (HB.out.mono HI.out.fi.bel.size)
              exact ⟨wr2.heap.size, rfl, block_cell (i := 2) (heap_alloc_new wr2 _) rfl, hB.alloc hB.size _⟩
              --]A3
          --]A0
          --]A
        · have hxq : ¬ (x : Int) = (vs.length : Int) := by omega
          have hx2 : ((x : Int) == (vs.length : Int)) = false := beq_eq_false_iff_ne.2 hxq
          have HVL := Lib.hid hvl
          have HFEW := Lib.hid hfew
          have hxv : x < vs.length := by omega
          clear hfew hvl
          go_wp2_with fail
          clear c1 hxq hx2
          go_loopw [11, 75] (fun tv jv wz => ∃ (j n : Nat) (xs : List Value) (iv : Value) (vs : List Value) (Ss : List (List Plc)), jv = .int .i64 j ∧ j ≤ i ∧ x < vs.length ∧ n ≤ 32 * x + j ∧ Hid (LI K m w wz H M C0 iv vs Ss tv n xs l)) (fun _ jv _ => i - (intOf jv).toNat)
          case atStart => exact ⟨0, n, xs, _, vs, Ss, rfl, Nat.zero_le _, hxv, by omega, HI⟩
          case round =>
            clear HI HVL HFEW hxv hxe hn hxl
            obtain ⟨j, n, xs, iv, vs, Ss, rfl, hj, hxv, hn, HI⟩ := hrel
            rename World => wz
            by_cases hji : j < i
            · have hjz : (j : Int) < (i : Int) := by omega
              obtain ⟨chi, hchi, cc⟩ := HI.out.u.get (i := j) (by rw [HLL.out]; exact hji)
              go_wp2_with fail
              refine (newms2_any wz).mono ?_
              rintro e wa ⟨Ma, ga, ca, rfl, hMa, hBa⟩
              have HIa := Lib.hid (HI.out.below hBa)
              have HMa := Lib.hid hMa
              have HBa := Lib.hid hBa
              clear hMa hBa cc
              obtain ⟨gi, ci, hiv⟩ : ∃ gi ci, iv = .slice (some ⟨gi, 0, none⟩) vs.length ci := by
                obtain ⟨hl, h⟩ := HIa.out.fi.h.row
                rcases h with ⟨h1, h2⟩ | ⟨g, cap', cur, h1, -⟩
                · omega
                · exact ⟨g, cap', h1⟩
              subst hiv
              go_wp2_with fail
              refine (getid_any H vs.length ci x gi (some M) wa HIa.out.fi.h.blk hxv).mono ?_
              rintro e wb ⟨rfl, rfl⟩
              go_wp2_with fail
              obtain ⟨cs, lv, hcs, hcx, hvx⟩ : ∃ (cs : Array Value) (lv : Value), wb.heap[gi]? = some (.cells cs 50 (0, 0)) ∧ cs[x]? = some lv ∧ vs[x]? = some lv := by
                obtain ⟨hl, h⟩ := HIa.out.fi.h.row
                rcases h with ⟨h1, h2⟩ | ⟨g, cap', cur, h1, hb, hg, hnc, hcm, hcs, ht⟩
                · omega
                · simp only [Value.slice.injEq, Option.some.injEq, Addr.mk.injEq] at h1
                  obtain ⟨⟨rfl, -⟩, -, rfl⟩ := h1
                  obtain ⟨lv, hvx⟩ : ∃ lv, vs[x]? = some lv := ⟨_, List.getElem?_eq_getElem hxv⟩
                  refine ⟨cur, lv, hg, ?_, hvx⟩
                  have h2 := hvx
                  rw [← ht, List.getElem?_take] at h2
                  split at h2
                  · rw [← Array.getElem?_toList]; exact h2
                  · cases h2
              obtain ⟨S, hSx⟩ : ∃ S, Ss[x]? = some S := ⟨_, List.getElem?_eq_getElem (by rw [← HIa.out.fi.h.len]; exact hxv)⟩
              have hNS : Norm m S := HIa.out.fi.nm S (List.mem_of_getElem? hSx)
              obtain ⟨ns, hRs⟩ := HIa.out.fi.h.vals x lv S hvx hSx
              have hown := HIa.out.fi.h.own lv (List.mem_of_getElem? hvx)
              have hns : ns = S.length := (hRs.recs pC pC_len (by decide)).symm
              have hSl : S.length ≤ 10 := HIa.out.fi.ln S (List.mem_of_getElem? hSx)
              have hsm := hNS.small hm
              have hLa : LaAt wb L m sw := HL.out.below HIa.out.fi.bel
              have hgiM : gi ≠ Ma := by
                have h1 := (HI.out.fi.h.row.lt gi rfl).2
                have h2 := HMa.out.ge
                omega
              have hlv : ∀ g, lv.ownBlock = some g → g ≠ Ma ∧ g ≠ ga := by
                intro g hg
                have h1 := (HI.out.fi.h.own lv (List.mem_of_getElem? hvx) g hg).1
                have h2 := HMa.out.ge
                have h3 := (HMa.out.row.lt ga rfl).1
                exact ⟨by omega, by omega⟩
              have htr := trans_any wz.heap.size gi x Ma L m 14 chi ns cs sw lv S ga ca wb HMa.out hLa hcs hcx hgiM hRs hlv (fun s hs => ⟨by have := (hsm s hs).1; omega, (hsm s hs).2⟩) (by omega) (by omega) (by decide) (by omega)
              have HNS := Lib.hid hNS
              have HTR := Lib.hid htr
              clear hNS htr hsm hLa hgiM hlv hRs hown hcs hcx hvx hSx
              refine HTR.out.mono ?_
              rintro e wc ⟨rfl, ⟨vP, P, hP, hMP⟩, hBc⟩
              have hns2 := norm_step hm HNS.out hP
              have HP := Lib.hid hns2
              have HMP := Lib.hid hMP
              have HBC := Lib.hid hBc
              clear hns2 hMP hBc hP
              go_wp2_with fail
              have hzc : wz.heap.size ≤ wc.heap.size := Nat.le_trans HBa.out.size HBC.out.size
              have hnz := normz_any wz.heap.size Ma vP P wc HMP.out (fun s hs => by
                obtain ⟨h1, h2⟩ := HP.out.2.2.1 s hs
                exact ⟨by omega, by omega⟩) (by have := HP.out.2.2.2; omega) hzc
              refine hnz.mono ?_
              rintro e wd ⟨oo, S2, rfl, hp2, hu2, hM2, hB2⟩
              have hN2 : Norm m S2 := by
                obtain ⟨hA, ⟨c, hD⟩, hbd, hln⟩ := HP.out
                exact norm_made hA hD (fun y hy => by have := (hbd y hy).1; omega) hp2 hu2
              have hl2 : S2.length ≤ 10 := by
                rw [hp2.length_eq, List.length_map]
                exact HP.out.2.2.2
              have HN2 := Lib.hid hN2
              have HL2 := Lib.hid hl2
              have HM2 := Lib.hid hM2
              have HBd : Hid (Below wz.heap.size wz wd) := Lib.hid ((HBa.out.trans HBC.out).trans hB2)
              have cv := block_cell (i := 0) (u := vP) hM2.blk rfl
              clear hnz hp2 hu2 hM2 hB2 hN2 hl2 hzc
              go_wp2_with fail
              have HId := Lib.hid (HI.out.below HBd.out)
              have hge2 : ∀ k, vP.ownBlock = some k → wz.heap.size ≤ k := fun k hk => (HM2.out.row.lt k hk).1
              have hHz := block_lt HI.out.fi.h.blk
              have hMz : M < wz.heap.size := by
                obtain ⟨nq, Dq, -, hmq, -⟩ := HI.out.fi.h.map
                exact hmq.lt
              have hgz := (HI.out.fi.h.row.lt gi rfl).2
              have hv2 : ∀ k, vP.ownBlock = some k → k < wd.heap.size ∧ k ≠ H ∧ k ≠ M ∧ (Value.slice (some ⟨gi, 0, none⟩) vs.length ci).ownBlock ≠ some k := by
                intro k hk
                have h1 := hge2 k hk
                refine ⟨(HM2.out.row.lt k hk).2, by omega, by omega, fun e => ?_⟩
                have : gi = k := by simpa [Value.ownBlock] using e
                omega
              refine (goa_fi hm HId.out.fi HN2.out (owns_reads HM2.out.row) (by have := HL2.out; omega) HL2.out hv2 HK.out).mono ?_
              rintro e we ⟨ae, ive, vse, Sse, rfl, hwfe, hFe, hxe, hme, hive⟩
              have hLe := HId.out.goa hFe hme hive hxe.2 (fun k hk => by
                have h1 := hge2 k hk
                have h2 := block_lt HI.out.u.1
                exact ⟨by omega, fun e => by have := (HI.out.row.lt k e).2; omega⟩)
              have HLe := Lib.hid hLe
              have HWF := Lib.hid hwfe
              have HXE := Lib.hid hxe
              clear hFe hme hive hxe hLe hge2 hHz hMz hgz hv2 cv hwfe
              --[B
              have hvle : vs.length ≤ 8192 := by rw [HI.out.fi.h.len]; exact HI.out.fi.few hm
              have hq1 : n + 1 ≤ maxLen := by unfold maxLen; omega
              have hq2 : (n + 1) * 8 ≤ 140737488355328 := by omega
              have hq3 : w.heap.size ≤ (we.alloc (.cells #[.int .u32 (ae % 4294967296), .int .u32 oo] 63)).heap.size := by
                have := HLe.out.fi.bel.size
                simp
                omega
              have hwx : x < vse.length := by
                rcases HXE.out.2 with e | e
                · rw [e]; exact hxv
                · rw [e, List.length_append]; omega
              have HQ := Lib.hid (And.intro hq1 (And.intro hq2 (And.intro hq3 hwx)))
              clear hvle hq1 hq2 hq3 hwx
              go_wp2_with (at_builtin; go_loud (refine wpList_append_lies _ rfl (.tmp 95) (.tmp 100) 39 rfl w.heap.size 63 i1 _ 2 8 Tryd.underlying39 HI1.out hy0 hy1 hy2 rfl (by decide) u11 n xs rfl (HLe.out.row.alloc _) ⟨we.heap.size, 0, none⟩ 1 1 [.int .u32 (ae % 4294967296), .int .u32 oo] rfl rfl (World.news_of_block (heap_alloc_new _ _)) (by simp [Value.oneCell']) (by omega) HQ.out.1 HQ.out.2.1 HQ.out.2.2.1 _ rfl ?_); intro g9 cap9 w9 hown9 hgr9 hat9 hlt9)
              have HL9 := Lib.hid (HLe.out.app hown9 hgr9 hat9)
              clear hown9 hgr9 hat9 hlt9
              go_roundw
              case rel => exact ⟨j + 1, n + 1, _, ive, vse, Sse, by push_cast; rfl, by omega, HQ.out.2.2.2, by omega, HL9⟩
              case measure => simp [intOf] <;> omega
              --]B
            · obtain rfl : j = i := by omega
              go_wp2_with fail
              go_roundw
              case rel => exact ⟨x + 1, n, xs, iv, vs, Ss, by push_cast; rfl, hxv, by omega, HI⟩
              case measure => simp [intOf] <;> omega
end Go.Proofs.YtnfagjemhbgfkaaDoor.Hsh
