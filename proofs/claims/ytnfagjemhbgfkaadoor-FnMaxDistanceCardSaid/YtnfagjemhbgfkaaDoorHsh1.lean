/- getOrAllocate. -/
import Derived.Test.YtnfagjemhbgfkaaDoorHsh0
import Derived.Test.YtnfagjemhbgfkaaDoorApp
import Derived.StillTailTactics
import Derived.BigQuiet
import Derived.Deep.RegionLaw
import Derived.Deep.AppendLies
namespace Go.Proofs.YtnfagjemhbgfkaaDoor.Hsh
open Go.ChangeShapes Go.WideShapes Go.ChangeAt Go.RowKit Go.Trav Go.Nor Go.Maps Go.WideMaps Go.Proofs.YtnfagjemhbgfkaaDoor.Sha Go.Proofs.YtnfagjemhbgfkaaDoor.Nfa Go.Proofs.YtnfagjemhbgfkaaDoor.Srt Go.Proofs.YtnfagjemhbgfkaaDoor.Jsn
set_option linter.unusedVariables false
set_option linter.unusedSimpArgs false
set_option maxRecDepth 100000
theorem list32 {l : List Int} (h : l.length = 32) : ∃ x0 x1 x2 x3 x4 x5 x6 x7 x8 x9 x10 x11 x12 x13 x14 x15 x16 x17 x18 x19 x20 x21 x22 x23 x24 x25 x26 x27 x28 x29 x30 x31, l = [x0, x1, x2, x3, x4, x5, x6, x7, x8, x9, x10, x11, x12, x13, x14, x15, x16, x17, x18, x19, x20, x21, x22, x23, x24, x25, x26, x27, x28, x29, x30, x31] := by
  match l, h with
  | [x0, x1, x2, x3, x4, x5, x6, x7, x8, x9, x10, x11, x12, x13, x14, x15, x16, x17, x18, x19, x20, x21, x22, x23, x24, x25, x26, x27, x28, x29, x30, x31], _ => exact ⟨x0, x1, x2, x3, x4, x5, x6, x7, x8, x9, x10, x11, x12, x13, x14, x15, x16, x17, x18, x19, x20, x21, x22, x23, x24, x25, x26, x27, x28, x29, x30, x31, rfl⟩
theorem one_of {v : Value} (h : v.oneCell' = true) : ∀ u ∈ [v], u.oneCell' = true := by
  intro u hu
  obtain rfl : u = v := by simpa using hu
  exact h
theorem plain_int_inv {v : Value} {d : DataW Unit} {ps : List MemPlace} (h : plainElem Tryd.prog 3 v = some (d, ps)) : ∃ a : Int, v = .int .i64 a ∧ (Lit.int .i64 a).wf = true ∧ d = .lit (.int .i64 a) := by
  unfold plainElem at h
  rw [Tryd.underlying3] at h
  cases v <;> simp at h
  rename_i q a
  obtain ⟨⟨rfl, h1⟩, h2, -⟩ := h
  exact ⟨a, rfl, h1, h2.symm⟩
theorem ownsMap_below {P : Program} {k : TypeId} {R : Value → Option (DataW Unit × List MemPlace)} {wr w1 : World} {b n : Nat} {D : DataW Unit} (h : wr.ownsMap P k R b n D) (hb : Below wr.heap.size wr w1) : w1.ownsMap P k R b n D := by
  have hl := h.lt
  obtain ⟨es, clock, h1, r⟩ := h
  exact ⟨es, clock, (hb.block b hl).trans h1, r⟩
theorem HAt.below {K : Nat → Int} {w w' : World} {base H M : Nat} {iv : Value} {vs : List Value} {Ss : List (List Plc)} (h : HAt K w base H M iv vs Ss) (hb : Below w.heap.size w w') : HAt K w' base H M iv vs Ss :=
  ⟨(hb.block _ (block_lt h.blk)).trans h.blk, ownsRow_below h.row hb (fun g hg => (h.row.lt g hg).2), h.len,
    (by obtain ⟨n, D, h1, h2, h3⟩ := h.map; exact ⟨n, D, h1, ownsMap_below h2 hb, h3⟩),
    (fun i v S h1 h2 => by obtain ⟨n, hr⟩ := h.vals i v S h1 h2; exact ⟨n, hr.below hb⟩),
    (fun v hv k hk => by obtain ⟨h1, h2⟩ := h.own v hv k hk; exact ⟨Nat.lt_of_lt_of_le h1 hb.size, h2⟩), h.ne, h.ge⟩
/-- What a look-up of a digest comes to, in whatever world of draws. -/
theorem look32 {w : World} {M n : Nat} {D : DataW Unit} (h : w.ownsMap Tryd.prog 67 (plainElem Tryd.prog 3) M n D) {key : Value} {kl : Lit} (hk : keyOf Tryd.prog 67 key = some kl) :
    ∃ a : Int, (Lit.int .i64 a).wf = true ∧ ∀ k, (Instr.lookup 55 (.map (some M)) key true).run Tryd.prog (w.drewN k) = .ok (.tuple #[.int .i64 a, .bool (Maps.has D kl)]) (w.drewN k) := by
  have hz : ∀ w, (zeroValue 3).run Tryd.prog w = .ok (.int .i64 0) w := fun w => by kernel_rfl
  have hg : ∀ k, ∃ v ps, (Instr.lookup 55 (.map (some M)) key true).run Tryd.prog (w.drewN k) = .ok (.tuple #[v, .bool (Maps.has D kl)]) (w.drewN k) ∧ plainElem Tryd.prog 3 v = some (D.atKey kl (.lit (.int .i64 0)), ps) :=
    fun k => World.ownsMap.look_ok (w := w.drewN k) h law32 (t := 55) (e := 3) Tryd.underlying55 (hz _) (plainElem_int (H := Unit) Tryd.underlying3 (a := 0) (by decide)) hk
  obtain ⟨v, ps, -, h2⟩ := hg 0
  obtain ⟨a, rfl, hw, hd⟩ := plain_int_inv h2
  refine ⟨a, hw, fun k => ?_⟩
  obtain ⟨v', ps', h1', h2'⟩ := hg k
  obtain ⟨a', rfl, -, hd'⟩ := plain_int_inv h2'
  rw [hd] at hd'
  have : a = a' := by simpa using hd'
  rw [this]
  exact h1'
/-- The blocks that getOrAllocate may turn. -/
def Fh (H M : Nat) (iv : Value) (k : Nat) : Prop := k = H ∨ k = M ∨ iv.ownBlock = some k
theorem goa_fin {K : Nat → Int} {w w6 : World} {base H M n nm g6 cap6 : Nat} {iv v : Value} {vs : List Value} {Ss : List (List Plc)} {S : List Plc} {Dm d : DataW Unit} {kl : Lit} (h : HAt K w base H M iv vs Ss) (hR : Reads w v n 3 (S.flatMap pC)) (hv : ∀ k, v.ownBlock = some k → k < w.heap.size ∧ k ≠ H ∧ k ≠ M ∧ iv.ownBlock ≠ some k)
    (hown : w6.ownsRow base 50 1 (.slice (some ⟨g6, 0, none⟩) (vs.length + 1) cap6) (vs.length + 1) (vs ++ [v])) (hB : w6.heap[H]? = some (.cells #[.map (some M), iv] 58 (0, 0))) (hb : Mod (Fh H M iv) w w6) (hM : w6.ownsMap Tryd.prog 67 (plainElem Tryd.prog 3) M (nm + 1) (Dm.put kl d))
    (hnm : nm ≤ Ss.length) (him : Maps.IsMap Dm) (hhas : ∀ S ∈ Ss, ∀ kl, keyOf Tryd.prog 67 (hV K S) = some kl → Maps.has Dm kl = true) (hkl : keyOf Tryd.prog 67 (hV K S) = some kl) (hg : iv.ownBlock = some g6 ∨ w.heap.size ≤ g6) (hMl : M < w.heap.size) :
    HAt K (w6.setCell ⟨H, 1, none⟩ (.slice (some ⟨g6, 0, none⟩) (vs.length + 1) cap6)) base H M (.slice (some ⟨g6, 0, none⟩) (vs.length + 1) cap6) (vs ++ [v]) (Ss ++ [S]) ∧ Mod (Fh H M iv) w (w6.setCell ⟨H, 1, none⟩ (.slice (some ⟨g6, 0, none⟩) (vs.length + 1) cap6)) := by
  have hHl := block_lt h.blk
  obtain ⟨n1, n2, n3⟩ := h.ne
  have hb2 : Mod (Fh H M iv) w (w6.setCell ⟨H, 1, none⟩ (.slice (some ⟨g6, 0, none⟩) (vs.length + 1) cap6)) := hb.setCell (p := ⟨H, 1, none⟩) (fun _ => Or.inl rfl) _
  have gH : g6 ≠ H := by
    intro e
    rcases hg with hg | hg
    · exact n2 (by rw [hg, e])
    · omega
  have gM : g6 ≠ M := by
    intro e
    rcases hg with hg | hg
    · exact n3 (by rw [hg, e])
    · omega
  have hown1 : ∀ u ∈ vs ++ [v], ∀ k, u.ownBlock = some k → k < w.heap.size ∧ k ≠ H ∧ k ≠ M ∧ iv.ownBlock ≠ some k := by
    intro u hu
    rcases List.mem_append.1 hu with hu | hu
    · exact h.own u hu
    · obtain rfl : u = v := by simpa using hu
      exact hv
  refine ⟨⟨block_set hB, ?_, by simp [h.len], ⟨nm + 1, _, by simp; omega, hM.setCell (fun e => n1 e.symm) _, ?_⟩, ?_, ?_, ⟨n1, ?_, ?_⟩, h.ge⟩, hb2⟩
  · have := ownsRow_setCell_ne hown (a := ⟨H, 1, none⟩) (by intro e; exact gH (Eq.symm (by simpa [Value.ownBlock] using e))) (.slice (some ⟨g6, 0, none⟩) (vs.length + 1) cap6)
    rw [List.length_append, List.length_singleton]
    exact this
  · intro S' hS' kl' hk'
    by_cases e : kl' = kl
    · subst e
      exact has_put_same him (law32.key hkl) _
    · rw [has_put_other e]
      rcases List.mem_append.1 hS' with hS' | hS'
      · exact hhas S' hS' kl' hk'
      · obtain rfl : S' = S := by simpa using hS'
        rw [hkl] at hk'
        exact absurd (Option.some.inj hk').symm e
  · intro i u S' hu hS'
    have key : ∀ (m : Nat) (T : List Plc), Reads w u m 3 (T.flatMap pC) → u ∈ vs ++ [v] → Reads (w6.setCell ⟨H, 1, none⟩ (.slice (some ⟨g6, 0, none⟩) (vs.length + 1) cap6)) u m 3 (T.flatMap pC) := fun m T hr hm => hr.mod hb2 (fun g hg hF => by
      obtain ⟨-, k1, k2, k3⟩ := hown1 u hm g hg
      rcases hF with hF | hF | hF
      · exact k1 hF
      · exact k2 hF
      · exact k3 hF)
    have hmem : u ∈ vs ++ [v] := List.mem_of_getElem? hu
    by_cases hi : i < vs.length
    · rw [List.getElem?_append_left hi] at hu
      rw [List.getElem?_append_left (by rw [← h.len]; exact hi)] at hS'
      obtain ⟨m, hr⟩ := h.vals i u S' hu hS'
      exact ⟨m, key m S' hr hmem⟩
    · have hi2 : i = vs.length := by
        have := (List.getElem?_eq_some_iff.1 hu).1
        simp at this
        omega
      subst hi2
      rw [List.getElem?_append_right (Nat.le_refl _), Nat.sub_self] at hu
      rw [List.getElem?_append_right (by rw [← h.len]; exact Nat.le_refl _), ← h.len, Nat.sub_self] at hS'
      obtain rfl : v = u := by simpa using hu
      obtain rfl : S = S' := by simpa using hS'
      exact ⟨n, key n S hR hmem⟩
  · intro u hu k hk
    obtain ⟨k0, k1, k2, k3⟩ := hown1 u hu k hk
    refine ⟨Nat.lt_of_lt_of_le k0 hb2.size, k1, k2, ?_⟩
    intro e
    have e2 : g6 = k := by simpa [Value.ownBlock] using e
    subst e2
    rcases hg with hg | hg
    · exact k3 hg
    · omega
  · intro e
    exact gH (by simpa [Value.ownBlock] using e)
  · intro e
    exact gM (by simpa [Value.ownBlock] using e)
set_option maxHeartbeats 8000000 in
theorem goa_any (K : Nat → Int) (base H M n : Nat) (iv v : Value) (vs : List Value) (Ss : List (List Plc)) (S : List Plc) (w : World) (h : HAt K w base H M iv vs Ss) (hR : Reads w v n 3 (S.flatMap pC)) (hv : ∀ k, v.ownBlock = some k → k < w.heap.size ∧ k ≠ H ∧ k ≠ M ∧ iv.ownBlock ≠ some k)
    (hS : ∀ p ∈ S, p.o < 100 ∧ p.d < 100) (hn : n ≤ 200) (hK : KAt w K) (hL : Ss.length ≤ 20000) (hb : base ≤ w.heap.size) (hk1 : 1 < base) :
    Calls Tryd.prog 10 #[.pointer (some ⟨H, 0, none⟩), .agg #[v]] w fun e w' => ∃ (a : Int) (iv' : Value) (vs' : List Value) (Ss' : List (List Plc)), e = .returned (.int .i64 a) ∧ (Lit.int .i64 a).wf = true ∧ HAt K w' base H M iv' vs' Ss' ∧
      ((Ss' = Ss ∧ vs' = vs ∧ iv' = iv) ∨ (S ∉ Ss ∧ Ss' = Ss ++ [S] ∧ vs' = vs ++ [v])) ∧ Mod (Fh H M iv) w w' ∧ (∀ k, iv'.ownBlock = some k → iv.ownBlock = some k ∨ w.heap.size ≤ k) := by
  obtain ⟨ao, cap, rfl⟩ := ownsRow_form h.row
  obtain ⟨nm, Dm, hnm, hmap, hhas⟩ := h.map
  obtain ⟨kl, hkl⟩ := hash_key K S
  have hHl := block_lt h.blk
  have hMl := hmap.lt
  obtain ⟨W1, hW1⟩ : ∃ W1, W1 = w.alloc (.cells #[v] 50) := ⟨_, rfl⟩
  have hB1 : Below w.heap.size w W1 := by rw [hW1]; exact (Below.refl _ _).alloc (Nat.le_refl _) _
  have hT1 : W1.cell? ⟨w.heap.size, 0, none⟩ = some v := by rw [hW1]; exact block_cell (heap_alloc_new w _) rfl
  have hs1 : W1.heap.size = w.heap.size + 1 := by rw [hW1]; simp
  have c1 : W1.cell? ⟨H, 1, none⟩ = some (.slice ao vs.length cap) := by rw [hB1.cell (p := ⟨H, 1, none⟩) hHl]; exact block_cell h.blk rfl
  have hgh := gh_any w.heap.size 0 n v S K W1 hT1 (hR.below hB1) hS hn (hK.mod (Mod.of_below (F := fun _ => False) hB1) (fun h => h))
  have HH := Lib.hid h
  have HR := Lib.hid hR
  have HV := Lib.hid hv
  have HK := Lib.hid hK
  have HMAP := Lib.hid hmap
  have HHAS := Lib.hid hhas
  have HKL := Lib.hid hkl
  have HB1 := Lib.hid hB1
  have HGH := Lib.hid hgh
  have HNM := Lib.hid hnm
  have HT1 := Lib.hid hT1
  have HS1 := Lib.hid hs1
  clear h hR hv hK hmap hhas hkl hB1 hgh hS hnm hT1 hs1
  go_enter Tryd.func10, Tryd.ntmps10
  go_upto_region 1 with fail
  rw [← hW1]
  clear hW1
  go_wp2_with fail
  refine HGH.out.mono ?_
  rintro e w2 ⟨rfl, hB2⟩
  obtain ⟨l, hl⟩ : ∃ l, l = hashOf K S := ⟨_, rfl⟩
  rw [← hl]
  have hll : l.length = 32 := by rw [hl]; rfl
  have hs8 : ((l.map u8V).toArray).size = 32 := by simpa using hll
  have hi8 : (Tryd.prog.info? 67).map (·.size) = some ((l.map u8V).toArray).size := by
    rw [hs8]
    obtain ⟨i0, hi0, -, hz1, -⟩ := info_parts Tryd.info67
    rw [hi0]
    simp [hz1]
  obtain ⟨V0, hV0, hBV, hBlV, hszV⟩ := alloc1 w2
  have hbt := hBV.blk
  rw [hV0] at hbt
  have hBA : BAt ((w2.alloc (.cells #[.int .u8 0, .int .u8 0, .int .u8 0, .int .u8 0, .int .u8 0, .int .u8 0, .int .u8 0, .int .u8 0, .int .u8 0, .int .u8 0, .int .u8 0, .int .u8 0, .int .u8 0, .int .u8 0, .int .u8 0, .int .u8 0, .int .u8 0, .int .u8 0, .int .u8 0, .int .u8 0, .int .u8 0, .int .u8 0, .int .u8 0, .int .u8 0, .int .u8 0, .int .u8 0, .int .u8 0, .int .u8 0, .int .u8 0, .int .u8 0, .int .u8 0, .int .u8 0] 67)).setRow w2.heap.size (l.map u8V).toArray) w2.heap.size 67 l := ⟨setRow_heap _ _ _ _ _ _ hbt⟩
  have hw2 : Below w.heap.size w w2 := HB1.out.trans (hB2.mono (by rw [HS1.out]; exact Nat.le_succ _))
  have hbv : Below w.heap.size w ((w2.alloc (.cells #[.int .u8 0, .int .u8 0, .int .u8 0, .int .u8 0, .int .u8 0, .int .u8 0, .int .u8 0, .int .u8 0, .int .u8 0, .int .u8 0, .int .u8 0, .int .u8 0, .int .u8 0, .int .u8 0, .int .u8 0, .int .u8 0, .int .u8 0, .int .u8 0, .int .u8 0, .int .u8 0, .int .u8 0, .int .u8 0, .int .u8 0, .int .u8 0, .int .u8 0, .int .u8 0, .int .u8 0, .int .u8 0, .int .u8 0, .int .u8 0, .int .u8 0, .int .u8 0] 67)).setRow w2.heap.size (l.map u8V).toArray) := below_setRow (hw2.alloc hw2.size _) hw2.size _
  have hsv : ((w2.alloc (.cells #[.int .u8 0, .int .u8 0, .int .u8 0, .int .u8 0, .int .u8 0, .int .u8 0, .int .u8 0, .int .u8 0, .int .u8 0, .int .u8 0, .int .u8 0, .int .u8 0, .int .u8 0, .int .u8 0, .int .u8 0, .int .u8 0, .int .u8 0, .int .u8 0, .int .u8 0, .int .u8 0, .int .u8 0, .int .u8 0, .int .u8 0, .int .u8 0, .int .u8 0, .int .u8 0, .int .u8 0, .int .u8 0, .int .u8 0, .int .u8 0, .int .u8 0, .int .u8 0] 67)).setRow w2.heap.size (l.map u8V).toArray).heap.size = w2.heap.size + 1 := by simp
  have htv : ((w2.alloc (.cells #[.int .u8 0, .int .u8 0, .int .u8 0, .int .u8 0, .int .u8 0, .int .u8 0, .int .u8 0, .int .u8 0, .int .u8 0, .int .u8 0, .int .u8 0, .int .u8 0, .int .u8 0, .int .u8 0, .int .u8 0, .int .u8 0, .int .u8 0, .int .u8 0, .int .u8 0, .int .u8 0, .int .u8 0, .int .u8 0, .int .u8 0, .int .u8 0, .int .u8 0, .int .u8 0, .int .u8 0, .int .u8 0, .int .u8 0, .int .u8 0, .int .u8 0, .int .u8 0] 67)).setRow w2.heap.size (l.map u8V).toArray).cell? ⟨w.heap.size, 0, none⟩ = some v := by
    have hlt1 : w.heap.size < W1.heap.size := by rw [HS1.out]; exact Nat.lt_succ_self _
    have hlt2 : w.heap.size < w2.heap.size := Nat.lt_of_lt_of_le hlt1 hB2.size
    rw [cell_setRow_other _ _ _ _ (by show w.heap.size ≠ _; omega), Below.cell ((Below.refl w2.heap.size w2).alloc (Nat.le_refl _) _) (p := ⟨w.heap.size, 0, none⟩) hlt2, hB2.cell (p := ⟨w.heap.size, 0, none⟩) hlt1]
    exact HT1.out
  have hlw2 : w.heap.size < w2.heap.size := Nat.lt_of_lt_of_le (by rw [HS1.out]; exact Nat.lt_succ_self _) hB2.size
  have HBT := Lib.hid hbt
  have HLL := Lib.hid hll
  have HI8 := Lib.hid hi8
  have HO8 : Hid (((List.replicate 32 (0 : Int)).map u8V).toArray.size = ((l.map u8V).toArray).size) := Lib.hid (by rw [hs8]; simp)
  have H18 : Hid (((l.map u8V).toArray).all (·.oneCell') = true) := Lib.hid (Array.all_eq_true_iff_forall_mem.2 (fun v hv => u8V_one l v (by simpa using hv)))
  have HLE := Lib.hid hl
  have HBA := Lib.hid hBA
  have HBV := Lib.hid hbv
  have HSV := Lib.hid hsv
  have HTV := Lib.hid htv
  clear hbt hi8 hs8 hV0 hBV hBlV hszV hBA hbv hsv htv hl hw2 hB2 c1
  go_upto_region 5 with (refine wpList_store_row rfl 67 (.tmp 8) (.tmp 14) rfl w2.heap.size _ rfl rfl 67 _ HBT.out HI8.out HO8.out H18.out ?_)
  obtain ⟨V3, hV3⟩ : ∃ V3, V3 = (w2.alloc (.cells #[.int .u8 0, .int .u8 0, .int .u8 0, .int .u8 0, .int .u8 0, .int .u8 0, .int .u8 0, .int .u8 0, .int .u8 0, .int .u8 0, .int .u8 0, .int .u8 0, .int .u8 0, .int .u8 0, .int .u8 0, .int .u8 0, .int .u8 0, .int .u8 0, .int .u8 0, .int .u8 0, .int .u8 0, .int .u8 0, .int .u8 0, .int .u8 0, .int .u8 0, .int .u8 0, .int .u8 0, .int .u8 0, .int .u8 0, .int .u8 0, .int .u8 0, .int .u8 0] 67)).setRow w2.heap.size (l.map u8V).toArray := ⟨_, rfl⟩
  rw [← hV3] at HBA HBV HSV HTV ⊢
  obtain ⟨T, hT⟩ : ∃ T, T = w2.heap.size := ⟨_, rfl⟩
  rw [← hT] at HBA HSV hlw2 ⊢
  clear hV3 hT HBT
  have hmv := ownsMap_below HMAP.out HBV.out
  have hkl2 := HKL.out
  rw [hV, ← HLE.out] at hkl2
  obtain ⟨a, hwa, hlk⟩ := look32 hmv hkl2
  have d0 : V3.cell? ⟨H, 0, none⟩ = some (.map (some M)) := by rw [HBV.out.cell (p := ⟨H, 0, none⟩) hHl]; exact block_cell HH.out.blk rfl
  have HMV := Lib.hid hmv
  have HKL2 := Lib.hid hkl2
  have HWA := Lib.hid hwa
  clear hmv hkl2 hwa
  by_cases hhas : Maps.has Dm kl = true
  · rw [hhas] at hlk
    go_frame
    refine wp_region_quiet_lit (by kernel_rfl) (by kernel_rfl) ?_
    go_big_quiet_step (fail)
    go_big_quiet_step (fail)
    go_big_quiet_step (fail)
    go_big_quiet_step (fail)
    go_big_quiet_want
    refine quiet_load_row 67 (.tmp 8) rfl T rfl 67 _ (0, 0) _ ?_ Tryd.underlying67 rfl HI8.out ?_
    · intro w hw
      obtain ⟨n, rfl⟩ := hw
      exact HBA.out.blk
    go_big_quiet_on
    go_frame
    repeat (go_big_quiet_step (fail))
    refine wpQuiet_nil ?_
    intro _ hw'
    obtain ⟨nq, hw''⟩ := hw'
    subst hw''
    go_wp2_with fail
    go_ret
    have hbf : Below w.heap.size w (V3.drewN nq) := below_drewN HBV.out nq
    exact ⟨a, _, vs, Ss, rfl, HWA.out, HH.out.below hbf, Or.inl ⟨rfl, rfl, rfl⟩, Mod.of_below hbf, fun k hk => Or.inl hk⟩
  · have hf : Maps.has Dm kl = false := by simpa using hhas
    rw [hf] at hlk
    have hSn : S ∉ Ss := fun h => by rw [HHAS.out S h kl HKL.out] at hf; cases hf
    have HSN := Lib.hid hSn
    clear hhas hSn
    go_frame
    refine wp_region_quiet_lit (by kernel_rfl) (by kernel_rfl) ?_
    go_big_quiet_step (fail)
    go_big_quiet_step (fail)
    go_big_quiet_step (fail)
    go_big_quiet_step (fail)
    go_big_quiet_want
    refine quiet_load_row 67 (.tmp 8) rfl T rfl 67 _ (0, 0) _ ?_ Tryd.underlying67 rfl HI8.out ?_
    · intro w hw
      obtain ⟨n, rfl⟩ := hw
      exact HBA.out.blk
    go_big_quiet_on
    go_frame
    repeat (go_big_quiet_step (fail))
    refine wpQuiet_nil ?_
    intro _ hw'
    obtain ⟨nq, hw''⟩ := hw'
    subst hw''
    obtain ⟨W4, hW4⟩ : ∃ W4, W4 = V3.drewN nq := ⟨_, rfl⟩
    have hb4 : Below w.heap.size w W4 := by rw [hW4]; exact below_drewN HBV.out nq
    have hBA4 : BAt W4 T 67 l := by rw [hW4]; exact ⟨HBA.out.blk⟩
    have htv4 : W4.cell? ⟨w.heap.size, 0, none⟩ = some v := by rw [hW4]; exact HTV.out
    have hs4 : W4.heap.size = T + 1 := by rw [hW4]; exact HSV.out
    have d1 : W4.cell? ⟨H, 0, none⟩ = some (.map (some M)) := by rw [hW4]; exact d0
    have HB4 := Lib.hid hb4
    have HBA4 := Lib.hid hBA4
    have HTV4 := Lib.hid htv4
    have HS4 := Lib.hid hs4
    rw [← hW4]
    clear hW4 hb4 hBA4 htv4 hs4 d0 hlk
    go_wp2_with fail
    refine wp_region_still_tail 6 (by kernel_rfl) (by kernel_rfl) ?_
    simp only [List.take_succ_cons, List.take_zero, List.drop_succ_cons, List.drop_zero]
    still_step
    still_step
    still_step
    still_step
    refine still_load_row rfl 67 (.tmp 8) rfl T rfl 67 _ (0, 0) _ HBA4.out.blk Tryd.underlying67 rfl HI8.out ?_
    go_frame
    still_step
    refine wpStill_nil ?_
    change wpList _ _ _ _ _ W4.drew
    have hm4 := (ownsMap_below HMAP.out HB4.out).drew
    have HL2 := Lib.hid (HH.out.len)
    refine wpList_mapUpdate_own _ rfl _ _ _ 55 rfl 67 3 law32 Tryd.underlying55 (plainElem Tryd.prog 3) M nm Dm rfl hm4 (by have := HNM.out; unfold maxLen; omega) _ _ kl rfl rfl HKL2.out (.lit (.int .i64 (vs.length : Int))) [] (plainElem_int Tryd.underlying3 (WalkArith.wf_i64 (by have := HL2.out; omega))) ?_
    intro w5 hown5 hgr5
    have hne := HH.out.ne
    have hge := HH.out.ge
    have hbb4 : Below W4.heap.size W4 W4.drew := below_drewN (Below.refl _ _) 1
    have hH4 := (HH.out.below HB4.out).below hbb4
    have hw4 : w.heap.size ≤ W4.drew.heap.size := HB4.out.size
    have hb5 : Mod (Fh H M (Value.slice ao vs.length cap)) w w5 := ((Mod.of_below HB4.out).drewN 1).grown hgr5 (fun k e _ => Or.inr (Or.inl (by simpa using e.symm)))
    have hkeep : ∀ k, k < W4.heap.size → k ≠ M → w5.heap[k]? = W4.heap[k]? := fun k h1 h2 => hgr5.block k h1 (by simp; exact fun e => h2 e)
    have hblk5 : w5.heap[H]? = some (.cells #[.map (some M), .slice ao vs.length cap] 58 (0, 0)) := by rw [hkeep H (Nat.lt_of_lt_of_le hHl HB4.out.size) hne.1]; exact hH4.blk
    have hrow5 : w5.ownsRow base 50 1 (.slice ao vs.length cap) vs.length vs := ownsRow_mod hH4.row (Mod.grown (F := fun k => k = M) (Mod.refl _ _) hgr5 (fun k e _ => by simpa using e.symm)) (fun g hg e => hne.2.2 (by rw [hg, e]))
    have hbox5 : w5.cell? ⟨w.heap.size, 0, none⟩ = some v := by
      have h1 : w.heap.size < W4.heap.size := by rw [HS4.out]; omega
      unfold World.cell?
      rw [show ({ block := w.heap.size, off := 0, spot := none } : Addr).block = w.heap.size from rfl, hkeep w.heap.size h1 (by omega)]
      exact HTV4.out
    have hsz5 : W4.heap.size ≤ w5.heap.size := hgr5.size
    have HB5 := Lib.hid hb5
    have HBK5 := Lib.hid hblk5
    have HRW5 := Lib.hid hrow5
    have HBX5 := Lib.hid hbox5
    have HO5 := Lib.hid hown5
    have HNE := Lib.hid hne
    have HGE := Lib.hid hge
    have HG5 := Lib.hid hgr5
    clear hm4 hown5 hgr5 hne hge hbb4 hH4 hb5 hkeep hblk5 hrow5 hbox5 d1
    obtain ⟨i1, hi1, hy0, hy1, hy2⟩ := info_parts Tryd.info50
    have hv1 : v.oneCell' = true := by
      obtain ⟨vo, vc, e⟩ := HR.out.form
      rw [e]
      rfl
    have cq : w5.cell? ⟨H, 1, none⟩ = some (.slice ao vs.length cap) := block_cell HBK5.out rfl
    have fq : w5.frozen? ⟨H, 1, none⟩ = false := block_free HBK5.out
    have bx := HBX5.out
    have hlt5 := block_lt HBK5.out
    have hlb5 : w.heap.size < w5.heap.size := at_lt (a := ⟨w.heap.size, 0, none⟩) HBX5.out
    have al : ∀ k oo, ((w5.drewN k).alloc oo).cell? ⟨H, 1, none⟩ = some (.slice ao vs.length cap) := fun k oo => block_cell (block_alloc (w := w5.drewN k) HBK5.out) rfl
    have al0 : ∀ oo, (w5.alloc oo).cell? ⟨H, 1, none⟩ = some (.slice ao vs.length cap) := fun oo => block_cell (block_alloc HBK5.out) rfl
    have bl : ∀ k oo, ((w5.drewN k).alloc oo).cell? ⟨w.heap.size, 0, none⟩ = some v := fun k oo => (((Below.refl _ (w5.drewN k)).alloc (Nat.le_refl _) oo).cell (p := ⟨w.heap.size, 0, none⟩) hlb5).trans HBX5.out
    have bl0 : ∀ oo, (w5.alloc oo).cell? ⟨w.heap.size, 0, none⟩ = some v := fun oo => (((Below.refl _ w5).alloc (Nat.le_refl _) oo).cell (p := ⟨w.heap.size, 0, none⟩) hlb5).trans HBX5.out
    have hvl : vs.length ≤ 20000 := by have := HL2.out; omega
    have hb5 : base ≤ w5.heap.size := by have := HB5.out.size; omega
    go_frame
    go_wp2_with fail
    go_region_law (first
      | (refine step_append_lies _ rfl (.tmp 37) (.tmp 39) 56 rfl base 50 i1 (.agg #[.slice none 0 0]) 1 24 Tryd.underlying56 hi1 hy0 hy1 hy2 rfl (by decide) (.slice ao vs.length cap) vs.length vs (by simp [Act.eval, Act.put]) (HRW5.out.alloc _) ⟨w5.heap.size, 0, none⟩ 1 1 [v] (by simp [Act.eval, Act.put]) rfl (World.news_of_block (heap_alloc_new _ _)) (one_of hv1) (by omega) (by unfold maxLen; omega) (by omega) (by simp; omega) _ rfl ?_
         intro g6 cap6 w6 hown6 hgr6 hat6 hlt6
         have hB6 : w6.heap[H]? = some (.cells #[.map (some M), .slice ao vs.length cap] 58 (0, 0)) := (hgr6.block H (by simp; omega) (fun e => HNE.out.2.1 e.symm)).trans (block_alloc HBK5.out)
         have k6 : w6.frozen? ⟨H, 1, none⟩ = false := block_free hB6
         have k7 : w6.cell? ⟨H, 1, none⟩ = some (.slice ao vs.length cap) := block_cell hB6 rfl
         have hb6 : Mod (Fh H M (Value.slice ao vs.length cap)) w w6 := by
           refine Mod.grown ?_ hgr6 (fun k e _ => Or.inr (Or.inr e))
           first | exact (HB5.out.alloc _).drewN 1 | exact (HB5.out.drewN 1).alloc _ | fail
         have hM6 : w6.ownsMap Tryd.prog 67 (plainElem Tryd.prog 3) M (nm + 1) (Dm.put kl (.lit (.int .i64 (vs.length : Int)))) := World.ownsMap.kept (by first | exact HO5.out.drew.alloc _ | exact HO5.out.alloc _ | exact (HO5.out.alloc _).drew) hgr6 (fun e => HNE.out.2.2 e.symm)
         have hg6 : (Value.slice ao vs.length cap).ownBlock = some g6 ∨ w.heap.size ≤ g6 := by
           rcases hat6 with h | h
           · exact Or.inl h
           · right
             have h2 := HB5.out.size
             simp at h
             omega
         have HX6 := Lib.hid (And.intro hown6 (And.intro hB6 (And.intro hb6 (And.intro hM6 hg6))))
         clear hown6 hgr6 hat6 hlt6 hB6 hb6 hM6 hg6)
      | fail)
    all_goals
      go_wp2_with fail
      go_ret
      obtain ⟨hown6, hB6, hb6, hM6, hg6⟩ := HX6.out
      obtain ⟨f1, f2⟩ := goa_fin HH.out HR.out HV.out hown6 hB6 hb6 hM6 HNM.out HMAP.out.isMap HHAS.out HKL.out hg6 hMl
      refine ⟨_, _, vs ++ [v], Ss ++ [S], rfl, WalkArith.wf_i64 (by omega), f1, Or.inr ⟨HSN.out, rfl, rfl⟩, f2, ?_⟩
      intro k hk
      have e : g6 = k := by simpa [Value.ownBlock] using hk
      subst e
      exact hg6
end Go.Proofs.YtnfagjemhbgfkaaDoor.Hsh
