/- impl.States: its walk. -/
import Derived.Test.YtkbonmjbfpdchaaDoorStP
import Derived.Test.YtkbonmjbfpdchaaDoorDec6
import Derived.Test.YtkbonmjbfpdchaaDoorNum0
import Derived.Deep.RegionLaw
import Derived.Deep.AppendLies
namespace Go.Proofs.YtkbonmjbfpdchaaDoor.Buf
open Go.ChangeShapes Go.WideShapes Go.ChangeAt Go.RowKit Go.Trav Go.Pk Go.Proofs.YtkbonmjbfpdchaaDoor.Node Go.Proofs.YtkbonmjbfpdchaaDoor.Common
set_option linter.unusedVariables false
set_option linter.unusedSimpArgs false
set_option maxRecDepth 100000
theorem Tryd.info30 : (Tryd.prog.info? 30).map (fun i => (i.zero, i.size, i.bytes)) = some (some (.agg #[.bool false, .int .u64 0, .slice none 0 0]), 3, 40) := by kernel_rfl
theorem Tryd.info54 : (Tryd.prog.info? 54).map (fun i => (i.zero, i.size, i.bytes)) = some (some (.agg #[.int .u8 0, .int .u64 0, .int .i64 0]), 3, 24) := by kernel_rfl
theorem trFor_any (S o : Nat) (dv : Value) (D : List Nat) (d : Go.Dec.Desc) (f : Bool) (fo : Nat) (l : List NA) (i : Nat) (x : NA) (w : World) (h : Go.Proofs.YtkbonmjbfpdchaaDoor.Dec.StAt w S o dv D d) (hs : Go.Dec.Says D d f fo l) (hi : l[i]? = some x) (ha : x.2.2 ≤ 4294967296) :
    Calls Tryd.prog 141 #[.pointer (some ⟨S, o, none⟩), .int .u8 (x.1 : Nat)] w fun e w' => e = .returned (.tuple #[.int .i64 (i : Nat), .int .i64 (x.2.2 : Nat), .int .u64 (x.2.1 : Nat)]) ∧ ∃ k, w' = w.drewN k := by
  cases hs with
  | single top bot nx ts os tv y h1 h2 h3 h4 =>
    cases i with
    | zero =>
      obtain rfl : y = x := by simpa using hi
      exact Go.Proofs.YtkbonmjbfpdchaaDoor.Dec.trFor_single S o dv D top bot nx ts os tv y w h h1 h2 ha
    | succ i => simp at hi
  | multi top bot s0 n ts os tv f fo l h1 h2 hb hM hii => exact Go.Proofs.YtkbonmjbfpdchaaDoor.Dec.trFor_multi S o dv D top bot s0 n ts os tv f fo l i x w h h1 h2 hb hM hii hi
/-- What has been read back after i states. -/
structure BackI (w wr : World) (i : Nat) (bv : Value) (B S : List StV) : Prop where
  bel : Below w.heap.size w wr
  row : wr.ownsRow w.heap.size 30 3 bv i (B.flatMap stateCells)
  arcs : ∀ x ∈ B, wr.ownsRow 0 54 3 x.v x.l.length (x.l.flatMap arcCells)
  len : B.length = i
  same : ∀ (j : Nat) (x y : StV), S[j]? = some x → B[j]? = some y → x.f = y.f ∧ x.o = y.o ∧ x.l = y.l
/-- A state that is being read back, its struct in block xb. -/
structure InI (w wy : World) (xb : Nat) (f : Bool) (fo j : Nat) (xv : Value) (l : List Arc) : Prop where
  mod : Mod (fun k => k = xb) w wy
  blk : wy.heap[xb]? = some (.cells #[.bool f, .int .u64 (fo : Nat), xv] 30 (0, 0))
  row : wy.ownsRow w.heap.size 54 3 xv j ((l.take j).flatMap arcCells)
theorem StAt.keep {w w' : World} {S o xb : Nat} {dv : Value} {D : List Nat} {d : Go.Dec.Desc} (h : Go.Proofs.YtkbonmjbfpdchaaDoor.Dec.StAt w S o dv D d) (hm : Mod (fun k => k = xb) w w') (hS : S ≠ xb) (hd : ∀ g, dv.ownBlock = some g → g ≠ xb) : Go.Proofs.YtkbonmjbfpdchaaDoor.Dec.StAt w' S o dv D d :=
  ⟨Go.Dec.Cs.mod h.cells hm hS, h.data.mod hm hd, h.small, h.bytes⟩
theorem data_lt {w : World} {da : Option Addr} {n c : Nat} {xs : List Value} (h : Reads w (.slice da n c) n 1 xs) (hp : 0 < n) : ∀ g, (Value.slice da n c).ownBlock = some g → g < w.heap.size := by
  obtain ⟨ao, cap, e, h1, h2, h3, h4, h5⟩ := h
  cases e
  obtain ⟨b, off, rfl, hc⟩ := h5 (by omega)
  intro g hg
  simp only [Value.ownBlock, Option.some.injEq] at hg
  subst hg
  exact World.block_lt_of_cell? w _ (hc 0 _ (List.getElem?_eq_getElem (by omega)))
theorem finB_lt {nx b : Nat} (hn : nx ≤ 64) (hb : b < 256) : ∀ y ∈ finB nx b, y < 256 := by
  have := code_le b
  intro y hy
  unfold finB at hy
  split at hy
  · simp at hy; omega
  · simp at hy; omega
theorem flat_lt {α : Type} {g : α → List Nat} (h : ∀ a, ∀ y ∈ g a, y < 256) (l : List α) : ∀ y ∈ l.flatMap g, y < 256 := fun y hy => by
  obtain ⟨a, _, ha⟩ := List.mem_flatMap.1 hy
  exact h a y ha
theorem manyB_lt {s : Nat} {f : Bool} {fo : Nat} {l : List NA} (hin : ∀ a ∈ l, a.1 < 256) : ∀ y ∈ manyB s f fo l, y < 256 := by
  intro y hy
  unfold manyB at hy
  simp only [List.mem_append, List.mem_singleton] at hy
  rcases hy with ((((hy | hy) | hy) | hy) | hy) | hy
  · unfold outsB at hy
    split at hy
    · rcases List.mem_append.1 hy with hy | hy
      · split at hy
        · exact packed_lt _ _ y hy
        · simp at hy
      · exact flat_lt (fun a => packed_lt _ _) _ y hy
    · simp at hy
  · exact flat_lt (fun a => packed_lt _ _) _ y hy
  · obtain ⟨a, ha, rfl⟩ := List.mem_map.1 hy
    exact hin a (by simpa using ha)
  · have h1 := farL_le s l
    have h2 := outP_le fo l
    omega
  · unfold extraB at hy
    split at hy
    · split at hy
      · simp at hy; omega
      · simp at hy; omega
    · simp at hy
  · have : numB l.length ≤ 63 := by unfold numB; split <;> omega
    split at hy <;> omega
theorem encB_lt {s last : Nat} {f : Bool} {fo : Nat} {l : List NA} (hin : ∀ a ∈ l, a.1 < 256) : ∀ y ∈ encB s last f fo l, y < 256 := by
  match l, hin with
  | [], hin =>
    show ∀ y ∈ (if f ∧ fo = 0 then [] else manyB s f fo []), y < 256
    split
    · simp
    · exact manyB_lt hin
  | [a], hin =>
    show ∀ y ∈ (if f then manyB s f fo [a] else if a.2.1 = 0 ∧ a.2.2 = last then finB 64 a.1 else oneB s a), y < 256
    split
    · exact manyB_lt hin
    · split
      · exact finB_lt (by omega) (hin a (by simp))
      · intro y hy
        unfold oneB at hy
        simp only [List.mem_append, List.mem_singleton] at hy
        have h1 := size_bd a.2.1
        have h2 := size_bd (delta s a.2.2)
        rcases hy with ((hy | hy) | hy) | hy
        · split at hy
          · simp at hy
          · exact packed_lt _ _ y hy
        · exact packed_lt _ _ y hy
        · split at hy <;> omega
        · exact finB_lt (by omega) (hin a (by simp)) y hy
  | a :: b :: r, hin => exact manyB_lt hin
theorem encAll_lt {S : List StV} (ho : ∀ x ∈ S, StOk x) : ∀ i, i ≤ S.length → ∀ y ∈ (encAll (S.take i)).1, y < 256 := by
  intro i
  induction i with
  | zero =>
    intro _ y hy
    simp only [List.take_zero, encAll, List.foldl_nil, List.mem_append] at hy
    rcases hy with hy | hy
    · exact packed_lt _ _ y hy
    · exact packed_lt _ _ y hy
  | succ i ih =>
    intro hi y hy
    have hx : S[i]? = some S[i] := List.getElem?_eq_getElem (by omega)
    rw [encAll_take hx] at hy
    simp only [encStep, List.mem_append] at hy
    rcases hy with hy | hy
    · exact ih (by omega) y hy
    · refine encB_lt (fun a ha => ?_) y hy
      obtain ⟨z, hz, rfl⟩ := List.mem_map.1 ha
      have := ((ho _ (List.mem_of_getElem? hx)).2 z hz).1
      simp only [naOf]
      omega
theorem outB_lt {S : List StV} (ho : ∀ x ∈ S, StOk x) : ∀ y ∈ outB S, y < 256 := by
  intro y hy
  unfold outB at hy
  simp only [List.mem_append] at hy
  rcases hy with hy | hy | hy
  · have := encAll_lt ho S.length (Nat.le_refl _) y
    rw [List.take_length] at this
    exact this hy
  · exact packed_lt _ _ y hy
  · exact packed_lt _ _ y hy
theorem owns_zero {w : World} {base : Nat} {e : TypeId} {size : Nat} {v : Value} {n : Nat} {xs : List Value} (h : w.ownsRow base e size v n xs) : w.ownsRow 0 e size v n xs := by
  obtain ⟨h1, h2⟩ := h
  refine ⟨h1, ?_⟩
  rcases h2 with h2 | ⟨g, cap, cur, hv, hb, r⟩
  · exact Or.inl h2
  · exact Or.inr ⟨g, cap, cur, hv, Nat.zero_le _, r⟩
theorem owns_types {w : World} {b1 b2 : Nat} {e1 e2 : TypeId} {s1 s2 : Nat} {v1 v2 : Value} {n1 n2 : Nat} {x1 x2 : List Value} (h1 : w.ownsRow b1 e1 s1 v1 n1 x1) (h2 : w.ownsRow b2 e2 s2 v2 n2 x2) (he : e1 ≠ e2) : ∀ g, v1.ownBlock = some g → v2.ownBlock ≠ some g := by
  intro g hg hg2
  rcases h2.2 with ⟨rfl, _⟩ | ⟨g', cap, cur, rfl, _, hh, _⟩
  · simp [Value.ownBlock] at hg2
  · simp only [Value.ownBlock, Option.some.injEq] at hg2
    subst hg2
    exact ownsRow_ne_block h1 hh (fun e => he e.symm) hg
set_option maxHeartbeats 20000000 in
theorem states_any (v : Value) (n : Nat) (S : List StV) (w : World) (h : States w v n S) (hn : n ≤ 2000) (hok : ∀ x ∈ S, StOk x) (hr : RightL S) (hri : ∀ x ∈ S, RiseL x.l) (hT : TabAt w 2 T0) (hT1 : TabAt w 3 Go.Proofs.YtkbonmjbfpdchaaDoor.Dec.T1) :
    Calls Tryd.prog 7 #[v] w fun e w' => ∃ bv B, e = .returned (.tuple #[bv, .bool true]) ∧ States w' bv n B ∧ B.length = S.length ∧ (∀ (j : Nat) (x y : StV), S[j]? = some x → B[j]? = some y → x.f = y.f ∧ x.o = y.o ∧ x.l = y.l) ∧ Below w.heap.size w w' := by
  obtain ⟨ao, cap, rfl⟩ := h.cells.form
  have hlen := h.len
  have HE := Lib.hid (encoded_any _ n S w h hn hok hr hT)
  have HOK := Lib.hid hok
  have HR := Lib.hid hr
  have HONE := Lib.hid (fun (i : Nat) (x : StV) (hx : S[i]? = some x) => one_st hr hok hri (by omega) hx)
  have hDb : ∀ y ∈ outB S, y < 256 := outB_lt hok
  have hDl : (outB S).length ≤ 4294967296 ∧ 0 < (outB S).length := by
    have hall := EInv.all hr hok S.length (Nat.le_refl _)
    rw [List.take_length] at hall
    have := hall.lo
    have := hall.hi
    unfold outB
    simp only [List.length_append, packed_len]
    omega
  have HDB := Lib.hid hDb
  have HDL := Lib.hid hDl
  have HT1 := Lib.hid hT1
  have HLEN := Lib.hid hlen
  have mF := fun (b : Nat) (W : World) => (show (method 323 139 (.pointer (some ⟨b, 0, none⟩)) "Final").run Tryd.prog W = .ok (137, .pointer (some ⟨b, 0, none⟩)) W by kernel_rfl)
  have mO := fun (b : Nat) (W : World) => (show (method 323 139 (.pointer (some ⟨b, 0, none⟩)) "FinalOutput").run Tryd.prog W = .ok (138, .pointer (some ⟨b, 0, none⟩)) W by kernel_rfl)
  have mN := fun (b : Nat) (W : World) => (show (method 323 139 (.pointer (some ⟨b, 0, none⟩)) "NumTransitions").run Tryd.prog W = .ok (139, .pointer (some ⟨b, 0, none⟩)) W by kernel_rfl)
  have mA := fun (b : Nat) (W : World) => (show (method 323 139 (.pointer (some ⟨b, 0, none⟩)) "TransitionAt").run Tryd.prog W = .ok (140, .pointer (some ⟨b, 0, none⟩)) W by kernel_rfl)
  have mR := fun (b : Nat) (W : World) => (show (method 323 139 (.pointer (some ⟨b, 0, none⟩)) "TransitionFor").run Tryd.prog W = .ok (141, .pointer (some ⟨b, 0, none⟩)) W by kernel_rfl)
  have nA := fun (b : Nat) (W : World) => (show (nilAhead 323 139 (.pointer (some ⟨b, 0, none⟩)) "TransitionAt").run Tryd.prog W = .ok (some false) W by kernel_rfl)
  have nR := fun (b : Nat) (W : World) => (show (nilAhead 323 139 (.pointer (some ⟨b, 0, none⟩)) "TransitionFor").run Tryd.prog W = .ok (some false) W by kernel_rfl)
  have eF := Tryd.call137
  have eO := Tryd.call138
  have eN := Tryd.call139
  have eA := Tryd.call140
  have eR := Tryd.call141
  clear h hok hr hri hT hT1 hlen hDb hDl
  go_enter Tryd.func7, Tryd.ntmps7
  go_wp2_with fail
  refine HE.out.mono ?_
  rintro e w1 ⟨dv, av, rfl, hD, hA, hb1⟩
  obtain ⟨da, dc, rfl⟩ := hD.form
  obtain ⟨aa, ac, rfl⟩ := hA.form
  have HD := Lib.hid hD
  have HA := Lib.hid hA
  clear hD hA HE
  go_wp2_with fail
  refine (Go.Proofs.YtkbonmjbfpdchaaDoor.Dec.zzDecoder_any da (outB S).length dc w1).mono ?_
  rintro e w2 ⟨rfl, hw2⟩
  have hb2 : Below w1.heap.size w1 w2 := by rw [hw2]; exact (Below.refl _ _).alloc (Nat.le_refl _) _
  have hdp : w2.cell? ⟨w1.heap.size, 0, none⟩ = some (.slice da (outB S).length dc) := by rw [hw2]; exact block_cell (heap_alloc_new _ _) rfl
  have HB2 := Lib.hid (hb1.trans (hb2.mono hb1.size))
  replace HD := Lib.hid (HD.out.below hb2)
  replace HA := Lib.hid (HA.out.below hb2)
  have HDP := Lib.hid hdp
  have HT2 := Lib.hid (HT1.out.same (by rw [Go.Proofs.YtkbonmjbfpdchaaDoor.Dec.T1_len]; omega) HB2.out)
  obtain ⟨dp, hdpe⟩ : ∃ dp, dp = w1.heap.size := ⟨_, rfl⟩
  rw [← hdpe] at HDP ⊢
  clear hw2 hb2 hdp hb1 hdpe HT1
  obtain ⟨D, hDe⟩ : ∃ D, D = outB S := ⟨_, rfl⟩
  obtain ⟨ads, hae⟩ : ∃ ads, ads = (encAll S).2 := ⟨_, rfl⟩
  go_wp2_with fail
  go_loopw [2, 29] (fun bv ix wr => ∃ (i : Nat) (BV : Value) (B : List StV), BV = bv ∧ ix = .int .i64 i ∧ i ≤ n ∧ Hid (BackI w2 wr i BV B S)) (fun _ ix _ => n - (intOf ix).toNat)
  case atStart => exact ⟨0, .slice none 0 0, [], rfl, rfl, Nat.zero_le _, Lib.hid ⟨Below.refl _ _, World.ownsRow_nil _ _ _ _, by simp, rfl, by simp⟩⟩
  case round =>
    obtain ⟨i, BV, B, e0, rfl, hi, HS⟩ := hrel
    subst e0
    rename World => w0
    by_cases hlt : i < n
    · obtain ⟨x, hx⟩ : ∃ x, S[i]? = some x := ⟨_, List.getElem?_eq_getElem (by rw [HLEN.out]; exact hlt)⟩
      obtain ⟨a, d, l, h1⟩ := HONE.out i x hx
      obtain ⟨b2, o2, _, a', he, ha', c2⟩ := Reads.one aV (HA.out.below HS.out.bel) hlt
      cases he
      obtain rfl : a' = a := Option.some.inj (ha'.symm.trans h1.ad)
      unfold aV at c2
      have H1 := Lib.hid h1
      have HX := Lib.hid hx
      have hq := Go.Proofs.YtkbonmjbfpdchaaDoor.Dec.zzStateAt_any dp _ _ a' d w0 ((Mod.of_below (F := fun _ => False) HS.out.bel).cell HDP.out (fun h => h)) (HD.out.below HS.out.bel) HDB.out HDL.out.1 HDL.out.2 h1.dec h1.lo (HT2.out.same (by rw [Go.Proofs.YtkbonmjbfpdchaaDoor.Dec.T1_len]; omega) HS.out.bel)
      have HQ := Lib.hid hq
      have hI1 : (0 : Int) ≤ (i : Int) := by omega
      have hI2 : (i : Int) < (n : Int) := by omega
      clear h1 hx ha' hq
      go_wp2_with fail
      refine HQ.out.mono ?_
      rintro e w3 ⟨rfl, hcs, hb3⟩
      have hSt : Go.Proofs.YtkbonmjbfpdchaaDoor.Dec.StAt w3 w0.heap.size 0 (.slice da (outB S).length dc) (outB S) d := ⟨hcs, (HD.out.below HS.out.bel).below hb3, HDL.out.1, HDB.out⟩
      have HST := Lib.hid hSt
      have HB3 := Lib.hid hb3
      have hf := Go.Proofs.YtkbonmjbfpdchaaDoor.Dec.fin_any w0.heap.size 0 _ _ d _ _ _ w3 hSt H1.out.says
      have HF := Lib.hid hf
      have hz3 := hb3.size
      clear hcs hb3 hSt hf HQ
      go_wp2_with fail
      refine HF.out.mono ?_
      rintro e wx ⟨rfl, rfl⟩
      go_wp2_with fail
      refine (Go.Proofs.YtkbonmjbfpdchaaDoor.Dec.finOut_any w0.heap.size 0 _ _ d _ _ _ w3 HST.out H1.out.says).mono ?_
      rintro e wx ⟨rfl, k3, rfl⟩
      obtain ⟨fo, hfo⟩ : ∃ fo, fo = x.o.toNat := ⟨_, rfl⟩
      rw [← hfo]
      obtain ⟨W3, hW3⟩ : ∃ W3, W3 = w3.drewN k3 := ⟨_, rfl⟩
      have hst3 : Go.Proofs.YtkbonmjbfpdchaaDoor.Dec.StAt W3 w0.heap.size 0 (.slice da (outB S).length dc) (outB S) d := by rw [hW3]; exact HST.out.drewN k3
      have hbw3 : Below w0.heap.size w0 W3 := by rw [hW3]; exact below_drewN HB3.out _
      have HST3 := Lib.hid hst3
      have HBW3 := Lib.hid hbw3
      have hsz3 : w0.heap.size < W3.heap.size := by rw [hW3]; exact World.block_lt_of_cell? _ _ (HST.out.cells 0 _ (by cases d <;> rfl)).1
      rw [← hW3]
      have HFO := Lib.hid hfo
      clear hst3 hbw3 HST HB3 HF hz3 hfo hW3
      go_wp2_with fail
      obtain ⟨xb, hxb⟩ : ∃ xb, xb = W3.heap.size := ⟨_, rfl⟩
      obtain ⟨W4, hW4⟩ : ∃ W4, W4 = W3.alloc (.cells #[.bool x.f, .int .u64 (fo : Nat), .slice none 0 0] 30) := ⟨_, rfl⟩
      have hb4 : Below W3.heap.size W3 W4 := by rw [hW4]; exact (Below.refl _ _).alloc (Nat.le_refl _) _
      have hst4 : Go.Proofs.YtkbonmjbfpdchaaDoor.Dec.StAt W4 w0.heap.size 0 (.slice da (outB S).length dc) (outB S) d := ⟨fun j u hj => by
        have := HST3.out.cells j u hj
        exact ⟨(Mod.of_below (F := fun _ => False) hb4).cell this.1 (fun h => h), by rw [hb4.frozen (World.block_lt_of_cell? _ _ this.1)]; exact this.2⟩, HST3.out.data.below hb4, HST3.out.small, HST3.out.bytes⟩
      have hblk4 : W4.heap[xb]? = some (.cells #[.bool x.f, .int .u64 (fo : Nat), .slice none 0 0] 30 (0, 0)) := by rw [hW4, hxb]; exact heap_alloc_new _ _
      have HB4 := Lib.hid (HBW3.out.trans (hb4.mono HBW3.out.size))
      have HST4 := Lib.hid hst4
      have HIN := Lib.hid (InI.mk (w := W4) (wy := W4) (xb := xb) (f := x.f) (fo := fo) (j := 0) (xv := .slice none 0 0) (l := x.l) (Mod.refl _ _) hblk4 (by simpa using World.ownsRow_nil _ _ _ _))
      have hnum := Go.Proofs.YtkbonmjbfpdchaaDoor.Dec.num_any w0.heap.size 0 _ _ d _ _ _ W4 hst4 H1.out.says
      rw [H1.out.len] at hnum
      have HNUM := Lib.hid hnum
      have hdl := data_lt HST3.out.data HDL.out.2
      have HDLT := Lib.hid hdl
      have hx0 : w0.heap.size < xb := by rw [hxb]; exact hsz3
      have hxl : xb < W4.heap.size := block_lt hblk4
      rw [← hW4, ← hxb]
      have HXB := Lib.hid hxb
      clear hb4 hst4 hblk4 hnum hdl hW4 hxb hsz3
      obtain ⟨m, hm⟩ : ∃ m, m = x.l.length := ⟨_, rfl⟩
      rw [← hm] at HNUM
      have HM := Lib.hid hm
      have hm256 : m ≤ 256 := by rw [hm]; exact (HR.out i x HX.out).1
      clear hm
      go_wp2_with fail
      refine HNUM.out.mono ?_
      rintro e wx ⟨rfl, rfl⟩
      go_wp2_with fail
      go_loopw [48] (fun jx wy => ∃ (j : Nat) (XV : Value), jx = .int .i64 j ∧ j ≤ m ∧ Hid (InI W4 wy xb x.f fo j XV x.l)) (fun jx _ => m - (intOf jx).toNat)
      case atStart => exact ⟨0, _, rfl, Nat.zero_le _, HIN⟩
      case round =>
        clear HIN
        obtain ⟨j, XV, rfl, hj, HI⟩ := hrel
        rename World => wy
        by_cases hjm : j < m
        · obtain ⟨y, hy⟩ : ∃ y, x.l[j]? = some y := ⟨_, List.getElem?_eq_getElem (by rw [← HM.out]; exact hjm)⟩
          obtain ⟨b, o, t, hl, e1, e2, hle, ht⟩ := H1.out.arc j y hy
          have hst := StAt.keep HST4.out HI.out.mod (by omega) (fun g hg => by have := HDLT.out g hg; have := HXB.out; omega)
          have hat := Go.Proofs.YtkbonmjbfpdchaaDoor.Dec.trAt_any w0.heap.size 0 _ _ d _ _ _ j _ wy hst H1.out.says hl
          have HAT := Lib.hid hat
          have HSTY := Lib.hid hst
          have HY := Lib.hid hy
          have HL := Lib.hid hl
          have HLE := Lib.hid hle
          have HE12 := Lib.hid (And.intro e1 e2)
          clear hat hst hy hl hle e1 e2
          go_wp2_with fail
          refine HAT.out.mono ?_
          rintro e wx ⟨rfl, k5, rfl⟩
          go_wp2_with fail
          refine (trFor_any w0.heap.size 0 _ _ d _ _ _ j _ (wy.drewN k5) (HSTY.out.drewN k5) H1.out.says HL.out ht).mono ?_
          rintro e wz ⟨rfl, k6, hwz⟩
          have hI2 : InI W4 wz xb x.f fo j XV x.l := by
            rw [hwz]
            exact ⟨(HI.out.mod.drewN _).drewN _, HI.out.blk, HI.out.row⟩
          have hbz : Below w0.heap.size w0 wz := HB4.out.trans (hI2.mod.toBelow HB4.out.size (fun k _ hk => by omega))
          have hrd : Reads wz (.slice (some ⟨b2, o2, none⟩) n ac) n 1 ((encAll S).2.map aV) := (HA.out.below HS.out.bel).below hbz
          have hnb : ∀ q : Nat, Calls Tryd.prog 25 #[.slice (some ⟨b2, o2, none⟩) n ac, .int .i64 (t : Nat)] (wz.drewN q) fun e w' => e = .returned (.int .i64 y.2.2) ∧ wz.drewN q = w' := fun qq => by
            rcases HLE.out with ⟨h5, h6⟩ | ⟨q, h5, h6, h7, h8⟩
            · rw [h5, h6]
              exact number_zero _ _
            · rw [h5]
              exact number_any _ n q t _ _ (hrd.drewN qq) h6 h7 h8
          have hnd : Calls Tryd.prog 25 #[.slice (some ⟨b2, o2, none⟩) n ac, .int .i64 (t : Nat)] wz.drew fun e w' => e = .returned (.int .i64 y.2.2) ∧ wz.drew = w' := hnb 1
          have HNB := Lib.hid hnd
          have HI2 := Lib.hid hI2
          obtain ⟨xo, xc, rfl⟩ := ownsRow_form hI2.row
          have c2x : wz.cell? ⟨xb, 2, none⟩ = some (.slice xo j xc) := block_cell hI2.blk rfl
          have f2x : wz.frozen? ⟨xb, 2, none⟩ = false := block_free hI2.blk
          have al : ∀ k oo, ((wz.drewN k).alloc oo).cell? ⟨xb, 2, none⟩ = some (.slice xo j xc) := fun k oo => block_cell (block_alloc (w := wz.drewN k) HI2.out.blk) rfl
          have al0 : ∀ oo, (wz.alloc oo).cell? ⟨xb, 2, none⟩ = some (.slice xo j xc) := fun oo => block_cell (block_alloc HI2.out.blk) rfl
          have hnx : (Value.slice xo j xc).ownBlock ≠ some xb := fun e => by have := (hI2.row.lt xb e).1; omega
          have hzs : W4.heap.size ≤ wz.heap.size := hI2.mod.size
          obtain ⟨i0, hi0, hz0, hz1, hz2⟩ := info_parts Tryd.info54
          have HNX := Lib.hid hnx
          clear hnb hnd hI2 hrd hbz hwz HI hnx
          go_wp2_with fail
          go_region_law (first
            | (go_simp; (with_reducible refine HNB.out.mono ?_); rintro e wq ⟨rfl, rfl⟩)
            | (refine step_append_lies _ rfl (.tmp 62) (.tmp 69) 28 rfl W4.heap.size 54 i0 (.agg #[.int .u8 0, .int .u64 0, .int .i64 0]) 3 24 Tryd.underlying28 hi0 hz0 hz1 hz2 rfl (by decide) (.slice xo j xc) j ((x.l.take j).flatMap arcCells) (by simp [Act.eval, Act.put]) (HI2.out.row.alloc _) ⟨wz.heap.size, 0, none⟩ 1 1 [.int .u8 (b : Nat), .int .u64 (o : Nat), .int .i64 y.2.2] (by simp [Act.eval, Act.put]) rfl (World.news_of_block (heap_alloc_new _ _)) (by simp [Value.oneCell']) (by omega) (by unfold maxLen; omega) (by omega) (by simp; omega) _ rfl ?_
               intro g6 cap6 w6 hown6 hgr6 hat6 hlt6
               have hm6 : Mod (fun k => k = xb) W4 w6 := by
                 first
                   | exact (Mod.alloc (Mod.drewN HI2.out.mod _) _).grown hgr6 (fun k hk hlt => by have := (HI2.out.row.lt k hk).1; omega)
                   | exact (Mod.drewN (Mod.alloc HI2.out.mod _) _).grown hgr6 (fun k hk hlt => by have := (HI2.out.row.lt k hk).1; omega)
               have hB6 : w6.heap[xb]? = some (.cells #[.bool x.f, .int .u64 (fo : Nat), .slice xo j xc] 30 (0, 0)) := (hgr6.block xb (by simp; omega) (fun e => HNX.out e.symm)).trans (block_alloc HI2.out.blk)
               have k6x : w6.frozen? ⟨xb, 2, none⟩ = false := block_free hB6
               have k7x : w6.cell? ⟨xb, 2, none⟩ = some (.slice xo j xc) := block_cell hB6 rfl
               have HX6 := Lib.hid (And.intro hown6 (And.intro hm6 hB6))
               clear hown6 hgr6 hat6 hlt6 hm6 hB6))
          all_goals
            go_wp2_with fail
            go_roundw
            case rel =>
              obtain ⟨hown6, hm6, hB6⟩ := HX6.out
              have hlt6 := hown6.lt
              refine ⟨j + 1, _, by go_num, by omega, Lib.hid ⟨?_, block_set (i := 2) hB6, ?_⟩⟩
              · exact hm6.setCell (p := ⟨xb, 2, none⟩) (fun _ => rfl) _
              · have e7 : (x.l.take (j + 1)).flatMap arcCells = (x.l.take j).flatMap arcCells ++ [Value.int .u8 (b : Nat), .int .u64 (o : Nat), .int .i64 y.2.2] := by
                  rw [take_snoc' _ _ _ HY.out, List.flatMap_append]
                  simp only [List.flatMap_cons, List.flatMap_nil, List.append_nil, arcCells, HE12.out.1, HE12.out.2]
                rw [e7]
                exact ownsRow_setCell_ne hown6 (fun e => by have := (hlt6 xb e.symm).1; omega) _
            case measure => simp [intOf]; omega
        · obtain rfl : j = m := by omega
          obtain ⟨xo, xc, rfl⟩ := ownsRow_form HI.out.row
          have c0x : wy.cell? ⟨xb, 0, none⟩ = some (.bool x.f) := block_cell HI.out.blk rfl
          have c1x : wy.cell? ⟨xb, 1, none⟩ = some (.int .u64 (fo : Nat)) := block_cell HI.out.blk rfl
          have c2x : wy.cell? ⟨xb, 2, none⟩ = some (.slice xo j xc) := block_cell HI.out.blk rfl
          have hbz : Below w0.heap.size w0 wy := HB4.out.trans (HI.out.mod.toBelow HB4.out.size (fun k _ hk => by omega))
          have hrow : wy.ownsRow w2.heap.size 30 3 BV i (B.flatMap stateCells) := ownsRow_below HS.out.row hbz fun g hg => (HS.out.row.lt g hg).2
          have HROW := Lib.hid hrow
          have HBZ := Lib.hid hbz
          have hbase : w2.heap.size ≤ wy.heap.size := Nat.le_trans HS.out.bel.size hbz.size
          clear hrow hbz
          go_wp2_with (at_builtin; refine wpList_append_one rfl (.tmp 73) (.tmp 75) 22 rfl w2.heap.size 30 _ 3 40 Tryd.underlying22 Tryd.info30 rfl (by decide) (by decide) _ _ _ rfl HROW.out #[.bool x.f, .int .u64 (fo : Nat), .slice xo j xc] _ _ rfl (by simp) rfl (by simp [Value.oneCell']) (by omega) hbase ?_; intro ao5 cap5 w5 hown5 hgr5 hat5; have HX5 := Lib.hid (And.intro hown5 hgr5); clear hown5 hgr5 hat5)
          go_roundw
          case rel =>
            refine ⟨i + 1, _, B ++ [⟨x.f, fo, .slice xo j xc, x.l⟩], rfl, by go_num, by omega, Lib.hid ?_⟩
            obtain ⟨hown5, hgr5⟩ := HX5.out
            have mm : Mod (fun k => BV.ownBlock = some k) wy w5 := ((Mod.refl _ wy).alloc _).grown hgr5 (fun k hk _ => hk)
            have hbel : Below w2.heap.size w2 wy := HS.out.bel.trans (HBZ.out.mono HS.out.bel.size)
            have htk : x.l.take j = x.l := List.take_of_length_le (by rw [← HM.out]; exact Nat.le_refl _)
            have hoX := HOK.out x (List.mem_of_getElem? HX.out)
            refine ⟨hbel.trans (mm.toBelow hbase (fun k _ hk => (HROW.out.lt k hk).1)), ?_, fun z hz => ?_, by simp [HS.out.len], fun q u z hu hz => ?_⟩
            · have e8 : (B ++ [(⟨x.f, (fo : Int), .slice xo j xc, x.l⟩ : StV)]).flatMap stateCells = B.flatMap stateCells ++ #[Value.bool x.f, .int .u64 (fo : Nat), .slice xo j xc].toList := by
                rw [List.flatMap_append]
                rfl
              rw [e8]
              exact hown5
            · rcases List.mem_append.1 hz with hz | hz
              · have h9 := ownsRow_below (HS.out.arcs z hz) HBZ.out fun g hg => ((HS.out.arcs z hz).lt g hg).2
                exact ownsRow_mod h9 mm fun g hg e => owns_types h9 HROW.out (by decide) g hg e
              · simp only [List.mem_singleton] at hz
                subst hz
                have h9 := owns_zero HI.out.row
                rw [htk] at h9
                have h10 := ownsRow_mod h9 mm fun g hg e => owns_types h9 HROW.out (by decide) g hg e
                simp only [← HM.out]
                exact h10
            · rcases Nat.lt_or_ge q B.length with h9 | h9
              · rw [List.getElem?_append_left h9] at hz
                exact HS.out.same q u z hu hz
              · have h10 := (List.getElem?_eq_some_iff.1 hz).1
                simp at h10
                obtain rfl : q = B.length := by omega
                simp at hz
                subst hz
                rw [HS.out.len, HX.out] at hu
                cases hu
                refine ⟨rfl, ?_, rfl⟩
                show x.o = (fo : Int)
                rw [HFO.out]
                have := hoX.1.1
                omega
          case measure => simp [intOf]; omega
    · obtain rfl : i = n := by omega
      go_wp2_with fail
      go_ret2
      refine ⟨_, B, rfl, ⟨?_, fun y hy => reads_of_owns (HS.out.arcs y hy)⟩, by rw [HS.out.len, HLEN.out], HS.out.same, HB2.out.trans (HS.out.bel.mono HB2.out.size)⟩
      exact reads_of_owns HS.out.row
end Go.Proofs.YtkbonmjbfpdchaaDoor.Buf
