/- FnRegexRefused: the law. -/
import Derived.Test.YtnpchkohfomagaaDoorRgJ4
import Derived.Deep.DeepCutAuto
import Derived.Deep.CutRange
import Derived.Deep.RegionWith
import Derived.Deep.RegionLaw
import Derived.Laws.CopyOwn
namespace Go.Proofs.YtnpchkohfomagaaDoor.Rgy
open Go.ChangeShapes Go.WideShapes Go.ChangeAt Go.RowKit Go.Trav Go.Rg Go.Utf Go.Proofs.YtnpchkohfomagaaDoor.Seq Go.Proofs.YtnpchkohfomagaaDoor.Sparse Go.Proofs.YtnpchkohfomagaaDoor.Rgw
set_option linter.unusedVariables false
set_option linter.unusedSimpArgs false
set_option maxRecDepth 100000
/-- A spoilt expression's automaton: refused, and told why. -/
theorem refused_path (ad : Nat → Addr) {b : Tr} {k : Nat} (hb : BadT b k) (r : Rw) (way : List Int) (hp : places 4 (ex 4 r) ≤ 160) (cs : List Value) (W : World) (hX : RxV W 6 (spoil b way (ex 4 r)) cs) (hE : Laid W ad) :
    Calls Tryd.prog 28 #[.agg cs.toArray, .string ⟨#[]⟩] W fun e w' => e = .returned (.tuple #[.slice none 0 0, .slice none 0 0, .slice none 0 0, .int .i64 (k : Int)]) ∧ Below W.heap.size W w' := by
  obtain ⟨h1, h2, h3⟩ := spoil_ok hb 4 r way (by omega)
  have hC : exC 4 = 9685 := by decide
  have hs : size 6 (spoil b way (ex 4 r)) ≤ 262144 := by have : size 6 (spoil b way (ex 4 r)) ≤ 363 * places 4 (ex 4 r) + exC 4 := h3; omega
  refine (rxp_any ad 6 _ cs ⟨#[]⟩ W hX h1 hE.env hE.errs hE.h5b (by omega) (by decide)).mono ?_
  rintro e w' ⟨hbl, ⟨v1, v2, v3, c, _, hbad, _⟩ | ⟨k', he, hk⟩⟩
  · rw [show bad 6 (spoil b way (ex 4 r)) = some k from h2] at hbad; cases hbad
  · refine ⟨?_, hbl⟩
    rcases hk with h | ⟨_, h⟩ | ⟨_, h, _⟩
    · rw [show bad 6 (spoil b way (ex 4 r)) = some k from h2] at h
      cases h; exact he
    · omega
    · rw [show bad 6 (spoil b way (ex 4 r)) = some k from h2] at h; cases h
theorem wpList_b {P : Program} {ops : Array Oper} {rest : List Oper} {d : Option Tmp} {t ty : TypeId} {parts : Array (Nat × Operand)} {pos : String} {aft : Array Edge} {a : Act} {w : World} {Q : Exit → Act → World → Prop} {cells : Array Value}
    (hc : P.built t (parts.map fun (i, x) => (i, a.eval x)).toList = some cells) (h : wpList P ops Q rest (a.put d (.agg cells)) w) : wpList P ops Q (⟨d, .build t parts, ty, pos, aft, none⟩ :: rest) a w :=
  wpList_build rfl t parts rfl (by rw [hc]; rfl) (by rw [hc]; exact h)
theorem wpList_st {P : Program} {ops : Array Oper} {rest : List Oper} {d : Option Tmp} {t ty tt : TypeId} {x y : Operand} {pos : String} {aft : Array Edge} {a : Act} {w : World} {Q : Exit → Act → World → Prop} {g : Nat} {cells old : Array Value}
    (hx : a.eval x = .pointer (some ⟨g, 0, none⟩)) (hy : a.eval y = .agg cells) (hg : w.heap[g]? = some (.cells old t (0, 0))) (hi : (P.info? ty).map (·.size) = some cells.size)
    (hold : old.size = cells.size) (h1 : cells.all (·.oneCell') = true)
    (h : wpList P ops Q rest (a.put d undef) (w.setRow g cells)) : wpList P ops Q (⟨d, .store ty x y, tt, pos, aft, none⟩ :: rest) a w :=
  wpList_store_row rfl ty x y rfl g cells hx hy t old hg hi hold h1 h
theorem TC.row {S : Nat} {w6 wy : World} (h : TB S w6 wy) (old : Array Value) : TC S w6 ((wy.alloc (.cells old 52)).setRow (S + 3) (arrC S).toArray) := by
  have k := heap_alloc_new wy (.cells old 52)
  rw [h.sz] at k
  refine ⟨⟨wy, h, below_setRow ((Below.refl _ _).alloc (Nat.le_refl _) _) (by rw [h.sz]; omega) _⟩, setRow_heap _ _ _ _ _ _ k, by rw [size_setRow]; simp [h.sz]⟩
set_option maxHeartbeats 8000000 in
theorem law_refused (ad : Nat → Addr) (n : Nat) (r : Rw) (cs : List Value) (way : List Int) (v : Value) (wh : Int) (w : World) (h : RwV w n r cs) (hv : Reads w v way.length 1 (way.map iZ)) (hL : Laid w ad) :
    Calls Tryd.prog 7 #[.agg cs.toArray, v, .int .i64 wh] w fun e w' => e = .returned (.bool true) ∧ Below w.heap.size w w' := by
  obtain ⟨rv1, lz1, fo1, sv1, rfl, ⟨ra1, rl1, rc1, rfl⟩, sa1, sl1, sc1, rfl⟩ := h.form
  obtain ⟨va, vc, rfl⟩ := hv.form
  obtain ⟨wl, hwl⟩ : ∃ n, n = way.length := ⟨_, rfl⟩
  rw [← hwl]
  have hvb := hv.bound
  rw [← hwl] at hvb
  obtain ⟨W1, hW1⟩ : ∃ W1, W1 = w.alloc (.cells #[.int .i64 r.op, .slice ra1 rl1 rc1, .int .i64 r.mn, .int .i64 r.mx, .bool lz1, .bool fo1, .slice sa1 sl1 sc1] 35) := ⟨_, rfl⟩
  have hb1 : Below w.heap.size w W1 := by rw [hW1]; exact (Below.refl _ _).alloc (Nat.le_refl _) _
  have b0 : W1.heap[w.heap.size]? = some (.cells #[.int .i64 r.op, .slice ra1 rl1 rc1, .int .i64 r.mn, .int .i64 r.mx, .bool lz1, .bool fo1, .slice sa1 sl1 sc1] 35 (0, 0)) := by rw [hW1]; exact heap_alloc_new w _
  have hx1 := fun (W : World) (hb : Below W1.heap.size W1 W) => expr_any 4 (by omega) (by omega) n r _ W (RwV.below (hb1.trans (hb.mono hb1.size)) n r _ h)
  have hk0 := fun (W : World) (hb : Below W1.heap.size W1 W) => (cells7 ((Mod.of_below (F := fun _ => False) hb).heap b0 (fun h => h))).1
  have hf1 := fun W => fits_any r.op ra1 rl1 rc1 r.mn r.mx lz1 fo1 sa1 sl1 sc1 W
  have hv1 := fun W => wide_any r.op ra1 rl1 rc1 r.mn r.mx lz1 fo1 sa1 sl1 sc1 W
  obtain ⟨f1, hfe1⟩ : ∃ f, f = (decide (rl1 ≤ 2147483647) && decide (sl1 ≤ 2147483647)) := ⟨_, rfl⟩
  obtain ⟨g1, hge1⟩ : ∃ f, f = (decide (rl1 ≤ 65536) && decide (sl1 ≤ 65536)) := ⟨_, rfl⟩
  rw [← hfe1] at hf1
  rw [← hge1] at hv1
  have HF1 := Lib.hid hf1
  have HV1 := Lib.hid hv1
  have HX1 := Lib.hid hx1
  have HK0 := Lib.hid hk0
  have HB1 := Lib.hid hb1
  have HL := Lib.hid hL
  have HV := Lib.hid (And.intro hv hwl)
  clear hx1 hk0 hf1 hv1 hfe1 hge1 hb1 b0 h hL hv hwl
  go_enter Tryd.func7, Tryd.ntmps7
  go_wp2_with fail
  rw [← hW1]
  clear hW1
  refine (HF1.out W1).mono ?_
  rintro e w3 ⟨rfl, hb3⟩
  have HB3 := Lib.hid hb3
  clear hb3
  cases f1 with
  | false =>
    go_wp2_with fail
    go_ret
    exact ⟨rfl, HB1.out.trans (HB3.out.mono HB1.out.size)⟩
  | true =>
  by_cases hs9 : wl ≤ 2147483647
  case neg =>
    go_wp2_with fail
    go_ret
    exact ⟨rfl, HB1.out.trans (HB3.out.mono HB1.out.size)⟩
  obtain ⟨y0, y1, y2, y3, y4, y5, y6⟩ := HK0.out w3 HB3.out
  go_wp2_with fail
  refine (HV1.out w3).mono ?_
  rintro e w4 ⟨rfl, hb4⟩
  clear y0 y1 y2 y3 y4 y5 y6
  have HB4 := Lib.hid (HB3.out.trans (hb4.mono HB3.out.size))
  clear hb4 HB3
  cases g1 with
  | false =>
    go_wp2_with fail
    go_ret
    exact ⟨rfl, HB1.out.trans (HB4.out.mono HB1.out.size)⟩
  | true =>
  by_cases hs6 : wl ≤ 65536
  case neg =>
    go_wp2_with fail
    go_ret
    exact ⟨rfl, HB1.out.trans (HB4.out.mono HB1.out.size)⟩
  obtain ⟨y0, y1, y2, y3, y4, y5, y6⟩ := HK0.out w4 HB4.out
  go_wp2_with fail
  refine (HX1.out w4 HB4.out).mono ?_
  rintro e w5 ⟨cs5, he5, hl5, hb5, hx5⟩
  obtain ⟨o5, rv5, mn5, mx5, lz5, sv5, rfl, ⟨r51, r52, r53, rfl⟩, s51, s52, s53, rfl⟩ := hx5.form
  obtain rfl := he5
  clear y0 y1 y2 y3 y4 y5 y6
  have hb05 : Below w.heap.size w w5 := (HB1.out.trans (HB4.out.mono HB1.out.size)).trans (hb5.mono (by have := HB4.out.size; have := HB1.out.size; omega))
  obtain ⟨W5, hW5⟩ : ∃ W5, W5 = w5.alloc (.cells #[.int .i64 o5, .slice r51 r52 r53, .int .i64 mn5, .int .i64 mx5, .bool lz5, .bool false, .slice s51 s52 s53] 35) := ⟨_, rfl⟩
  have hb55 : Below w5.heap.size w5 W5 := by rw [hW5]; exact (Below.refl _ _).alloc (Nat.le_refl _) _
  have hbk5 : W5.heap[w5.heap.size]? = some (.cells #[.int .i64 o5, .slice r51 r52 r53, .int .i64 mn5, .int .i64 mx5, .bool lz5, .bool false, .slice s51 s52 s53] 35 (0, 0)) := by rw [hW5]; exact heap_alloc_new w5 _
  have hmd := modest_any 4 (ex 4 r) _ 1 W5 (RxI.rx _ _ _ (RxI.below hb55 _ _ _ hx5)) (ex_wf 4 r (by omega)) (ex_lf 4 r) (ex4_places r) (by omega)
  rw [Nat.mul_one] at hmd
  obtain ⟨R0, hR0⟩ : ∃ R0, R0 = w5.heap.size := ⟨_, rfl⟩
  have HMD := Lib.hid hmd
  have H5 := Lib.hid (And.intro hx5 (And.intro hb05 (And.intro hb55 (And.intro hbk5 hR0))))
  clear hx5 hb05 hb55 hbk5 hmd hb5 hl5
  go_upto_region 6 with (fail)
  rw [← hW5, ← hR0]
  clear hW5 hR0
  go_cut [36] from 12 to 79 (fun v wx => v = .bool (!(decide (places 4 (ex 4 r) ≤ 160))) ∧ Hid (Below W5.heap.size W5 wx))
  case first =>
      obtain ⟨l0, l1, l2, l3, l4, l5, l6⟩ := (cells7 H5.out.2.2.2.1).1
      have hR0 := H5.out.2.2.2.2
      rw [← hR0] at l0 l1 l2 l3 l4 l5 l6
      clear hR0
      go_wp2_with fail
      refine HMD.out.mono ?_
      rintro e w6 ⟨rfl, hb6⟩
      have HB6 := Lib.hid hb6
      clear hb6
      go_wp2_with fail
      go_meet
      exact ⟨rfl, HB6⟩
  obtain ⟨rfl, HB6⟩ := hcut
  rename World => w6
  by_cases hmo : places 4 (ex 4 r) ≤ 160
  case neg =>
    rw [decide_eq_false hmo]
    go_wp2_with fail
    go_ret
    exact ⟨rfl, (H5.out.2.1.trans (H5.out.2.2.1.mono H5.out.2.1.size)).trans (HB6.out.mono (by have := H5.out.2.1.size; have := H5.out.2.2.1.size; omega))⟩
  rw [decide_eq_true hmo]
  have HMO := Lib.hid hmo
  clear hmo
  obtain ⟨S, hS⟩ : ∃ S, S = w6.heap.size := ⟨_, rfl⟩
  have htb := TB.start w6
  have HTB := Lib.hid htb
  clear htb
  go_upto_region 8 with (fail)
  go_cut [8] (fun v wx => v = .pointer (some ⟨w6.heap.size + 2, 0, none⟩) ∧ Hid (TB w6.heap.size w6 wx))
  case first =>
      go_wp2_with fail
      go_meet
      exact ⟨rfl, HTB⟩
  obtain ⟨rfl, HTB8⟩ := hcut
  rename World => w8
  clear HTB
  rw [← hS] at HTB8 ⊢
  have HSE := Lib.hid hS
  clear hS
  obtain ⟨⟨l0, l1, l2, l3, l4, l5, l6⟩, _⟩ := cells7 HTB8.out.s2
  have hsz8 := HTB8.out.sz
  go_upto_region 9 with (fail)
  go_cut [9] (fun v wx => v = .pointer (some ⟨S + 3, 0, none⟩) ∧ Hid (TC S w6 wx))
  case first =>
      iterate 22 go_step
      refine wpList_b (cells := (arrC S).toArray) ?_ ?_
      · go_simp
        exact built7 S
      go_simp
      iterate 3 go_step
      refine wpList_st (g := S + 3) (cells := (arrC S).toArray) rfl rfl (heap_alloc_at w8 _ (S + 3) hsz8.symm) (by kernel_rfl) rfl (by kernel_rfl) ?_
      go_simp
      apply wpList_nil
      go_wp2_with fail
      go_meet
      exact ⟨rfl, Lib.hid (TC.row HTB8.out _)⟩
  obtain ⟨rfl, HTC9⟩ := hcut
  rename World => w9
  clear l0 l1 l2 l3 l4 l5 l6 hsz8
  have htd := TD.of HTC9.out
  have hsz9 := HTC9.out.sz
  have HTD := Lib.hid htd
  clear htd
  go_upto_region 10 with (fail)
  go_cut [10] (fun v wx => v = .pointer (some ⟨S + 4, 0, none⟩) ∧ Hid (TD S w6 wx))
  case first =>
      go_wp2_with fail
      go_meet
      exact ⟨rfl, HTD⟩
  obtain ⟨rfl, HTD10⟩ := hcut
  rename World => w10
  clear HTD hsz9 HTC9 HTB8
  obtain ⟨t0, t1, t3, t4, hb610⟩ := TD.all HTD10.out HSE.out
  obtain ⟨at_, hat⟩ : ∃ a, a = atP wh 7 := ⟨_, rfl⟩
  have hal : at_ < 7 := by rw [hat]; exact atP_lt _ _ (by omega)
  have u1 : IntKind.u64.wrap wh = wh % 18446744073709551616 := by rw [IntKind.wrap_u64]
  have hmb := mod_bd (wh % 18446744073709551616) 7 (by omega)
  have u3 : (wh % 18446744073709551616).tmod 7 = wh % 18446744073709551616 % 7 := Int.tmod_eq_emod_of_nonneg (by omega)
  have u4 : IntKind.i64.wrap (wh % 18446744073709551616 % 7) = (at_ : Int) := by
    rw [IntWalk.i64_in _ (by omega), hat]; unfold atP; omega
  have hSs := HSE.out
  have hs10 := hb610.size
  have hlt4 := block_lt t4
  obtain ⟨bt, k, ob, lzb, svb, hbt, hk1, hk3, ⟨x1, x2, x3, rfl⟩, hxb, hkc, d0, d1, d2, d3, d4, d5, d6⟩ := table (N := w10.heap.size) hal t0 t1 (by omega) t3 t4
  obtain ⟨hx5, hb05, hb55, hbk5, hR0e⟩ := H5.out
  have hb510 : Below w5.heap.size w5 w10 := (hb55.trans (HB6.out.mono hb55.size)).trans (hb610.mono (by have := hb55.size; have := HB6.out.size; omega))
  have hb510W : Below W5.heap.size W5 w10 := HB6.out.trans (hb610.mono HB6.out.size)
  have hb010 : Below w.heap.size w w10 := hb05.trans (hb510.mono hb05.size)
  rw [← hR0e] at hbk5
  obtain ⟨⟨l0, l1, l2, l3, l4, l5, l6⟩, _⟩ := cells7 ((Mod.of_below (F := fun _ => False) hb510W).heap hbk5 (fun h => h))
  have hxt := RxI.wide (R' := fun g => g < w10.heap.size) (fun g hg => by have := hb510.size; omega) _ _ _ (RxI.below hb510 _ _ _ hx5)
  have hvr := HV.out.1.below hb010
  rw [← HV.out.2] at hvr
  have hsp := fun (W : World) (hb : Below w10.heap.size w10 W) => spoil_any w10.heap.size bt 3 (ex 4 r) _ _ way (.slice va wl vc) W hb.size (RxI.below hb _ _ _ hxt) (RxI.below hb _ _ _ hxb) (by rw [← HV.out.2]; exact hvr.below hb)
  have hrp := fun (W : World) (hb : Below w10.heap.size w10 W) (cs : List Value) (hX : RxV W 6 (spoil bt way (ex 4 r)) cs) => refused_path ad hbt r way HMO.out cs W hX (HL.out.below (hb010.trans (hb.mono hb010.size)))
  have hck := fun (W : World) (hb : Below w10.heap.size w10 W) => keepZ hb hkc
  have HSP := Lib.hid hsp
  have HRP := Lib.hid hrp
  have HCK := Lib.hid hck
  have H10 := Lib.hid hb010
  have ha0 : (0 : Int) ≤ (at_ : Int) := by omega
  have ha7 : (at_ : Int) < 7 := by omega
  clear hsp hrp hck hvr hxt hb010 hb510W hb510 hx5 hb05 hb55 hbk5 hR0e hxb hkc hbt hs10 hlt4 hSs t0 t1 t3 t4 hb610 hat hmb HTD10
  go_wp2_with fail
  go_cut [12, 13, 14, 15] from 54 to 65 (fun v12 v13 v14 v15 wx => v15 = .int .i64 (k : Int) ∧ Hid (Below w10.heap.size w10 wx))
  case first =>
    go_region_law (first
      | (go_simp; (with_reducible refine Calls.mono (HSP.out _ (by first | exact (Below.refl _ _).drew | exact Below.refl _ _)) ?_); rintro e wA ⟨cA, heA, hlA, hbA, hxA⟩
         obtain ⟨oA, rvA, mnA, mxA, lzA, svA, rfl, ⟨a1, a2, a3, rfl⟩, a4, a5, a6, rfl⟩ := hxA.form
         obtain rfl := heA
         have hbAA : Below w10.heap.size w10 wA := (by first | exact hbA | exact ((Below.refl w10.heap.size w10).drew).trans hbA)
         have hrA := HRP.out wA hbAA _ (RxI.rx _ _ _ hxA)
         have HRA := Lib.hid hrA
         have HBA := Lib.hid hbAA
         clear hbA hbAA hrA hxA hlA)
      | (go_simp; (with_reducible refine Calls.mono HRA.out ?_); rintro e wB ⟨rfl, hbB⟩
         have HBB := Lib.hid (HBA.out.trans (hbB.mono HBA.out.size))
         clear hbB))
    all_goals
      go_simp
      go_wp2_with fail
      go_meet
      exact ⟨rfl, HBB⟩
  obtain ⟨rfl, HBB⟩ := hcut
  rename World => w12
  have hkk := HCK.out w12 HBB.out
  go_wp2_with fail
  go_ret
  exact ⟨rfl, H10.out.trans (HBB.out.mono H10.out.size)⟩
end Go.Proofs.YtnpchkohfomagaaDoor.Rgy
