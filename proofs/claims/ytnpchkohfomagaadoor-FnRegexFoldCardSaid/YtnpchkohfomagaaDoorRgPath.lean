/- The automaton of instructions: impl.ProgPath. -/
import Derived.Test.YtnpchkohfomagaaDoorRgZz
import Derived.Test.YtnpchkohfomagaaDoorRgCmp
import Derived.Test.YtnpchkohfomagaaDoorRgAut
namespace Go.Proofs.YtnpchkohfomagaaDoor.Rgw
open Go.ChangeShapes Go.WideShapes Go.ChangeAt Go.RowKit Go.Trav Go.Pk Go.Rg Go.Maps Go.Proofs.YtnpchkohfomagaaDoor.Sparse Path
set_option linter.unusedVariables false
set_option linter.unusedSimpArgs false
set_option maxRecDepth 100000
/-- The program under way: its first k instructions. -/
structure PT (w wr : World) (base : Nat) (p : Value) (l : List In) (k : Nat) : Prop where
  bel : Below base w wr
  le : k ≤ l.length
  row : ∃ bs : List Nat, bs.length = k ∧ wr.ownsRow base 79 1 p k (bs.map fun b => Value.pointer (some ⟨b, 0, none⟩)) ∧ ∀ (j b : Nat) i, bs[j]? = some b → l[j]? = some i → wr.heap[b]? = some (.cells (inC i).toArray 103 (0, 0)) ∧ base ≤ b
theorem PT.quiet {w wr w' : World} {base : Nat} {p : Value} {l : List In} {k : Nat} (h : PT w wr base p l k) (hb : base ≤ wr.heap.size) (m : Mod (fun _ => False) wr w') : PT w w' base p l k := by
  obtain ⟨h1, h2, bs, h3, h4, h5⟩ := h
  exact ⟨h1.trans (m.toBelow hb fun _ _ h => h.elim), h2, bs, h3, ownsRow_mod h4 m (fun _ _ h => h), fun j b i e1 e2 => ⟨m.heap (h5 j b i e1 e2).1 (fun h => h), (h5 j b i e1 e2).2⟩⟩
theorem PT.at_end {w wr : World} {base : Nat} {p : Value} {l : List In} (h : PT w wr base p l l.length) (h0 : 0 < l.length) (hl : l.length ≤ 1000000) : ∃ pb pc, p = .slice (some ⟨pb, 0, none⟩) l.length pc ∧ PAt wr pb 0 l wr.heap.size := by
  obtain ⟨h1, h2, bs, h3, h4, h5⟩ := h
  obtain ⟨g, cap, rfl, _, _, _, hc⟩ := ownsRow_at h4 (by simp [h3]; exact h0)
  refine ⟨g, cap, rfl, (h4.lt g rfl).2, hl, fun k i hi => ?_⟩
  have hk : k < bs.length := by rw [h3]; exact (List.getElem?_eq_some_iff.mp hi).1
  have hb : bs[k]? = some bs[k] := List.getElem?_eq_getElem hk
  obtain ⟨hblk, _⟩ := h5 k bs[k] i hb hi
  have hc1 := (hc k (.pointer (some ⟨bs[k], 0, none⟩)) (by rw [List.getElem?_map, hb]; rfl)).1
  have key : ∀ j v, (inC i)[j]? = some v → wr.cell? ⟨bs[k], j, none⟩ = some v := fun j v hv => block_cell hblk (by rw [List.getElem?_toArray]; exact hv)
  refine ⟨bs[k], 0, block_lt hblk, by rw [Nat.zero_add]; exact hc1, ⟨key 0 _ rfl, key 1 _ rfl, key 2 _ rfl, key 3 _ rfl, key 4 _ rfl, key 5 _ rfl⟩⟩
theorem at_run (Ks nx : List (List Nat)) (L : List UInt8) : ∀ i, i ≤ L.length → at_ 1 (fun s b => (accT Ks nx s.toNat b.toNat : Int)) (L.take i) = (Go.Rg.runT Ks nx (L.map UInt8.toNat) i : Int) := by
  intro i
  induction i with
  | zero => intro _; rfl
  | succ i ih =>
    intro hi
    have hl : i < L.length := by omega
    have e : L.take (i + 1) = L.take i ++ [L[i]] := by rw [List.take_succ_eq_append_getElem hl]
    have e2 : at_ 1 (fun s b => (accT Ks nx s.toNat b.toNat : Int)) (L.take i ++ [L[i]]) = (accT Ks nx (at_ 1 (fun s b => (accT Ks nx s.toNat b.toNat : Int)) (L.take i)).toNat ((L[i].toNat : Int)).toNat : Int) := by
      unfold at_
      rw [List.foldl_append]
      rfl
    rw [e, e2, ih (by omega)]
    have e3 : (L.map UInt8.toNat)[i]?.getD 0 = L[i].toNat := by rw [List.getElem?_map, List.getElem?_eq_getElem hl]; rfl
    show _ = ((accT Ks nx (Go.Rg.runT Ks nx (L.map UInt8.toNat) i) ((L.map UInt8.toNat)[i]?.getD 0) : Nat) : Int)
    rw [e3]
    simp
/-- What the automaton says along a text, by the sets. -/
def wantM (l : List In) (s : List Nat) (i : Nat) : Bool := isM l (kAt l s i)
def wantC (l : List In) (s : List Nat) (i : Nat) : Bool := !(kAt l s i).isEmpty
theorem rows_are {l : List In} {Ks nx : List (List Nat)} (h : Made l Ks nx) (L : List UInt8) (n : Nat) (hn : n ≤ L.length + 1) :
    rowOf (fun s => matT l Ks s.toNat) 1 (fun s b => (accT Ks nx s.toNat b.toNat : Int)) L n = ((List.range n).map (wantM l (L.map UInt8.toNat))).map Value.bool ∧
    rowOf (fun s => canT Ks s.toNat) 1 (fun s b => (accT Ks nx s.toNat b.toNat : Int)) L n = ((List.range n).map (wantC l (L.map UInt8.toNat))).map Value.bool := by
  have hs : ∀ c ∈ L.map UInt8.toNat, c < 256 := fun c hc => by
    obtain ⟨x, _, rfl⟩ := List.mem_map.mp hc
    exact x.toNat_lt
  constructor
  · unfold rowOf
    rw [List.map_map]
    refine List.map_congr_left fun i hi => ?_
    have hin : i < n := by simpa using hi
    rw [at_run Ks nx L i (by omega)]
    simp only [Function.comp, Int.toNat_natCast]
    rw [(made_run h hs i).1]; rfl
  · unfold rowOf
    rw [List.map_map]
    refine List.map_congr_left fun i hi => ?_
    have hin : i < n := by simpa using hi
    rw [at_run Ks nx L i (by omega)]
    simp only [Function.comp, Int.toNat_natCast]
    rw [(made_run h hs i).2]; rfl
theorem row_false (start : Int) (ac : Int → Int → Int) (L : List UInt8) (n : Nat) : rowOf (fun _ => false) start ac L n = ((List.range n).map fun _ => false).map Value.bool := by
  unfold rowOf
  rw [List.map_map]
  rfl
theorem zmake_any (i : In) (w : World) :
    Calls Tryd.prog 34 #[.int .i64 (i.op : Int), .int .u64 (i.to : Int), .int .u64 (i.a : Int), .int .u64 (i.b : Int), .int .u8 (i.lo : Int), .int .u8 (i.hi : Int)] w fun e w' => e = .returned (.pointer (some ⟨w.heap.size, 0, none⟩)) ∧ w'.heap[w.heap.size]? = some (.cells (inC i).toArray 103 (0, 0)) ∧ Mod (fun _ => False) w w' := by
  go_enter Tryd.func34, Tryd.ntmps34
  go_wp2_with fail
  go_ret
  exact ⟨rfl, heap_alloc_new w _, (Mod.refl _ _).alloc _⟩
theorem zadd_any (base b k : Nat) (v : Value) (vs : List Value) (w : World) (h : w.ownsRow base 79 1 v k vs) (hb : base ≤ w.heap.size) (hk : k ≤ 1000000) :
    Calls Tryd.prog 33 #[v, .pointer (some ⟨b, 0, none⟩)] w fun e w' => ∃ v', e = .returned v' ∧ w'.ownsRow base 79 1 v' (k + 1) (vs ++ [.pointer (some ⟨b, 0, none⟩)]) ∧ Mod (fun k => v.ownBlock = some k) w w' := by
  obtain ⟨ao, cap, rfl⟩ := ownsRow_form h
  have H := Lib.hid h
  clear h
  go_enter Tryd.func33, Tryd.ntmps33
  go_wp2_with (at_builtin; refine wpList_append_one rfl (.tmp 5) (.tmp 7) 64 rfl base 79 _ 1 8 Tryd.underlying64 Tryd.infoPinst rfl (by decide) (by decide) _ _ _ rfl H.out #[.pointer (some ⟨b, 0, none⟩)] _ _ rfl (by simp) rfl (by simp [Value.oneCell']) (by omega) hb ?_; intro ao5 cap5 w5 hown5 hgr5 hat5)
  go_ret
  exact ⟨_, rfl, hown5, ((Mod.refl _ _).alloc _).grown hgr5 fun k hk _ => hk⟩
set_option maxHeartbeats 4000000 in
theorem pp_any (l : List In) (lv : Value) (s : ByteArray) (a0 a1 a2 a3 a4 : Addr) (w : World) (hs : Sound l) (h0 : 0 < l.length) (hl : l.length ≤ 100000) (hr : Reads w lv l.length 6 (l.flatMap inC)) (hss : s.size ≤ 1000) (hE : Errs w a0 a1 a2 a3 a4) :
    Calls Tryd.prog 11 #[lv, .string s] w fun e w' => Below w.heap.size w w' ∧ ((∃ v1 v2 v3 : Value, e = .returned (.tuple #[v1, v2, v3, .int .i64 0]) ∧ Reads w' v1 (s.size + 1) 1 (((List.range (s.size + 1)).map (wantM l (s.data.toList.map UInt8.toNat))).map Value.bool) ∧ Reads w' v2 (s.size + 1) 1 (((List.range (s.size + 1)).map (wantC l (s.data.toList.map UInt8.toNat))).map Value.bool) ∧ Reads w' v3 (s.size + 1) 1 (((List.range (s.size + 1)).map fun _ => false).map Value.bool)) ∨
      (e = .returned (.tuple #[.slice none 0 0, .slice none 0 0, .slice none 0 0, .int .i64 5]) ∧ 6 < (taking l).length)) := by
  obtain ⟨b, o, c, rfl, _⟩ := in_slice hr h0
  have H := Lib.hid hr
  have HS := Lib.hid hs
  have HE := Lib.hid hE
  clear hr hs hE
  go_enter Tryd.func11, Tryd.ntmps11
  go_wp2_with fail
  have hw1 := heap_alloc_new w (.cells #[.int .u8 2, .int .u16 0, .slice none 0 0, .pointer none, .slice none 0 0, .int .i32 0, .int .i32 0, .int .i64 0, .int .i64 0, .int .i64 0, .string ⟨#[]⟩] 77)
  obtain ⟨w1, hw1e⟩ : ∃ w1, w1 = w.alloc (.cells #[.int .u8 2, .int .u16 0, .slice none 0 0, .pointer none, .slice none 0 0, .int .i32 0, .int .i32 0, .int .i64 0, .int .i64 0, .int .i64 0, .string ⟨#[]⟩] 77) := ⟨_, rfl⟩
  rw [← hw1e] at hw1 ⊢
  have hm1 : Mod (fun _ => False) w w1 := by rw [hw1e]; exact (Mod.refl _ _).alloc _
  refine (comp_any w.heap.size w1 (block_cell hw1 rfl) (block_cell hw1 rfl)).mono ?_
  rintro e w2 ⟨v, rfl, ⟨n, xs, hv⟩, hb2⟩
  obtain ⟨vo, vc, rfl⟩ := ownsRow_form hv
  have hcut := ownsRow_cut hv (Nat.zero_le n)
  rw [Nat.zero_mul, List.take_zero] at hcut
  have hm2 : Mod (fun _ => False) w w2 := hm1.trans (Mod.of_below hb2)
  have hsz1 : w.heap.size ≤ w1.heap.size := hm1.size
  have hP0 : PT w w2 w.heap.size (.slice vo 0 vc) l 0 := ⟨hm2.toBelow (Nat.le_refl _) fun _ _ h => h.elim, Nat.zero_le _, [], rfl, ownsRow_mono hcut hsz1, by simp⟩
  have HP0 := Lib.hid hP0
  have HM2 := Lib.hid hm2
  clear hw1 hw1e hm1 hv hb2 hcut hm2 hP0
  go_wp2_with fail
  go_loopw [8, 23] (fun pv ix wr => ∃ k : Nat, ix = .int .i64 k ∧ k ≤ l.length ∧ Hid (PT w wr w.heap.size pv l k)) (fun _ ix _ => l.length - (intOf ix).toNat)
  case atStart => exact ⟨0, rfl, Nat.zero_le _, HP0⟩
  case round =>
    obtain ⟨k, rfl, hk, HP⟩ := hrel
    by_cases hlt : k < l.length
    · obtain ⟨i, hi⟩ : ∃ i, l[k]? = some i := ⟨_, List.getElem?_eq_getElem hlt⟩
      obtain ⟨c0, c1, c2, c3, c4, c5⟩ := in_cells (H.out.below HP.out.bel) hi
      obtain ⟨bs, hbs, hrow, hcel⟩ := HP.out.row
      have HR := Lib.hid hrow
      have HI := Lib.hid hi
      have hsz : w.heap.size ≤ wr.heap.size := HP.out.bel.size
      have HCEL := Lib.hid hcel
      clear hrow hi hcel
      go_wp2_with fail
      refine (zmake_any i _).mono ?_
      rintro e w4 ⟨rfl, hb4, hm4⟩
      have hma : Mod (fun _ => False) wr w4 := ((Mod.refl _ wr).alloc _).trans hm4
      have hrow4 := ownsRow_mod HR.out hma (fun _ _ h => h)
      have hsz4 : w.heap.size ≤ w4.heap.size := Nat.le_trans hsz hma.size
      have hBs : (wr.alloc (.cells #[.int .i64 (i.op : Int), .int .u64 (i.to : Int), .int .u64 (i.a : Int), .int .u64 (i.b : Int), .int .u8 (i.lo : Int), .int .u8 (i.hi : Int)] 60)).heap.size = wr.heap.size + 1 := by simp
      rw [hBs] at hb4
      have HB4 := Lib.hid hb4
      have HMA := Lib.hid hma
      have HR4 := Lib.hid hrow4
      clear hb4 hm4 hma hrow4 hBs
      go_wp2_with fail
      refine (zadd_any w.heap.size (wr.heap.size + 1) k u8 _ w4 HR4.out hsz4 (by omega)).mono ?_
      rintro e w5 ⟨v5, rfl, hown5, hm5⟩
      have HX5 := Lib.hid (And.intro hown5 hm5)
      clear hown5 hm5
      go_wp2_with fail
      go_roundw
      case rel =>
        obtain ⟨hown5, hm5⟩ := HX5.out
        have hge : ∀ k, u8.ownBlock = some k → w.heap.size ≤ k ∧ k < wr.heap.size := fun k hk => HR.out.lt k hk
        refine ⟨k + 1, by go_num, hlt, Lib.hid ⟨(HP.out.bel.trans (HMA.out.toBelow hsz fun _ _ h => h.elim)).trans (hm5.toBelow hsz4 fun k _ hk => (hge k hk).1), hlt, bs ++ [wr.heap.size + 1], by simp [hbs], by simpa using hown5, fun j b2 i2 e1 e2 => ?_⟩⟩
        by_cases hj : j < bs.length
        · rw [List.getElem?_append_left hj] at e1
          obtain ⟨g1, g2⟩ := HCEL.out j b2 i2 e1 e2
          refine ⟨hm5.heap (HMA.out.heap g1 (fun h => h)) (fun hk => ?_), g2⟩
          have t1 := ty_one (ty_own HR.out hk) (show Ty wr b2 103 from ⟨_, _, g1⟩)
          revert t1; decide
        · rw [List.getElem?_append_right (by omega)] at e1
          have hjk : j = k := by have := (List.getElem?_eq_some_iff.mp e1).1; simp at this; omega
          subst hjk
          rw [HI.out] at e2; cases e2
          rw [hbs, Nat.sub_self] at e1
          simp at e1; subst e1
          exact ⟨hm5.heap HB4.out (fun hk => by have := (hge _ hk).2; omega), by omega⟩
      case measure => simp [intOf]; omega
    · obtain rfl : k = l.length := by omega
      obtain ⟨pb, pc, hpe, hPA⟩ := HP.out.at_end h0 (by omega)
      have hsz : w.heap.size ≤ wr.heap.size := HP.out.bel.size
      have hEr := HE.out.mod HP.out.bel
      have hz := zzb_any l pb 0 pc _ wr HS.out h0 hPA hEr.h4 (Nat.lt_of_lt_of_le (World.block_lt_of_cell? wr _ hEr.h4) (Nat.le_refl _))
      have HZ := Lib.hid hz
      have HER := Lib.hid hEr
      subst hpe
      clear hPA hEr hz
      go_wp2_with fail
      refine HZ.out.mono ?_
      rintro e w6 ⟨hb6, ⟨X, D, Ks, nx, rfl, hX, hmd, hrow, hK, base, U, M, pv, sv, kv, sts, hBI⟩ | ⟨X, rfl, h6⟩⟩
      · have hDF := hBI.df (by omega)
        have hmd2 := rows_are hmd s.data.toList (s.size + 1) (by simp)
        have hpa := path_any s w6 (reAut X D l Ks nx w6 hX hDF hrow) (by omega)
        rw [row_false, hmd2.1, hmd2.2] at hpa
        have HPA := Lib.hid hpa
        have HB6 := Lib.hid hb6
        clear hb6 hX hmd hrow hK hBI hDF hmd2 hpa
        go_wp2_with fail
        refine HPA.out.mono ?_
        rintro e w7 ⟨v1, v2, v3, rfl, hr1, hr2, hr3, hb7⟩
        have HX := Lib.hid (And.intro hr1 (And.intro hr2 (And.intro hr3 hb7)))
        clear hr1 hr2 hr3 hb7
        go_wp2_with fail
        refine bodyPost_ret (v := .tuple #[v1, v2, v3, .int .i64 0]) (by simp [results, Tryd.results11, go_sem]) rfl ?_
        have hb67 := (HP.out.bel.trans (HB6.out.mono hsz))
        exact ⟨hb67.trans (HX.out.2.2.2.mono hb67.size), Or.inl ⟨v1, v2, v3, rfl, HX.out.1, HX.out.2.1, HX.out.2.2.1⟩⟩
      · have hE6 := HER.out.mod hb6
        have HB6 := Lib.hid hb6
        have H6 := Lib.hid h6
        have HE6 := Lib.hid hE6
        clear hb6 h6 hE6
        go_wp2_with fail
        refine (wrong_any a0 a1 a2 a3 a4 w6 HE6.out).mono ?_
        rintro e w7 ⟨rfl, hb7⟩
        have HB7 := Lib.hid hb7
        clear hb7
        go_wp2_with fail
        refine bodyPost_ret (v := .tuple #[.slice none 0 0, .slice none 0 0, .slice none 0 0, .int .i64 5]) (by simp [results, Tryd.results11, go_sem]) rfl ?_
        have hb67 := (HP.out.bel.trans (HB6.out.mono hsz))
        exact ⟨hb67.trans (HB7.out.mono hb67.size), Or.inr ⟨rfl, H6.out.six⟩⟩
end Go.Proofs.YtnpchkohfomagaaDoor.Rgw
