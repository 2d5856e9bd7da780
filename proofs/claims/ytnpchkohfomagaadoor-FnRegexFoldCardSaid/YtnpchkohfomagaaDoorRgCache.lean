/- The automaton of instructions: cachedState, the state of a set of instructions. -/
import Derived.Test.YtnpchkohfomagaaDoorRgBld
import Derived.Test.YtnpchkohfomagaaDoorLib2
import Derived.Laws.BytesString
import Derived.Laws.Cells
import Derived.StringKeys
import Derived.Deep.RegionHeld3
import Derived.Deep.DeepCutAuto
import Derived.Deep.AppendLies
import Derived.Deep.RegionLaw
namespace Go.Proofs.YtnpchkohfomagaaDoor.Rgw
open Go.ChangeShapes Go.WideShapes Go.ChangeAt Go.RowKit Go.Trav Go.Pk Go.Rg Go.Maps Go.Proofs.YtnpchkohfomagaaDoor.Sparse
set_option linter.unusedVariables false
set_option linter.unusedSimpArgs false
set_option maxRecDepth 100000
theorem foldl_push (ns : List Int) : ∀ (s : ByteArray), (ns.foldl (fun (r : ByteArray) n => r.push (UInt8.ofNat n.toNat)) s).data.toList = s.data.toList ++ ns.map fun n => UInt8.ofNat n.toNat := by
  induction ns with
  | nil => intro s; simp
  | cons n r ih => intro s; rw [List.foldl_cons, ih]; simp
def keyS (K : List Nat) : ByteArray := ((keyB K).map Int.ofNat).foldl (fun (r : ByteArray) n => r.push (UInt8.ofNat n.toNat)) ByteArray.empty
theorem keyS_data (K : List Nat) : (keyS K).data.toList = (keyB K).map UInt8.ofNat := by
  unfold keyS
  rw [foldl_push, List.map_map]
  rfl
theorem keyS_size (K : List Nat) : (keyS K).size = 8 * K.length := by
  have := congrArg List.length (keyS_data K)
  rw [List.length_map, keyB_len] at this
  rw [← this]; rfl
theorem key_string {w : World} {g cap : Nat} {K : List Nat} (h : KeyIn w g cap K) : (Conv.bytesToString (.slice (some ⟨g, 0, none⟩) (8 * K.length) cap)).run Tryd.prog w = .ok (.string (keyS K)) w := by
  obtain ⟨rest, h1, h2⟩ := h
  refine run_bytesToString w _ _ cap ((keyB K).map Int.ofNat) ?_
  have hcs : ((keyB K).map Int.ofNat).map (Value.int .u8) = (keyB K).map bN := by rw [List.map_map]; rfl
  rw [hcs]
  have := run_loadCells_list (P := Tryd.prog) (w := w) ⟨g, 0, none⟩ ((keyB K).map bN) (fun j v hj => by
    rw [addr_add]
    refine block_cell h1 ?_
    rw [Nat.zero_add, List.getElem?_toArray, List.getElem?_append_left (List.getElem?_eq_some_iff.mp hj).1]
    exact hj)
  rw [List.length_map, keyB_len] at this
  exact this
theorem lawS : Keyed Tryd.prog 9 := string_keyed Tryd.underlying9
theorem zeroI (w : World) : (zeroValue 3).run Tryd.prog w = .ok (.int .i64 0) w := by kernel_rfl
theorem keyOf_key (K : List Nat) (hK : K.length ≤ 1000000) : keyOf Tryd.prog 9 (.string (keyS K)) = some (klit K) := by
  rw [WideMaps.keyOf_string_mk Tryd.underlying9 (by rw [keyS_size]; unfold maxLen; omega), keyS_data]
  rfl
theorem Tryd.infoUint : (Tryd.prog.info? 54).map (fun i => (i.zero, i.size, i.bytes)) = some (some (.int .u64 0), 1, 8) := by kernel_rfl
theorem Tryd.infoState : (Tryd.prog.info? 145).map (fun i => (i.zero, i.size, i.bytes)) = some (some (.agg #[.slice none 0 0, .slice none 0 0, .bool false]), 3, 56) := by kernel_rfl
/-- The row that is used again. -/
structure RV (w : World) (base U D M : Nat) (sv kv : Value) (sts : List SV) (rv : Value) : Prop where
  own : ∃ m xs, w.ownsRow base 54 1 rv m xs
  ap : ∀ k, rv.ownBlock = some k → ¬ BF U D M sv kv sts k
/-- What the builder's work may touch. -/
def BG (U D M : Nat) (sv kv : Value) (sts : List SV) (rv : Value) (k : Nat) : Prop := BF U D M sv kv sts k ∨ rv.ownBlock = some k
/-- What cachedState leaves behind. -/
structure Cached (w w' : World) (base U D M : Nat) (pv sv kv : Value) (sts : List SV) (rv : Value) (l : List In) (Ks nx : List (List Nat)) (K : List Nat) (n : Nat) (rv' : Value) (sv' kv' : Value) (S : List SV) (T T' : List (List Nat)) : Prop where
  bi : BI w' base U D M pv sv' kv' (sts ++ S) l (Ks ++ T) (nx ++ T')
  rw' : RV w' base U D M sv' kv' (sts ++ S) rv'
  tt : (T = [] ∧ T' = []) ∨ (T = [K] ∧ T' = [List.replicate 256 0] ∧ K ≠ [] ∧ K ∉ Ks)
  num : Num (Ks ++ T) K n
  new : T ≠ [] → n = Ks.length + 1
  mod : Mod (BG U D M sv kv sts rv) w w'
  sub : ∀ k, BG U D M sv' kv' (sts ++ S) rv' k → BG U D M sv kv sts rv k ∨ w.heap.size ≤ k
theorem made_iN (n : Nat) : madeCells #[Value.int .i64 0] n = ((List.replicate n 0).map iN).toArray := by
  apply Array.ext
  · simp [size_madeCells]
  · intro i h1 h2
    have : i % 1 = 0 := Nat.mod_one i
    simp [madeCells, iN, this]
/-- The row under way. -/
structure IW (w wr : World) (base : Nat) (RF : Nat → Prop) (iv : Value) (kk : List Nat) : Prop where
  own : wr.ownsRow base 54 1 iv kk.length (kk.map uV)
  mod : Mod RF w wr
  sub : ∀ k, iv.ownBlock = some k → RF k ∨ w.heap.size ≤ k
theorem IW.put {w wr w5 : World} {base : Nat} {RF : Nat → Prop} {iv iv' : Value} {kk : List Nat} {x : Nat} {o : Obj} (h : IW w wr base RF iv kk) (ho : w5.ownsRow base 54 1 iv' (kk.length + 1) (kk.map uV ++ #[uV x].toList))
    (hg : (wr.alloc o).grownBy w5 iv.ownBlock) (ha : iv'.ownBlock = iv.ownBlock ∨ iv'.ownBlock = some (wr.heap.size + 1)) : IW w w5 base RF iv' (kk ++ [x]) := by
  refine ⟨by simpa using ho, (h.mod.alloc o).grown hg fun k hk hl => ?_, fun k hk => ?_⟩
  · rcases h.sub k hk with p | p
    · exact p
    · omega
  · rcases ha with e | e
    · rw [e] at hk; exact h.sub k hk
    · rw [e] at hk
      have := h.mod.size
      simp only [Option.some.injEq] at hk
      exact Or.inr (by omega)
set_option maxHeartbeats 4000000 in
theorem cached_any (l : List In) (K0 base U D M pb po pc B bd bs : Nat) (sv kv rv : Value) (sts : List SV) (Ks nx : List (List Nat)) (R : List Nat) (w : World) (hs : Sound l) (hK0 : K0 ≤ base) (hbw : base ≤ w.heap.size)
    (hP : PAt w pb po l K0) (hB : BI w base U D M (.slice (some ⟨pb, po, none⟩) l.length pc) sv kv sts l Ks nx) (hR : RV w base U D M sv kv sts rv) (hS : Holds w B bd bs l.length R)
    (hap : ∀ k, SF B bd bs k → ¬ BG U D M sv kv sts rv k) (hlim : Ks.length ≤ 20000) (hIK : ∀ K ∈ Ks, ∀ x ∈ K, x < l.length) :
    Calls Tryd.prog 68 #[.pointer (some ⟨U, 0, none⟩), .pointer (some ⟨B, 0, none⟩), rv] w fun e w' => ∃ (n : Nat) (rv' sv' kv' : Value) (S : List SV) (T T' : List (List Nat)), e = .returned (.tuple #[.int .i64 (n : Int), rv']) ∧
      Cached w w' base U D M (.slice (some ⟨pb, po, none⟩) l.length pc) sv kv sts rv l Ks nx (key l R) n rv' sv' kv' S T T' := by
  obtain ⟨m, xs, hown⟩ := hR.own
  obtain ⟨ro, rc, rfl⟩ := ownsRow_form hown
  have hll := hP.len
  have hRl := hS.le
  have u0 : w.cell? ⟨U, 0, none⟩ = some (.pointer (some ⟨D, 0, none⟩)) := block_cell hB.hU rfl
  have hlen := setLen B bd bs l.length R w hS (by omega)
  have HS := Lib.hid hS
  have HP := Lib.hid hP
  have HB := Lib.hid hB
  have HR := Lib.hid hR
  have HAP := Lib.hid hap
  have HSD := Lib.hid hs
  have HIK := Lib.hid hIK
  have HO := Lib.hid hown
  clear hS hP hB hR hap hs hIK hown
  obtain ⟨iu, hiu, hz0, hz1, hz2⟩ := info_parts Tryd.infoUint
  have HI := Lib.hid hiu
  obtain ⟨RF, hRF⟩ : ∃ RF : Nat → Prop, RF = fun k => (Value.slice ro m rc).ownBlock = some k := ⟨_, rfl⟩
  have HRF := Lib.hid hRF
  have hRK : ∀ k, k < K0 → ¬ RF k := fun k hk h => by rw [hRF] at h; have := (HO.out.lt k h).1; omega
  have hRB : ∀ k, BF U D M sv kv sts k → ¬ RF k := fun k hk h => by rw [hRF] at h; exact HR.out.ap k h hk
  have hRS : ∀ k, SF B bd bs k → ¬ RF k := fun k hk h => by rw [hRF] at h; exact HAP.out k hk (Or.inr h)
  have HRK := Lib.hid hRK
  have HRB := Lib.hid hRB
  have HRS := Lib.hid hRS
  clear hiu hRF hRK hRB hRS
  go_enter Tryd.func68, Tryd.ntmps68
  go_upto_if 19 with (fail)
  go_cut [8] (fun v wx => ∃ (ao0 : Option Addr) (c0 : Nat), v = .slice ao0 0 c0 ∧ Hid (Mod RF w wx) ∧ Hid (∀ k, (Value.slice ao0 0 c0).ownBlock = some k → RF k ∨ w.heap.size ≤ k) ∧ Hid (wx.ownsRow base 54 1 (.slice ao0 0 c0) 0 []))
  case first =>
    by_cases hrc : rc = 0
    · have hq : ((rc : Int) == 0) = true := by simp [hrc]
      clear hrc
      go_wp2_with fail
      refine hlen.mono ?_
      rintro e w1 ⟨rfl, rfl⟩
      go_wp2_with (refine wpList_make_own _ rfl _ _ 116 rfl base 54 iu (.int .u64 0) 1 Tryd.underlying116 HI.out hz0 hz1 .i64 .i64 _ R.length rfl rfl rfl (by rw [hz2]; omega) (by unfold maxLen; omega) hbw ?_; intro w1 hown1 hgr1)
      go_meet
      exact ⟨_, _, rfl, Lib.hid ((Mod.refl _ _).grown hgr1 (fun k hk => by cases hk)), Lib.hid fun k hk => by cases hk; exact Or.inr (Nat.le_refl _), Lib.hid hown1⟩
    · have hq : ((rc : Int) == 0) = false := by simp; omega
      clear hrc
      go_wp2_with fail
      go_meet
      refine ⟨_, _, rfl, Lib.hid (Mod.refl _ _), Lib.hid fun k hk => ?_, Lib.hid (by have := ownsRow_cut HO.out (Nat.zero_le m); rwa [Nat.zero_mul, List.take_zero] at this)⟩
      rw [HRF.out]; left
      cases ro with
      | none => cases hk
      | some a => exact hk
  case rest =>
    obtain ⟨ao0, c0, rfl, M1, V1, O1⟩ := hcut
    go_wp2_with fail
    go_loopw [8, 9, 10] (fun iv bv ix wr => ∃ k : Nat, ix = .int .u64 k ∧ k ≤ R.length ∧ bv = .bool (isM l (key l (R.take k))) ∧ Hid (IW w wr base RF iv (key l (R.take k)))) (fun _ _ ix _ => R.length - (intOf ix).toNat)
    case atStart => exact ⟨0, rfl, Nat.zero_le _, rfl, Lib.hid ⟨O1.out, M1.out, V1.out⟩⟩
    case round =>
      obtain ⟨k, rfl, hk, rfl, HW⟩ := hrel
      have HM := Lib.hid HW.out.mod
      obtain ⟨ao, cap, rfl⟩ := ownsRow_form HW.out.own
      have hbr : base ≤ wr.heap.size := Nat.le_trans hbw HM.out.size
      have hB1 := HB.out.mod HM.out HRB.out
      have u1 : wr.cell? ⟨U, 0, none⟩ = some (.pointer (some ⟨D, 0, none⟩)) := block_cell hB1.hU rfl
      have d1 : wr.cell? ⟨D, 0, none⟩ = some (.slice (some ⟨pb, po, none⟩) l.length pc) := block_cell hB1.hD rfl
      have HB1 := Lib.hid hB1
      clear hB1
      have hlen1 := setLen B bd bs l.length R wr (HS.out.mod HM.out HRS.out) (by omega)
      by_cases hlt : k < R.length
      · obtain ⟨x, ex⟩ : ∃ x, R[k]? = some x := ⟨_, List.getElem?_eq_getElem hlt⟩
        have hget := setGet B bd bs l.length R k x wr (HS.out.mod HM.out HRS.out) ex (by omega)
        have hxl : x < l.length := by obtain ⟨_, _, _, h2⟩ := HS.out; exact h2.lt x (List.mem_of_getElem? ex)
        obtain ⟨i, hi⟩ : ∃ i, l[x]? = some i := ⟨_, List.getElem?_eq_getElem hxl⟩
        obtain ⟨b1, o1, hb1, hp0, hI⟩ := (HP.out.mod HM.out HRK.out).at_ x i hi
        obtain ⟨i0, i1, i2, i3, i4, i5⟩ := hI
        obtain ⟨_, _, _, q4⟩ := HSD.out x i hi
        have hkey := key_snoc (l := l) ex
        have htk : takes l x = (i.op == 0 || i.op == 3) := by unfold takes; rw [hi]
        have hmt : matchAt l x = (i.op == 0) := by unfold matchAt; rw [hi]
        have hkl : (key l (R.take k)).length ≤ k := Nat.le_trans (List.length_filter_le _ _) (by rw [List.length_take]; omega)
        have HK := Lib.hid hkey
        have HTK := Lib.hid htk
        have HMT := Lib.hid hmt
        clear hkey htk hmt hi ex
        generalize hke : key l (R.take k) = kk at *
        have HKE := Lib.hid hke
        clear hke
        rcases show i.op = 0 ∨ i.op = 1 ∨ i.op = 2 ∨ i.op = 3 by omega with e0 | e0 | e0 | e0
        all_goals
          have E0 := Lib.hid e0
          rw [e0] at i0
          go_wp2_with fail
          refine hlen1.mono ?_
          rintro e w2 ⟨rfl, rfl⟩
          go_wp2_with fail
          refine hget.mono ?_
          rintro e w2 ⟨rfl, rfl⟩
          go_wp2_with (at_builtin; (first | refine wpList_append_one rfl (.tmp 48) (.tmp 50) 116 rfl base 54 _ 1 8 Tryd.underlying116 Tryd.infoUint rfl (by decide) (by decide) _ _ _ rfl HW.out.own #[.int .u64 (x : Int)] _ _ rfl (by simp) rfl (by simp [Value.oneCell']) (by omega) hbr ?_ | refine wpList_append_one rfl (.tmp 54) (.tmp 56) 116 rfl base 54 _ 1 8 Tryd.underlying116 Tryd.infoUint rfl (by decide) (by decide) _ _ _ rfl HW.out.own #[.int .u64 (x : Int)] _ _ rfl (by simp) rfl (by simp [Value.oneCell']) (by omega) hbr ?_); intro ao5 cap5 w5 hown5 hgr5 hat5; have HX := Lib.hid (HW.out.put hown5 hgr5 hat5); clear hown5 hgr5 hat5)
        · go_roundw
          case rel => exact ⟨k + 1, by go_num, hlt, by rw [HK.out, HTK.out, E0.out]; simp [isM_snoc, HMT.out, E0.out], Lib.hid (by rw [HK.out, HTK.out, E0.out]; exact HX.out)⟩
          case measure => simp [intOf]; omega
        · go_roundw
          case rel => exact ⟨k + 1, by go_num, hlt, by rw [HK.out, HTK.out, E0.out]; simp, Lib.hid (by rw [HK.out, HTK.out, E0.out]; simpa using HW.out)⟩
          case measure => simp [intOf]; omega
        · go_roundw
          case rel => exact ⟨k + 1, by go_num, hlt, by rw [HK.out, HTK.out, E0.out]; simp, Lib.hid (by rw [HK.out, HTK.out, E0.out]; simpa using HW.out)⟩
          case measure => simp [intOf]; omega
        · go_roundw
          case rel => exact ⟨k + 1, by go_num, hlt, by rw [HK.out, HTK.out, E0.out]; simp [isM_snoc, HMT.out, E0.out], Lib.hid (by rw [HK.out, HTK.out, E0.out]; exact HX.out)⟩
          case measure => simp [intOf]; omega
      · obtain rfl : k = R.length := by omega
        rw [List.take_length] at HW
        rw [List.take_length]
        have hk1 : ∀ x ∈ key l R, x < l.length := fun x hx => by obtain ⟨_, _, _, h2⟩ := HS.out; exact h2.lt x (mem_key.mp hx).1
        have hkl : (key l R).length ≤ R.length := List.length_filter_le _ _
        have HK1 := Lib.hid hk1
        clear hk1
        generalize hke : key l R = kk at *
        have HKE := Lib.hid hke
        clear hke
        have HAV : Hid (∀ k, (Value.slice ao kk.length cap).ownBlock = some k → ¬ BF U D M sv kv sts k) := Lib.hid fun k hk hb => by
          rcases HW.out.sub k hk with p | p
          · rw [HRF.out] at p; exact HR.out.ap k p hb
          · have := HB.out.lt hb; omega
        by_cases hk0 : kk.length = 0
        · have hq2 : ((kk.length : Int) == 0) = true := beq_iff_eq.2 (by omega)
          have HK0 := Lib.hid hk0
          clear hk0
          go_wp2_with fail
          refine hlen1.mono ?_
          rintro e w2 ⟨rfl, rfl⟩
          go_wp2_with fail
          go_ret2
          have hkn : kk = [] := List.eq_nil_of_length_eq_zero HK0.out
          refine ⟨0, .slice ao kk.length cap, sv, kv, [], [], [], rfl, ?_, ⟨⟨_, _, HW.out.own⟩, ?_⟩, Or.inl ⟨rfl, rfl⟩, ?_, fun h => absurd rfl h, HM.out.mono fun k _ h => by rw [HRF.out] at h; exact Or.inr h, ?_⟩
          · simpa using HB1.out
          · simpa using HAV.out
          · rw [HKE.out]
            exact Or.inl ⟨hkn, rfl⟩
          · intro k hk
            rcases hk with hk | hk
            · exact Or.inl (Or.inl (by simpa using hk))
            · rcases HW.out.sub k hk with p | p
              · rw [HRF.out] at p; exact Or.inl (Or.inr p)
              · exact Or.inr p
        · have hq2 : ((kk.length : Int) == 0) = false := beq_eq_false_iff_ne.2 (by omega)
          have u2 : wr.cell? ⟨U, 2, none⟩ = some kv := block_cell HB1.out.hU rfl
          have u2f : wr.frozen? ⟨U, 2, none⟩ = false := block_free HB1.out.hU
          obtain ⟨mk, xk, hkv⟩ := HB1.out.hk
          have hkey := key_any base kk (.slice ao kk.length cap) kv mk xk wr hbr (fun x hx => by have := HK1.out x hx; omega) (by omega) (reads_of_owns HW.out.own) (Nat.pos_of_ne_zero hk0)
            (fun k h1 h2 => HAV.out k h2 (Or.inr (Or.inr (Or.inr (Or.inl h1))))) hkv
          have HKEY := Lib.hid hkey
          clear hkey hkv
          go_wp2_with fail
          refine hlen1.mono ?_
          rintro e w2 ⟨rfl, rfl⟩
          go_wp2_with fail
          refine HKEY.out.mono ?_
          rintro e w2 ⟨g, cg, rfl, hg1, hg2, hki, hkm, hkg⟩
          have hU2 : w2.heap[U]? = some (.cells #[.pointer (some ⟨D, 0, none⟩), .map (some M), kv] 143 (0, 0)) := hkm.heap HB1.out.hU (fun h => by have := ty_one HB1.out.tU (HB1.out.tk h); revert this; decide)
          have v2 : w2.cell? ⟨U, 2, none⟩ = some kv := block_cell hU2 rfl
          have v2f : w2.frozen? ⟨U, 2, none⟩ = false := block_free hU2
          have HU2 := Lib.hid hU2
          have HKI := Lib.hid hki
          have HKM := Lib.hid hkm
          have HKG := Lib.hid hkg
          clear hU2 hki hkm hkg
          go_wp2_with fail
          have hU2 := HU2.out
          have hki := HKI.out
          have hkm := HKM.out
          have hkg := HKG.out
          have hne : U ≠ g := fun e => by
            obtain ⟨rest, h1, _⟩ := hki
            have := ty_one (w := w2) ⟨_, _, hU2⟩ (T' := 5) (e ▸ ⟨_, _, h1⟩)
            revert this; decide
          obtain ⟨w3, hw3⟩ : ∃ w3, w3 = w2.setCell ⟨U, 2, none⟩ (.slice (some ⟨g, 0, none⟩) (8 * kk.length : Nat) cg) := ⟨_, rfl⟩
          have hU3 : w3.heap[U]? = some (.cells #[.pointer (some ⟨D, 0, none⟩), .map (some M), .slice (some ⟨g, 0, none⟩) (8 * kk.length : Nat) cg] 143 (0, 0)) := by
            rw [hw3, block_set hU2]; rfl
          have hm23 : Mod (fun k => k = U) w2 w3 := by rw [hw3]; exact (Mod.refl (fun k => k = U) w2).setCell (p := ⟨U, 2, none⟩) (fun _ => rfl) _
          have hkb : ∀ k, kv.ownBlock = some k → ¬ k = U := fun k hk e => by have := ty_one (e ▸ HB1.out.tk hk) HB1.out.tU; revert this; decide
          have hmr3 : Mod (fun k => kv.ownBlock = some k ∨ k = U) wr w3 := (hkm.mono fun k _ h => Or.inl h).trans (hm23.mono fun k _ h => Or.inr h)
          have hki3 : KeyIn w3 g cg kk := by
            obtain ⟨rest, h1, h2⟩ := hki
            exact ⟨rest, hm23.heap h1 (fun e => hne e.symm), h2⟩
          have hB3 : BI w3 base U D M (.slice (some ⟨pb, po, none⟩) l.length pc) sv (.slice (some ⟨g, 0, none⟩) (8 * kk.length : Nat) cg) sts l Ks nx := by
            refine HB1.out.again hmr3 (fun k hk h => ?_) hU3 (hmr3.heap HB1.out.hD ?_) ?_ ⟨_, _, key_own hki3 hg1 hg2⟩ (ownsRow_mod HB1.out.hs hmr3 fun k hk h => ?_)
            · rcases h with h | h
              · rcases HB1.out.nf hk with t | t <;> (have := ty_one t (HB1.out.tk h); revert this; decide)
              · subst h
                rcases HB1.out.nf hk with t | t <;> (have := ty_one t HB1.out.tU; revert this; decide)
            · rintro (h | h)
              · have := ty_one HB1.out.tD (HB1.out.tk h); revert this; decide
              · have := ty_one HB1.out.tD (h ▸ HB1.out.tU); revert this; decide
            · obtain ⟨n0, Dm, h1, ⟨es, clock, hb, rest⟩, h3⟩ := HB1.out.hM
              refine ⟨n0, Dm, h1, ⟨es, clock, hmr3.heap hb ?_, rest⟩, h3⟩
              rintro (h | h)
              · exact HB1.out.tM (HB1.out.tk h)
              · exact HB1.out.tM (T := 143) (h ▸ HB1.out.tU)
            · rcases h with h | h
              · have := ty_one (HB1.out.ts hk) (HB1.out.tk h); revert this; decide
              · subst h; have := ty_one (HB1.out.ts hk) HB1.out.tU; revert this; decide
          have u10 : w3.cell? ⟨U, 0, none⟩ = some (.pointer (some ⟨D, 0, none⟩)) := block_cell hU3 rfl
          have u11 : w3.cell? ⟨U, 1, none⟩ = some (.map (some M)) := block_cell hU3 rfl
          have u12 : w3.cell? ⟨U, 2, none⟩ = some (.slice (some ⟨g, 0, none⟩) (8 * kk.length : Nat) cg) := block_cell hU3 rfl
          have hcv : ∀ n, (convert 49 9 (.slice (some ⟨g, 0, none⟩) (8 * kk.length : Nat) cg)).run Tryd.prog (w3.drewN n) = .ok (.string (keyS kk)) (w3.drewN n) := fun n => by
            rw [run_convert_bytes_string _ _ _ 5 _ _ _ Tryd.underlying49 Tryd.underlying5 Tryd.underlying9]
            exact key_string (w := w3.drewN n) hki3
          have hav3 : ∀ k, (Value.slice ao kk.length cap).ownBlock = some k → ¬ BF U D M sv (.slice (some ⟨g, 0, none⟩) (8 * kk.length : Nat) cg) sts k := by
            intro k hk hb
            rcases hb with h | h | h | h | h | h
            · exact HAV.out k hk (Or.inl h)
            · exact HAV.out k hk (Or.inr (Or.inl h))
            · exact HAV.out k hk (Or.inr (Or.inr (Or.inl h)))
            · have e : g = k := by simpa [Value.ownBlock] using h
              subst e
              rcases hkg with p | p
              · exact HAV.out _ hk (Or.inr (Or.inr (Or.inr (Or.inl p))))
              · have := (HW.out.own.lt _ hk).2; omega
            · exact HAV.out k hk (Or.inr (Or.inr (Or.inr (Or.inr (Or.inl h)))))
            · exact HAV.out k hk (Or.inr (Or.inr (Or.inr (Or.inr (Or.inr h)))))
          have hwv : w3.ownsRow base 54 1 (.slice ao kk.length cap) kk.length (kk.map uV) := ownsRow_mod HW.out.own hmr3 fun k hk h => by
            rcases h with h | h
            · exact HAV.out k hk (Or.inr (Or.inr (Or.inr (Or.inl h))))
            · exact HAV.out k hk (Or.inl h)
          have hsv : ∀ k, (Value.slice ao kk.length cap).ownBlock = some k → BG U D M sv kv sts (Value.slice ro m rc) k ∨ w.heap.size ≤ k := fun k hk => by
            rcases HW.out.sub k hk with p | p
            · rw [HRF.out] at p; exact Or.inl (Or.inr p)
            · exact Or.inr p
          have HAV3 := Lib.hid hav3
          have HWV := Lib.hid hwv
          have HSV := Lib.hid hsv
          obtain ⟨n0, Dm, hn0, hmap, hci⟩ := hB3.hM
          have hkey : keyOf Tryd.prog 9 (.string (keyS kk)) = some (klit kk) := keyOf_key kk (by omega)
          have hlk := fun n => World.ownsMap.look_ok (w := w3.drewN n) hmap lawS (t := 141) (e := 3) Tryd.underlying141 (zeroI _) (plainElem_int (H := Unit) Tryd.underlying3 (a := 0) (by decide)) hkey
          have hsub3 : ∀ k, BF U D M sv (.slice (some ⟨g, 0, none⟩) (8 * kk.length : Nat) cg) sts k → BG U D M sv kv sts (Value.slice ro m rc) k ∨ w.heap.size ≤ k := by
            intro k hk
            rcases hk with h | h | h | h | h | h
            · exact Or.inl (Or.inl (Or.inl h))
            · exact Or.inl (Or.inl (Or.inr (Or.inl h)))
            · exact Or.inl (Or.inl (Or.inr (Or.inr (Or.inl h))))
            · have e : g = k := by simpa [Value.ownBlock] using h
              subst e
              rcases hkg with p | p
              · exact Or.inl (Or.inl (Or.inr (Or.inr (Or.inr (Or.inl p)))))
              · have := HM.out.size; exact Or.inr (by omega)
            · exact Or.inl (Or.inl (Or.inr (Or.inr (Or.inr (Or.inr (Or.inl h))))))
            · exact Or.inl (Or.inl (Or.inr (Or.inr (Or.inr (Or.inr (Or.inr h))))))
          have hmw3 : Mod (BG U D M sv kv sts (Value.slice ro m rc)) w w3 := (HM.out.mono fun k _ h => by rw [HRF.out] at h; exact Or.inr h).trans (hmr3.mono fun k _ h => by
            rcases h with h | h
            · exact Or.inl (Or.inr (Or.inr (Or.inr (Or.inl h))))
            · exact Or.inl (Or.inl h))
          have HB3 := Lib.hid hB3
          have HCI := Lib.hid hci
          have HMAP := Lib.hid hmap
          have HS3 := Lib.hid hsub3
          have HMW3 := Lib.hid hmw3
          have HKI3 := Lib.hid hki3
          have HU3 := Lib.hid hU3
          have HHK := Lib.hid hkey
          rw [← hw3]
          clear hav3 hwv hsv
          clear hB3 hci hmap hsub3 hmw3 hki3 hU3 hw3 hm23 hmr3 hU2 hki hkm hkg v2 v2f hkey
          by_cases hin : kk ∈ Ks
          · obtain ⟨i, hi, hie⟩ := List.getElem_of_mem hin
            have hi' : Ks[i]? = some kk := by rw [List.getElem?_eq_getElem hi, hie]
            obtain ⟨hy1, hy2⟩ := HCI.out.yes i kk hi'
            have hlk2 : ∀ n, (Instr.lookup 141 (.map (some M)) (.string (keyS kk)) true).run Tryd.prog (w3.drewN n) = .ok (.tuple #[.int .i64 ((i : Int) + 1), .bool true]) (w3.drewN n) := fun n => by
              obtain ⟨v, ps, hrun, hv⟩ := hlk n
              rw [hy2] at hv
              obtain ⟨a, rfl, ha, _⟩ := plainElem_int_inv Tryd.underlying3 hv
              simp only [Prod.mk.injEq, DataW.lit.injEq, Lit.int.injEq] at ha
              rw [hrun, hy1, ha.1.2]
            have HI2 := Lib.hid hi'
            clear hlk hy1 hy2 hi' hie
            go_quiet (fail)
            go_wp2_with fail
            go_ret2
            have hmd : ∀ F : Nat → Prop, Mod F w3 (w3.drewN nq) := fun F => Mod.drewN (Mod.refl _ _) nq
            refine ⟨i + 1, .slice ao kk.length cap, sv, .slice (some ⟨g, 0, none⟩) (8 * kk.length : Nat) cg, [], [], [], rfl, ?_, ⟨⟨_, _, ownsRow_mod (F := fun _ => False) HWV.out (hmd _) fun _ _ h => h⟩, ?_⟩, Or.inl ⟨rfl, rfl⟩, ?_, fun h => absurd rfl h, HMW3.out.trans (hmd _), ?_⟩
            · simpa using HB3.out.mod (hmd (fun _ => False)) fun _ _ h => h
            · simpa using HAV3.out
            · rw [HKE.out, List.append_nil]
              exact Or.inr ⟨fun e => hk0 (by rw [e]; rfl), i, HI2.out, rfl⟩
            · intro k hk
              rcases hk with hk | hk
              · exact HS3.out k (by simpa using hk)
              · exact HSV.out k hk
          · have hno := HCI.out.no kk hin (fun x hx => by have := HK1.out x hx; omega)
            have hlk2 : ∀ n, (Instr.lookup 141 (.map (some M)) (.string (keyS kk)) true).run Tryd.prog (w3.drewN n) = .ok (.tuple #[.int .i64 0, .bool false]) (w3.drewN n) := fun n => by
              obtain ⟨v, ps, hrun, hv⟩ := hlk n
              rw [atKey_of_not_has hno] at hv
              obtain ⟨a, rfl, ha, _⟩ := plainElem_int_inv Tryd.underlying3 hv
              simp only [Prod.mk.injEq, DataW.lit.injEq, Lit.int.injEq] at ha
              rw [hrun, hno, ← ha.1.2]
            clear hlk hno
            have HIN := Lib.hid hin
            clear hin
            go_quiet (fail)
            go_wp2_with fail
            obtain ⟨so, sc, hsv⟩ := ownsRow_form HB3.out.hs
            subst hsv
            obtain ⟨wq, hwq⟩ : ∃ wq, wq = w3.drewN nq := ⟨_, rfl⟩
            have hmd : ∀ F : Nat → Prop, Mod F w3 wq := fun F => by rw [hwq]; exact Mod.drewN (Mod.refl _ _) nq
            have hBq := HB3.out.mod (hmd (fun _ => False)) fun _ _ h => h
            have hMq := HMW3.out.trans (hmd _)
            have hwvq := ownsRow_mod HWV.out (hmd (fun _ => False)) fun _ _ h => h
            have hkiq : KeyIn wq g cg kk := by
              obtain ⟨rest, h1, h2⟩ := HKI3.out
              exact ⟨rest, (hmd (fun _ => False)).heap h1 (fun h => h), h2⟩
            have hsq : wq.heap.size = w3.heap.size := by rw [hwq]; rfl
            have HBQ := Lib.hid hBq
            have HMQ := Lib.hid hMq
            have HWQ := Lib.hid hwvq
            have HKQ := Lib.hid hkiq
            have HSQ := Lib.hid hsq
            rw [← hwq]
            clear hwq hmd hBq hMq hwvq hkiq hsq hcv hlk2 u10 u11 u12
            have q0 : wq.cell? ⟨U, 0, none⟩ = some (.pointer (some ⟨D, 0, none⟩)) := block_cell HBQ.out.hU rfl
            have q1 : wq.cell? ⟨D, 1, none⟩ = some (.slice so sts.length sc) := block_cell HBQ.out.hD rfl
            have al0 : ∀ o, (wq.alloc o).cell? ⟨U, 0, none⟩ = some (.pointer (some ⟨D, 0, none⟩)) := fun o => block_cell (block_alloc HBQ.out.hU) rfl
            have al1 : ∀ o, (wq.alloc o).cell? ⟨D, 1, none⟩ = some (.slice so sts.length sc) := fun o => block_cell (block_alloc HBQ.out.hD) rfl
            have ak0 : ∀ k o, ((wq.drewN k).alloc o).cell? ⟨U, 0, none⟩ = some (.pointer (some ⟨D, 0, none⟩)) := fun k o => block_cell (block_alloc (w := wq.drewN k) HBQ.out.hU) rfl
            have ak1 : ∀ k o, ((wq.drewN k).alloc o).cell? ⟨D, 1, none⟩ = some (.slice so sts.length sc) := fun k o => block_cell (block_alloc (w := wq.drewN k) HBQ.out.hD) rfl
            have bl0 : ∀ o o', ((wq.alloc o).alloc o').cell? ⟨U, 0, none⟩ = some (.pointer (some ⟨D, 0, none⟩)) := fun o o' => block_cell (block_alloc (block_alloc HBQ.out.hU)) rfl
            have bl1 : ∀ o o', ((wq.alloc o).alloc o').cell? ⟨D, 1, none⟩ = some (.slice so sts.length sc) := fun o o' => block_cell (block_alloc (block_alloc HBQ.out.hD)) rfl
            have bk0 : ∀ k o o', (((wq.drewN k).alloc o).alloc o').cell? ⟨U, 0, none⟩ = some (.pointer (some ⟨D, 0, none⟩)) := fun k o o' => block_cell (block_alloc (block_alloc (w := wq.drewN k) HBQ.out.hU)) rfl
            have bk1 : ∀ k o o', (((wq.drewN k).alloc o).alloc o').cell? ⟨D, 1, none⟩ = some (.slice so sts.length sc) := fun k o o' => block_cell (block_alloc (block_alloc (w := wq.drewN k) HBQ.out.hD)) rfl
            obtain ⟨Mz, hMz⟩ : ∃ M, M = madeCells #[Value.int .i64 0] 256 := ⟨_, rfl⟩
            have hmk : ∀ W : World, (Instr.makeSlice 51 (.int .i64 256) (.int .i64 256)).run Tryd.prog W = .ok (.slice (some ⟨W.heap.size, 0, none⟩) 256 256) (W.alloc (.cells Mz 3)) := fun W => by
              have h := run_make_row' (P := Tryd.prog) 51 3 (.int .i64 0) 8 Tryd.underlying51 (by kernel_rfl) rfl .i64 .i64 256 (by omega) (by omega) W
              rw [← hMz] at h
              exact h
            have HMZ := Lib.hid hMz
            clear hMz
            obtain ⟨si, hsi, sz0, sz1, sz2⟩ := info_parts Tryd.infoState
            have hst20 : sts.length ≤ 20001 := by have := HBQ.out.hl; omega
            have hbq : base ≤ wq.heap.size := by have := HMQ.out.size; omega
            have ak0 : ∀ k o, ((wq.drewN k).alloc o).cell? ⟨U, 0, none⟩ = some (.pointer (some ⟨D, 0, none⟩)) := fun k o => block_cell (block_alloc (w := wq.drewN k) HBQ.out.hU) rfl
            have hDU : D ≠ U := fun e => by have h1 := HBQ.out.tD; rw [e] at h1; have := ty_one h1 HBQ.out.tU; revert this; decide
            go_cut [] (fun wx => ∃ (g7 cap7 : Nat) (w7 : World), wx = w7.setCell ⟨D, 1, none⟩ (.slice (some ⟨g7, 0, none⟩) (sts.length + 1) cap7) ∧ Hid (w7.ownsRow base 145 3 (.slice (some ⟨g7, 0, none⟩) (sts.length + 1) cap7) (sts.length + 1) (sts.flatMap SV.cells ++ [.slice ao kk.length cap, .slice (some ⟨wq.heap.size, 0, none⟩) 256 256, .bool (isM l kk)])) ∧ Hid (Mod (fun k => (Value.slice so sts.length sc).ownBlock = some k) wq w7) ∧ Hid (w7.heap[wq.heap.size]? = some (.cells Mz 3 (0, 0))) ∧ Hid ((Value.slice so sts.length sc).ownBlock = some g7 ∨ g7 = wq.heap.size + 2))
            case first =>
              go_region_law (first
                | (refine step_append_lies _ rfl (.tmp 97) (.tmp 102) 138 rfl base 145 si (.agg #[.slice none 0 0, .slice none 0 0, .bool false]) 3 56 Tryd.underlying138 hsi sz0 sz1 sz2 rfl (by decide) (.slice so sts.length sc) sts.length (sts.flatMap SV.cells) (by simp [Act.eval, Act.put]) ((HBQ.out.hs.alloc _).alloc _) ⟨wq.heap.size + 1, 0, none⟩ 1 1 [.slice ao kk.length cap, .slice (some ⟨wq.heap.size, 0, none⟩) 256 256, .bool (isM l kk)] (by simp [Act.eval, Act.put]) rfl (World.news_of_block (heap_alloc_at _ _ _ (by simp))) (by simp [Value.oneCell']) (by omega) (by unfold maxLen; omega) (by omega) (by simp; omega) (wq.heap.size + 2) (by simp) ?_
                   intro g7 cap7 w7 hown7 hgr7 hat7 hlt7
                   have hm7 : Mod (fun k => (Value.slice so sts.length sc).ownBlock = some k) wq w7 := (Mod.drewN (Mod.alloc (Mod.alloc (Mod.refl _ wq) _) _) 1).grown hgr7 (fun k hk _ => hk)
                   have hD7 : w7.heap[D]? = some (.cells #[.slice (some ⟨pb, po, none⟩) l.length pc, .slice so sts.length sc] 140 (0, 0)) := hm7.heap HBQ.out.hD (fun h => by have := ty_one HBQ.out.tD (HBQ.out.ts h); revert this; decide)
                   have hnb7 : w7.heap[wq.heap.size]? = some (.cells Mz 3 (0, 0)) := (hgr7.block wq.heap.size (by simp; omega) (fun e => by have := ty_lt (HBQ.out.ts e.symm); omega)).trans (block_alloc (heap_alloc_new wq _))
                   have hU7 := hm7.heap HBQ.out.hU (fun h => by have := ty_one HBQ.out.tU (HBQ.out.ts h); revert this; decide)
                   have u7 : w7.cell? ⟨U, 0, none⟩ = some (.pointer (some ⟨D, 0, none⟩)) := block_cell hU7 rfl
                   have d7 : w7.cell? ⟨D, 1, none⟩ = some (.slice so sts.length sc) := block_cell hD7 rfl
                   have f7 : w7.frozen? ⟨D, 1, none⟩ = false := block_free hD7
                   have HX7 := Lib.hid (And.intro hown7 (And.intro hm7 (And.intro hnb7 hat7)))
                   clear hown7 hgr7 hat7 hlt7 hm7 hD7 hnb7 hU7))
              all_goals
                (try go_wp2_with fail)
                go_meet
                exact ⟨g7, cap7, w7, rfl, Lib.hid HX7.out.1, Lib.hid HX7.out.2.1, Lib.hid HX7.out.2.2.1, Lib.hid HX7.out.2.2.2⟩
            case rest =>
              obtain ⟨g7, cap7, w7, hwc, HO7, HM7, HN7, HA7⟩ := hcut
              have hown7 := HO7.out
              have hm7 := HM7.out
              have hnb7 := HN7.out
              have hat7 := HA7.out
              have hD7 : w7.heap[D]? = some (.cells #[.slice (some ⟨pb, po, none⟩) l.length pc, .slice so sts.length sc] 140 (0, 0)) := hm7.heap HBQ.out.hD (fun h => by have := ty_one HBQ.out.tD (HBQ.out.ts h); revert this; decide)
              obtain ⟨w8, hw8⟩ : ∃ w8, w8 = w7.setCell ⟨D, 1, none⟩ (.slice (some ⟨g7, 0, none⟩) (sts.length + 1) cap7) := ⟨_, rfl⟩
              rw [hwc, ← hw8]
              clear hwc
              have hm8 : Mod (fun k => k = D) w7 w8 := by rw [hw8]; exact (Mod.refl (fun k => k = D) w7).setCell (p := ⟨D, 1, none⟩) (fun _ => rfl) _
              have hD8 : w8.heap[D]? = some (.cells #[.slice (some ⟨pb, po, none⟩) l.length pc, .slice (some ⟨g7, 0, none⟩) (sts.length + 1) cap7] 140 (0, 0)) := by rw [hw8, block_set hD7]; rfl
              have hmq8 : Mod (fun k => (Value.slice so sts.length sc).ownBlock = some k ∨ k = D) wq w8 := (hm7.mono fun k _ h => Or.inl h).trans (hm8.mono fun k _ h => Or.inr h)
              have hU8 := hmq8.heap HBQ.out.hU (by
                rintro (h | h)
                · have := ty_one HBQ.out.tU (HBQ.out.ts h); revert this; decide
                · have := ty_one HBQ.out.tU (h ▸ HBQ.out.tD); revert this; decide)
              have hS8 : w8.ownsRow base 145 3 (.slice (some ⟨g7, 0, none⟩) (sts.length + 1) cap7) (sts.length + 1) ((sts ++ [SV.mk (.slice ao kk.length cap) wq.heap.size (isM l kk)]).flatMap SV.cells) := by
                have := ownsRow_mod hown7 hm8 fun k hk h => by
                  subst h
                  have t1 := ty_own hown7 hk
                  have := ty_one t1 (show Ty w7 k 140 from ⟨_, _, hD7⟩)
                  revert this; decide
                simpa [SV.cells] using this
              have hN8 : w8.heap[wq.heap.size]? = some (.cells Mz 3 (0, 0)) := hm8.heap hnb7 (fun e => by have := ty_lt HBQ.out.tD; omega)
              have hkq8 : KeyIn w8 g cg kk := by
                obtain ⟨rest, h1, h2⟩ := HKQ.out
                refine ⟨rest, hmq8.heap h1 ?_, h2⟩
                rintro (h | h)
                · have := ty_one (show Ty wq g 5 from ⟨_, _, h1⟩) (HBQ.out.ts h); revert this; decide
                · have := ty_one (show Ty wq g 5 from ⟨_, _, h1⟩) (h ▸ HBQ.out.tD); revert this; decide
              have hiv8 : w8.ownsRow base 54 1 (.slice ao kk.length cap) kk.length (kk.map uV) := ownsRow_mod HWQ.out hmq8 fun k hk h => by
                rcases h with h | h
                · exact HAV3.out k hk (Or.inr (Or.inr (Or.inr (Or.inr (Or.inl h)))))
                · exact HAV3.out k hk (Or.inr (Or.inl h))
              obtain ⟨n0, Dm, hn0, hmap, hci⟩ := HBQ.out.hM
              have hmap8 : w8.ownsMap Tryd.prog 9 (plainElem Tryd.prog 3) M n0 Dm := by
                obtain ⟨es, clock, hb, rest⟩ := hmap
                refine ⟨es, clock, hmq8.heap hb ?_, rest⟩
                rintro (h | h)
                · exact HBQ.out.tM (HBQ.out.ts h)
                · exact HBQ.out.tM (T := 140) (h ▸ HBQ.out.tD)
              have v0 : w8.cell? ⟨U, 0, none⟩ = some (.pointer (some ⟨D, 0, none⟩)) := block_cell hU8 rfl
              have v1 : w8.cell? ⟨U, 1, none⟩ = some (.map (some M)) := block_cell hU8 rfl
              have v2 : w8.cell? ⟨U, 2, none⟩ = some (.slice (some ⟨g, 0, none⟩) (8 * kk.length : Nat) cg) := block_cell hU8 rfl
              have v3 : w8.cell? ⟨D, 1, none⟩ = some (.slice (some ⟨g7, 0, none⟩) (sts.length + 1) cap7) := block_cell hD8 rfl
              have hcv8 : ∀ n, (convert 49 9 (.slice (some ⟨g, 0, none⟩) (8 * kk.length : Nat) cg)).run Tryd.prog (w8.drewN n) = .ok (.string (keyS kk)) (w8.drewN n) := fun n => by
                rw [run_convert_bytes_string _ _ _ 5 _ _ _ Tryd.underlying49 Tryd.underlying5 Tryd.underlying9]
                exact key_string (w := w8.drewN n) hkq8
              have H8 := Lib.hid (And.intro hmq8 (And.intro hU8 (And.intro hD8 (And.intro hS8 (And.intro hN8 (And.intro hkq8 (And.intro hiv8 (And.intro hmap8 (And.intro hn0 (And.intro hci hat7))))))))))
              have hcvd : (convert 49 9 (.slice (some ⟨g, 0, none⟩) (8 * kk.length : Nat) cg)).run Tryd.prog w8.drew = .ok (.string (keyS kk)) w8.drew := hcv8 1
              have hn20 : n0 ≤ 20000 := by omega
              have hst20' : (sts.length : Int) ≤ 20001 := by omega
              clear hown7 hm7 hD7 hnb7 hat7 hm8 hD8 hmq8 hU8 hS8 hN8 hkq8 hiv8 hmap8 hmap hci hw8 hcv8
              go_wp2_with fail
              go_still_tail 10, (by kernel_rfl)
              change wpList _ _ _ _ _ w8.drew
              go_wp2_with (at_mapUpdate; refine wpList_mapUpdate_own _ rfl _ _ _ 141 rfl 9 3 lawS Tryd.underlying141 (plainElem Tryd.prog 3) M n0 Dm rfl H8.out.2.2.2.2.2.2.2.1.drew (by unfold maxLen; omega) _ _ (klit kk) rfl rfl HHK.out (.lit (.int .i64 (sts.length : Int))) [] (plainElem_int Tryd.underlying3 (WalkArith.wf_i64 (by omega))) ?_; intro w9 hown9 hgr9)
              have H9 := Lib.hid (And.intro hown9 hgr9)
              clear hown9 hgr9
              go_wp2_with fail
              go_ret2
              obtain ⟨hmq8, hU8, hD8, hS8, hN8, hkq8, hiv8, hmap8, _, hci, hat7⟩ := H8.out
              obtain ⟨hown9, hgr9⟩ := H9.out
              have hm9 : Mod (fun k => k = M) w8 w9 := (Mod.drewN (Mod.refl (fun k => k = M) w8) 1).grown hgr9 (fun k hk _ => (Option.some.inj hk).symm)
              have hMt : ∀ {T : TypeId}, ¬ Ty w8 M T := by
                rintro T ⟨c, fr, h⟩
                obtain ⟨es, clock, hb, _⟩ := hmap8
                rw [hb] at h; cases h
              have hq9 : Mod (fun k => ((Value.slice so sts.length sc).ownBlock = some k ∨ k = D) ∨ k = M) wq w9 := (hmq8.mono fun k _ h => Or.inl h).trans (hm9.mono fun k _ h => Or.inr h)
              have hlq : sts.length = Ks.length + 1 := HBQ.out.hl
              have hkn : kk ≠ [] := fun e => hk0 (by rw [e]; rfl)
              have hk64 : ∀ x ∈ kk, x < 18446744073709551616 := fun x hx => by have := HK1.out x hx; omega
              have hks64 : ∀ L ∈ Ks, ∀ x ∈ L, x < 18446744073709551616 := fun L hL x hx => by have := HIK.out L hL x hx; omega
              have hput := hci.put hks64 hk64 HIN.out
              have hcast : ((Ks.length : Int) + 1) = (sts.length : Int) := by omega
              rw [hcast] at hput
              refine ⟨sts.length, .slice none 0 0, .slice (some ⟨g7, 0, none⟩) (sts.length + 1) cap7, .slice (some ⟨g, 0, none⟩) (8 * kk.length : Nat) cg, [SV.mk (.slice ao kk.length cap) wq.heap.size (isM l kk)], [kk], [List.replicate 256 0], rfl, ?_, ⟨⟨0, [], World.ownsRow_nil _ _ _ _⟩, fun k hk => by cases hk⟩, Or.inr ?_, ?_, fun _ => hlq, ?_, ?_⟩
              · refine HBQ.out.more hq9 (fun k hk h => ?_) (hm9.heap hU8 (fun e => hMt (T := 143) (e ▸ ⟨_, _, hU8⟩))) (hm9.heap hD8 (fun e => hMt (T := 140) (e ▸ ⟨_, _, hD8⟩))) ⟨n0 + 1, _, by omega, hown9, hput⟩ ⟨_, _, key_own (show KeyIn w9 g cg kk from ?_) ?_ ?_⟩ ?_ rfl ?_ ?_ (Nat.le_refl _) hbq
                · rcases h with (h | h) | h
                  · rcases HBQ.out.nf hk with t | t <;> (have := ty_one t (HBQ.out.ts h); revert this; decide)
                  · subst h
                    rcases HBQ.out.nf hk with t | t <;> (have := ty_one t HBQ.out.tD; revert this; decide)
                  · subst h
                    rcases HBQ.out.nf hk with t | t <;> exact HBQ.out.tM t
                · obtain ⟨rest, h1, h2⟩ := hkq8
                  exact ⟨rest, hm9.heap h1 (fun e => hMt (T := 5) (e ▸ ⟨_, _, h1⟩)), h2⟩
                · exact hg1
                · exact hg2
                · exact ownsRow_mod hS8 hm9 fun k hk h => hMt (h ▸ ty_own hS8 hk)
                · exact ownsRow_mod hiv8 hm9 fun k hk h => hMt (h ▸ ty_own hiv8 hk)
                · have h1 := hm9.heap hN8 (fun e => hMt (T := 3) (e ▸ ⟨_, _, hN8⟩))
                  rw [HMZ.out, made_iN] at h1
                  exact h1
              · exact ⟨by rw [HKE.out], rfl, by rw [HKE.out]; exact hkn, by rw [HKE.out]; exact HIN.out⟩
              · rw [HKE.out]
                exact Or.inr ⟨hkn, Ks.length, by simp, hlq⟩
              · refine HMQ.out.trans (hq9.mono fun k _ h => ?_)
                rcases h with (h | h) | h
                · exact Or.inl (Or.inr (Or.inr (Or.inr (Or.inr (Or.inl h)))))
                · exact Or.inl (Or.inr (Or.inl h))
                · exact Or.inl (Or.inr (Or.inr (Or.inl h)))
              · have hwq : w.heap.size ≤ wq.heap.size := HMQ.out.size
                intro k hk
                rcases hk with hk | hk
                · rcases hk with h | h | h | h | h | ⟨s1, hs1, h⟩
                  · exact HS3.out k (Or.inl h)
                  · exact HS3.out k (Or.inr (Or.inl h))
                  · exact HS3.out k (Or.inr (Or.inr (Or.inl h)))
                  · exact HS3.out k (Or.inr (Or.inr (Or.inr (Or.inl h))))
                  · have e : g7 = k := by simpa [Value.ownBlock] using h
                    subst e
                    rcases hat7 with h | h
                    · exact HS3.out _ (Or.inr (Or.inr (Or.inr (Or.inr (Or.inl h)))))
                    · exact Or.inr (by omega)
                  · rcases List.mem_append.mp hs1 with p | p
                    · exact HS3.out k (Or.inr (Or.inr (Or.inr (Or.inr (Or.inr ⟨s1, p, h⟩)))))
                    · rw [List.mem_singleton.mp p] at h
                      rcases h with h | h
                      · exact HSV.out k h
                      · exact Or.inr (by simp only at h; omega)
                · cases hk
end Go.Proofs.YtnpchkohfomagaaDoor.Rgw
