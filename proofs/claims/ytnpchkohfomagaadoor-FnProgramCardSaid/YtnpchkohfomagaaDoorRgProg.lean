/- The spec's own programs: spec.Program. -/
import Derived.Test.YtnpchkohfomagaaDoorRgSpec
namespace Go.Proofs.YtnpchkohfomagaaDoor.Rgw
open Go.ChangeShapes Go.WideShapes Go.ChangeAt Go.RowKit Go.Trav Go.Rg
set_option linter.unusedVariables false
set_option linter.unusedSimpArgs false
set_option maxRecDepth 100000
def rawC (x : Raw) : List Value := [.int .i64 x.op, .int .u64 (x.to : Int), .int .u64 (x.a : Int), .int .u64 (x.b : Int), .int .u8 (x.lo : Int), .int .u8 (x.hi : Int)]
theorem rawC_len (x : Raw) : (rawC x).length = 6 := rfl
theorem at4_any (x : Int) (w : World) : Calls Tryd.prog 31 #[.int .i64 x, .int .i64 4] w fun e w' => e = .returned (.int .i64 (kind4 x : Int)) ∧ w = w' := by
  have hy : 0 ≤ IntKind.u64.wrap x := by
    simp only [IntKind.wrap, IntKind.bits, IntKind.signed]
    simp
    exact Int.emod_nonneg _ (by decide)
  have hk : wrap64 ((IntKind.u64.wrap x).tmod 4) = (kind4 x : Int) := by
    rw [Int.tmod_eq_emod_of_nonneg hy]
    have e : IntKind.u64.wrap x = x % 18446744073709551616 := by
      simp only [IntKind.wrap, IntKind.bits, IntKind.signed]
      simp
    rw [e]
    unfold kind4 wrap64
    omega
  have HK := Lib.hid hk
  clear hk hy
  go_enter Tryd.func31, Tryd.ntmps31
  go_wp2_with fail
  go_ret
  exact ⟨by rw [← HK.out]; rfl, rfl⟩
structure Cells6 (w : World) (b o : Nat) (x : Raw) : Prop where
  c0 : w.cell? ⟨b, o, none⟩ = some (.int .i64 x.op)
  c1 : w.cell? ⟨b, o + 1, none⟩ = some (.int .u64 (x.to : Int))
  c2 : w.cell? ⟨b, o + 2, none⟩ = some (.int .u64 (x.a : Int))
  c3 : w.cell? ⟨b, o + 3, none⟩ = some (.int .u64 (x.b : Int))
  c4 : w.cell? ⟨b, o + 4, none⟩ = some (.int .u8 (x.lo : Int))
  c5 : w.cell? ⟨b, o + 5, none⟩ = some (.int .u8 (x.hi : Int))
theorem raw_cells {w : World} {ao : Option Addr} {n c : Nat} {l : List Raw} {k : Nat} {i : Raw} (h : Reads w (.slice ao n c) n 6 (l.flatMap rawC)) (hk : l[k]? = some i) :
    ∃ b o, ao = some ⟨b, o, none⟩ ∧ Cells6 w b (o + k * 6) i := by
  obtain ⟨ao', cap, e, h1, h2, h3, h4, h5⟩ := h
  have hl : l.length * 6 = n * 6 := by rw [← h4, flatMap_len rawC 6 rawC_len]
  have hkl := (List.getElem?_eq_some_iff.mp hk).1
  obtain ⟨b', o', e', hc⟩ := h5 (by rw [h4]; omega)
  cases e
  have key : ∀ j v, j < 6 → (rawC i)[j]? = some v → w.cell? ⟨b', o' + (k * 6 + j), none⟩ = some v := fun j v hj hv => hc _ _ (by rw [flatMap_at rawC 6 rawC_len l k j hj i hk]; exact hv)
  refine ⟨b', o', e', key 0 _ (by omega) rfl, ?_, ?_, ?_, ?_, ?_⟩
  · rw [Nat.add_assoc]; exact key 1 _ (by omega) rfl
  · rw [Nat.add_assoc]; exact key 2 _ (by omega) rfl
  · rw [Nat.add_assoc]; exact key 3 _ (by omega) rfl
  · rw [Nat.add_assoc]; exact key 4 _ (by omega) rfl
  · rw [Nat.add_assoc]; exact key 5 _ (by omega) rfl
theorem Cells6.below {w w' : World} {b o : Nat} {x : Raw} (h : Cells6 w b o x) (hb : Below w.heap.size w w') : Cells6 w' b o x :=
  have key : ∀ {j : Nat} {v : Value}, w.cell? ⟨b, j, none⟩ = some v → w'.cell? ⟨b, j, none⟩ = some v := fun h => by rw [hb.cell (World.block_lt_of_cell? w _ h)]; exact h
  ⟨key h.c0, key h.c1, key h.c2, key h.c3, key h.c4, key h.c5⟩
theorem Tryd.infoInst : (Tryd.prog.info? 60).map (fun i => (i.zero, i.size, i.bytes)) = some (some (.agg #[.int .i64 0, .int .u64 0, .int .u64 0, .int .u64 0, .int .u8 0, .int .u8 0]), 6, 40) := by kernel_rfl
theorem idx4 (q : Nat) (h : q < 4) (W : World) : (Instr.index 61 (.agg #[.int .i64 0, .int .i64 1, .int .i64 2, .int .i64 3]) (.int .i64 (q : Int))).run Tryd.prog W = .ok (.int .i64 (q : Int)) W := by
  rcases show q = 0 ∨ q = 1 ∨ q = 2 ∨ q = 3 by omega with rfl | rfl | rfl | rfl
  all_goals kernel_rfl
theorem prog_put {w wr w5 : World} {raw : List Raw} {k : Nat} {x : Raw} {u6 v' : Value} {qi t a b : Int} {O O2 : Obj} (hx : raw[k]?.getD Raw.zero = x) (hq : ((opOf (size30 raw) k x.op : Nat) : Int) = qi)
    (HO : wr.ownsRow w.heap.size 60 6 u6 k ((prgTo raw k).flatMap inC)) (HB : Below w.heap.size w wr)
    (hown : w5.ownsRow w.heap.size 60 6 v' (k + 1) ((prgTo raw k).flatMap inC ++ (#[.int .i64 qi, .int .u64 t, .int .u64 a, .int .u64 b, .int .u8 (x.lo : Int), .int .u8 (x.hi : Int)] : Array Value).toList))
    (hgr : ((wr.alloc O).drew.alloc O2).grownBy w5 u6.ownBlock) (ht : ((x.to % size30 raw : Nat) : Int) = t) (ha : ((x.a % size30 raw : Nat) : Int) = a) (hb : ((x.b % size30 raw : Nat) : Int) = b) : w5.ownsRow w.heap.size 60 6 v' (k + 1) ((prgTo raw (k + 1)).flatMap inC) ∧ Below w.heap.size w w5 := by
  refine ⟨?_, ?_⟩
  · rw [prgTo_succ, hx, List.flatMap_append]
    subst hq ht ha hb
    simpa [fix, inC] using hown
  · have hm : Mod (fun k => u6.ownBlock = some k) wr w5 := ((((Mod.refl _ wr).alloc O).trans ⟨rfl, rfl, rfl, Nat.le_refl _, fun _ _ _ => rfl⟩ : Mod (fun k => u6.ownBlock = some k) wr (wr.alloc O).drew).alloc O2).grown hgr fun k hk _ => hk
    exact HB.trans (hm.toBelow HB.size fun k _ hk => (HO.lt k hk).1)
set_option maxHeartbeats 4000000 in
theorem program_any (raw : List Raw) (v : Value) (w : World) (h : Reads w v raw.length 6 (raw.flatMap rawC)) (hl : raw.length ≤ 65536) :
    Calls Tryd.prog 9 #[v, .int .i64 30] w fun e w' => ∃ v', e = .returned v' ∧ w'.ownsRow w.heap.size 60 6 v' (prg raw).length ((prg raw).flatMap inC) ∧ Below w.heap.size w w' := by
  obtain ⟨ao, cap, rfl⟩ := h.form
  obtain ⟨n, hn⟩ : ∃ n, n = size30 raw := ⟨_, rfl⟩
  have H := Lib.hid h
  have HN := Lib.hid hn
  clear h hn
  go_enter Tryd.func9, Tryd.ntmps9
  have hp := size30_le raw
  have hp := size30_le raw
  have hcases : (raw.length ≤ 30 ∧ 1 < raw.length ∧ size30 raw = raw.length) ∨ (raw.length ≤ 30 ∧ ¬ 1 < raw.length ∧ size30 raw = 1) ∨ (¬ raw.length ≤ 30 ∧ size30 raw = 30) := by unfold size30; omega
  have HP := Lib.hid hp
  clear hp
  have hin0 : 0 < raw.length → ∃ b o, ao = some ⟨b, o, none⟩ := fun h0 => by
    obtain ⟨b, o, e, _⟩ := raw_cells (k := 0) H.out (List.getElem?_eq_getElem h0)
    exact ⟨_, _, e⟩
  have HIN : Hid (0 < raw.length → ∀ k, k < size30 raw → k < raw.length) := Lib.hid fun h0 k h => by omega
  have hz : ∀ (k : Nat) (Y : Int), Y = (size30 raw : Int) - 1 → ((k : Int) == Y) = decide (k + 1 = size30 raw) := fun k Y hY => by
    subst hY
    by_cases e : k + 1 = size30 raw
    · rw [decide_eq_true e]; have : (k : Int) = (size30 raw : Int) - 1 := by omega
      simp [this]
    · rw [decide_eq_false e]; have : ¬ (k : Int) = (size30 raw : Int) - 1 := by omega
      simp [this]
  by_cases hpos : 0 < raw.length
  · obtain ⟨b, o, rfl⟩ := hin0 hpos
    have HPO := Lib.hid hpos
    clear hin0
    rcases hcases with ⟨h30, h1, hN⟩ | ⟨h30, h1, hN⟩ | ⟨h30, hN⟩
    · have HE : Hid ((raw.length : Int) = (size30 raw : Int)) := Lib.hid (by rw [hN])
      have HZ : Hid (∀ k : Nat, ((k : Int) == (raw.length : Int) - 1) = decide (k + 1 = size30 raw)) := Lib.hid fun k => hz k _ (by rw [hN])
      clear hN hz hpos
      go_wp2_with fail
      go_loopw [6, 7] (fun ov iv wr => ∃ k : Nat, iv = .int .i64 k ∧ k ≤ size30 raw ∧ Hid (wr.ownsRow w.heap.size 60 6 ov k ((prgTo raw k).flatMap inC)) ∧ Hid (Below w.heap.size w wr)) (fun _ iv _ => size30 raw - (intOf iv).toNat)
      case atStart => exact ⟨0, rfl, Nat.zero_le _, Lib.hid (World.ownsRow_nil _ _ _ _), Lib.hid (Below.refl _ _)⟩
      case round =>
        obtain ⟨k, rfl, hk, HO, HB⟩ := hrel
        by_cases hlt : k < size30 raw
        · have h5 := Int.lt_of_lt_of_le (Int.ofNat_lt.mpr hlt) (Int.le_of_eq HE.out.symm)
          have hin : k < raw.length := HIN.out HPO.out k hlt
          obtain ⟨x, hx⟩ : ∃ x, raw[k]? = some x := ⟨_, List.getElem?_eq_getElem hin⟩
          obtain ⟨b', o', e', hc⟩ := raw_cells (H.out.below HB.out) hx
          cases e'
          have hcA := fun O => hc.below (w' := wr.alloc O) ((Below.refl _ _).alloc (Nat.le_refl _) _)
          have c0 := fun O => (hcA O).c0
          have c1 := fun O => (hcA O).c1
          have c2 := fun O => (hcA O).c2
          have c3 := fun O => (hcA O).c3
          have c4 := fun O => (hcA O).c4
          have c5 := fun O => (hcA O).c5
          have hbl : b < wr.heap.size := World.block_lt_of_cell? wr _ hc.c0
          have HX := Lib.hid hx
          have HS2 := fun O : Obj => show w.heap.size ≤ (wr.alloc O).drew.heap.size from by have := HB.out.size; simp; omega
          have HO2 := fun O : Obj => Lib.hid (show (wr.alloc O).drew.ownsRow w.heap.size 60 6 u6 k ((prgTo raw k).flatMap inC) from HO.out.alloc O)
          clear hx hcA hc
          go_wp2_with fail
          refine (at4_any _ _).mono ?_
          rintro e w2 ⟨rfl, rfl⟩
          have hk4 := kind4_lt x.op
          obtain ⟨q, hq⟩ : ∃ q, kind4 x.op = q := ⟨_, rfl⟩
          rw [hq] at hk4
          rw [hq]
          have HQ := Lib.hid hq
          clear hq
          have hix := fun W => idx4 q hk4 W
          have h6 := HZ.out k
          by_cases hlast : k + 1 = size30 raw
          · rw [decide_eq_true hlast] at h6
            have HLA := Lib.hid hlast
            clear hlast
            by_cases h3 : q = 3
            · have h7 : ((q : Int) == 3) = true := by subst h3; rfl
              have H3 := Lib.hid h3
              clear h3
              go_wp2_with fail
              go_region
              go_wp2_with (at_builtin; refine wpList_append_one rfl (.tmp 62) (.tmp 64) 22 rfl w.heap.size 60 _ 6 40 Tryd.underlying22 Tryd.infoInst rfl (by decide) (by decide) u6 k _ rfl (HO2 _).out _ _ _ rfl (by simp) rfl (by simp [Value.oneCell']) (by omega) (HS2 _) ?_; intro ao5 cap5 w5 hown5 hgr5 hat5; have HY := Lib.hid (prog_put (by rw [HX.out]; rfl) (by unfold opOf; rw [if_pos ⟨by have := HLA.out; omega, by rw [HQ.out]; exact H3.out⟩]; rfl) HO.out HB.out hown5 hgr5 (by have := HE.out; first | (rw [this]; rfl) | (rw [show size30 raw = 1 by omega, Nat.mod_one]; rfl)) (by have := HE.out; first | (rw [this]; rfl) | (rw [show size30 raw = 1 by omega, Nat.mod_one]; rfl)) (by have := HE.out; first | (rw [this]; rfl) | (rw [show size30 raw = 1 by omega, Nat.mod_one]; rfl))); clear hown5 hgr5 hat5)
              go_roundw
              case rel => exact ⟨k + 1, by go_num, hlt, Lib.hid HY.out.1, Lib.hid HY.out.2⟩
              case measure => simp [intOf]; omega
            · have h7 : ((q : Int) == 3) = false := by have : ¬ (q : Int) = 3 := by omega
                                                       simp [this]
              have H3 := Lib.hid h3
              clear h3
              go_wp2_with fail
              go_region
              go_wp2_with (at_builtin; refine wpList_append_one rfl (.tmp 62) (.tmp 64) 22 rfl w.heap.size 60 _ 6 40 Tryd.underlying22 Tryd.infoInst rfl (by decide) (by decide) u6 k _ rfl (HO2 _).out _ _ _ rfl (by simp) rfl (by simp [Value.oneCell']) (by omega) (HS2 _) ?_; intro ao5 cap5 w5 hown5 hgr5 hat5; have HY := Lib.hid (prog_put (by rw [HX.out]; rfl) (by unfold opOf; rw [if_neg (fun e => H3.out (by rw [← HQ.out]; exact e.2)), HQ.out]) HO.out HB.out hown5 hgr5 (by have := HE.out; first | (rw [this]; rfl) | (rw [show size30 raw = 1 by omega, Nat.mod_one]; rfl)) (by have := HE.out; first | (rw [this]; rfl) | (rw [show size30 raw = 1 by omega, Nat.mod_one]; rfl)) (by have := HE.out; first | (rw [this]; rfl) | (rw [show size30 raw = 1 by omega, Nat.mod_one]; rfl))); clear hown5 hgr5 hat5)
              go_roundw
              case rel => exact ⟨k + 1, by go_num, hlt, Lib.hid HY.out.1, Lib.hid HY.out.2⟩
              case measure => simp [intOf]; omega
          · rw [decide_eq_false hlast] at h6
            have HLA := Lib.hid hlast
            clear hlast
            go_wp2_with fail
            go_region
            go_wp2_with (at_builtin; refine wpList_append_one rfl (.tmp 62) (.tmp 64) 22 rfl w.heap.size 60 _ 6 40 Tryd.underlying22 Tryd.infoInst rfl (by decide) (by decide) u6 k _ rfl (HO2 _).out _ _ _ rfl (by simp) rfl (by simp [Value.oneCell']) (by omega) (HS2 _) ?_; intro ao5 cap5 w5 hown5 hgr5 hat5; have HY := Lib.hid (prog_put (by rw [HX.out]; rfl) (by unfold opOf; rw [if_neg (fun e => HLA.out (by have := e.1; have := HP.out; omega)), HQ.out]) HO.out HB.out hown5 hgr5 (by have := HE.out; first | (rw [this]; rfl) | (rw [show size30 raw = 1 by omega, Nat.mod_one]; rfl)) (by have := HE.out; first | (rw [this]; rfl) | (rw [show size30 raw = 1 by omega, Nat.mod_one]; rfl)) (by have := HE.out; first | (rw [this]; rfl) | (rw [show size30 raw = 1 by omega, Nat.mod_one]; rfl))); clear hown5 hgr5 hat5)
            go_roundw
            case rel => exact ⟨k + 1, by go_num, hlt, Lib.hid HY.out.1, Lib.hid HY.out.2⟩
            case measure => simp [intOf]; omega
        · obtain rfl : k = size30 raw := by omega
          have h8 := Int.not_lt.mpr (Int.le_of_eq HE.out)
          go_wp2_with fail
          go_ret
          exact ⟨_, rfl, by rw [prg_len]; exact HO.out, HB.out⟩
    · have HE : Hid ((1 : Int) = (size30 raw : Int)) := Lib.hid (by rw [hN]; rfl)
      have HZ : Hid (∀ k : Nat, ((k : Int) == 0) = decide (k + 1 = size30 raw)) := Lib.hid fun k => hz k _ (by rw [hN]; rfl)
      clear hN hz hpos
      go_wp2_with fail
      go_loopw [6, 7] (fun ov iv wr => ∃ k : Nat, iv = .int .i64 k ∧ k ≤ size30 raw ∧ Hid (wr.ownsRow w.heap.size 60 6 ov k ((prgTo raw k).flatMap inC)) ∧ Hid (Below w.heap.size w wr)) (fun _ iv _ => size30 raw - (intOf iv).toNat)
      case atStart => exact ⟨0, rfl, Nat.zero_le _, Lib.hid (World.ownsRow_nil _ _ _ _), Lib.hid (Below.refl _ _)⟩
      case round =>
        obtain ⟨k, rfl, hk, HO, HB⟩ := hrel
        by_cases hlt : k < size30 raw
        · have h5 := Int.lt_of_lt_of_le (Int.ofNat_lt.mpr hlt) (Int.le_of_eq HE.out.symm)
          have hin : k < raw.length := HIN.out HPO.out k hlt
          obtain ⟨x, hx⟩ : ∃ x, raw[k]? = some x := ⟨_, List.getElem?_eq_getElem hin⟩
          obtain ⟨b', o', e', hc⟩ := raw_cells (H.out.below HB.out) hx
          cases e'
          have hcA := fun O => hc.below (w' := wr.alloc O) ((Below.refl _ _).alloc (Nat.le_refl _) _)
          have c0 := fun O => (hcA O).c0
          have c1 := fun O => (hcA O).c1
          have c2 := fun O => (hcA O).c2
          have c3 := fun O => (hcA O).c3
          have c4 := fun O => (hcA O).c4
          have c5 := fun O => (hcA O).c5
          have hbl : b < wr.heap.size := World.block_lt_of_cell? wr _ hc.c0
          have HX := Lib.hid hx
          have HS2 := fun O : Obj => show w.heap.size ≤ (wr.alloc O).drew.heap.size from by have := HB.out.size; simp; omega
          have HO2 := fun O : Obj => Lib.hid (show (wr.alloc O).drew.ownsRow w.heap.size 60 6 u6 k ((prgTo raw k).flatMap inC) from HO.out.alloc O)
          clear hx hcA hc
          go_wp2_with fail
          refine (at4_any _ _).mono ?_
          rintro e w2 ⟨rfl, rfl⟩
          have hk4 := kind4_lt x.op
          obtain ⟨q, hq⟩ : ∃ q, kind4 x.op = q := ⟨_, rfl⟩
          rw [hq] at hk4
          rw [hq]
          have HQ := Lib.hid hq
          clear hq
          have hix := fun W => idx4 q hk4 W
          have h6 := HZ.out k
          by_cases hlast : k + 1 = size30 raw
          · rw [decide_eq_true hlast] at h6
            have HLA := Lib.hid hlast
            clear hlast
            by_cases h3 : q = 3
            · have h7 : ((q : Int) == 3) = true := by subst h3; rfl
              have H3 := Lib.hid h3
              clear h3
              go_wp2_with fail
              go_region
              go_wp2_with (at_builtin; refine wpList_append_one rfl (.tmp 62) (.tmp 64) 22 rfl w.heap.size 60 _ 6 40 Tryd.underlying22 Tryd.infoInst rfl (by decide) (by decide) u6 k _ rfl (HO2 _).out _ _ _ rfl (by simp) rfl (by simp [Value.oneCell']) (by omega) (HS2 _) ?_; intro ao5 cap5 w5 hown5 hgr5 hat5; have HY := Lib.hid (prog_put (by rw [HX.out]; rfl) (by unfold opOf; rw [if_pos ⟨by have := HLA.out; omega, by rw [HQ.out]; exact H3.out⟩]; rfl) HO.out HB.out hown5 hgr5 (by have := HE.out; first | (rw [this]; rfl) | (rw [show size30 raw = 1 by omega, Nat.mod_one]; rfl)) (by have := HE.out; first | (rw [this]; rfl) | (rw [show size30 raw = 1 by omega, Nat.mod_one]; rfl)) (by have := HE.out; first | (rw [this]; rfl) | (rw [show size30 raw = 1 by omega, Nat.mod_one]; rfl))); clear hown5 hgr5 hat5)
              go_roundw
              case rel => exact ⟨k + 1, by go_num, hlt, Lib.hid HY.out.1, Lib.hid HY.out.2⟩
              case measure => simp [intOf]; omega
            · have h7 : ((q : Int) == 3) = false := by have : ¬ (q : Int) = 3 := by omega
                                                       simp [this]
              have H3 := Lib.hid h3
              clear h3
              go_wp2_with fail
              go_region
              go_wp2_with (at_builtin; refine wpList_append_one rfl (.tmp 62) (.tmp 64) 22 rfl w.heap.size 60 _ 6 40 Tryd.underlying22 Tryd.infoInst rfl (by decide) (by decide) u6 k _ rfl (HO2 _).out _ _ _ rfl (by simp) rfl (by simp [Value.oneCell']) (by omega) (HS2 _) ?_; intro ao5 cap5 w5 hown5 hgr5 hat5; have HY := Lib.hid (prog_put (by rw [HX.out]; rfl) (by unfold opOf; rw [if_neg (fun e => H3.out (by rw [← HQ.out]; exact e.2)), HQ.out]) HO.out HB.out hown5 hgr5 (by have := HE.out; first | (rw [this]; rfl) | (rw [show size30 raw = 1 by omega, Nat.mod_one]; rfl)) (by have := HE.out; first | (rw [this]; rfl) | (rw [show size30 raw = 1 by omega, Nat.mod_one]; rfl)) (by have := HE.out; first | (rw [this]; rfl) | (rw [show size30 raw = 1 by omega, Nat.mod_one]; rfl))); clear hown5 hgr5 hat5)
              go_roundw
              case rel => exact ⟨k + 1, by go_num, hlt, Lib.hid HY.out.1, Lib.hid HY.out.2⟩
              case measure => simp [intOf]; omega
          · rw [decide_eq_false hlast] at h6
            have HLA := Lib.hid hlast
            clear hlast
            go_wp2_with fail
            go_region
            go_wp2_with (at_builtin; refine wpList_append_one rfl (.tmp 62) (.tmp 64) 22 rfl w.heap.size 60 _ 6 40 Tryd.underlying22 Tryd.infoInst rfl (by decide) (by decide) u6 k _ rfl (HO2 _).out _ _ _ rfl (by simp) rfl (by simp [Value.oneCell']) (by omega) (HS2 _) ?_; intro ao5 cap5 w5 hown5 hgr5 hat5; have HY := Lib.hid (prog_put (by rw [HX.out]; rfl) (by unfold opOf; rw [if_neg (fun e => HLA.out (by have := e.1; have := HP.out; omega)), HQ.out]) HO.out HB.out hown5 hgr5 (by have := HE.out; first | (rw [this]; rfl) | (rw [show size30 raw = 1 by omega, Nat.mod_one]; rfl)) (by have := HE.out; first | (rw [this]; rfl) | (rw [show size30 raw = 1 by omega, Nat.mod_one]; rfl)) (by have := HE.out; first | (rw [this]; rfl) | (rw [show size30 raw = 1 by omega, Nat.mod_one]; rfl))); clear hown5 hgr5 hat5)
            go_roundw
            case rel => exact ⟨k + 1, by go_num, hlt, Lib.hid HY.out.1, Lib.hid HY.out.2⟩
            case measure => simp [intOf]; omega
        · obtain rfl : k = size30 raw := by omega
          have h8 := Int.not_lt.mpr (Int.le_of_eq HE.out)
          go_wp2_with fail
          go_ret
          exact ⟨_, rfl, by rw [prg_len]; exact HO.out, HB.out⟩
    · have HE : Hid ((30 : Int) = (size30 raw : Int)) := Lib.hid (by rw [hN]; rfl)
      have HZ : Hid (∀ k : Nat, ((k : Int) == 29) = decide (k + 1 = size30 raw)) := Lib.hid fun k => hz k _ (by rw [hN]; rfl)
      clear hN hz hpos
      go_wp2_with fail
      go_loopw [6, 7] (fun ov iv wr => ∃ k : Nat, iv = .int .i64 k ∧ k ≤ size30 raw ∧ Hid (wr.ownsRow w.heap.size 60 6 ov k ((prgTo raw k).flatMap inC)) ∧ Hid (Below w.heap.size w wr)) (fun _ iv _ => size30 raw - (intOf iv).toNat)
      case atStart => exact ⟨0, rfl, Nat.zero_le _, Lib.hid (World.ownsRow_nil _ _ _ _), Lib.hid (Below.refl _ _)⟩
      case round =>
        obtain ⟨k, rfl, hk, HO, HB⟩ := hrel
        by_cases hlt : k < size30 raw
        · have h5 := Int.lt_of_lt_of_le (Int.ofNat_lt.mpr hlt) (Int.le_of_eq HE.out.symm)
          have hin : k < raw.length := HIN.out HPO.out k hlt
          obtain ⟨x, hx⟩ : ∃ x, raw[k]? = some x := ⟨_, List.getElem?_eq_getElem hin⟩
          obtain ⟨b', o', e', hc⟩ := raw_cells (H.out.below HB.out) hx
          cases e'
          have hcA := fun O => hc.below (w' := wr.alloc O) ((Below.refl _ _).alloc (Nat.le_refl _) _)
          have c0 := fun O => (hcA O).c0
          have c1 := fun O => (hcA O).c1
          have c2 := fun O => (hcA O).c2
          have c3 := fun O => (hcA O).c3
          have c4 := fun O => (hcA O).c4
          have c5 := fun O => (hcA O).c5
          have hbl : b < wr.heap.size := World.block_lt_of_cell? wr _ hc.c0
          have HX := Lib.hid hx
          have HS2 := fun O : Obj => show w.heap.size ≤ (wr.alloc O).drew.heap.size from by have := HB.out.size; simp; omega
          have HO2 := fun O : Obj => Lib.hid (show (wr.alloc O).drew.ownsRow w.heap.size 60 6 u6 k ((prgTo raw k).flatMap inC) from HO.out.alloc O)
          clear hx hcA hc
          go_wp2_with fail
          refine (at4_any _ _).mono ?_
          rintro e w2 ⟨rfl, rfl⟩
          have hk4 := kind4_lt x.op
          obtain ⟨q, hq⟩ : ∃ q, kind4 x.op = q := ⟨_, rfl⟩
          rw [hq] at hk4
          rw [hq]
          have HQ := Lib.hid hq
          clear hq
          have hix := fun W => idx4 q hk4 W
          have h6 := HZ.out k
          by_cases hlast : k + 1 = size30 raw
          · rw [decide_eq_true hlast] at h6
            have HLA := Lib.hid hlast
            clear hlast
            by_cases h3 : q = 3
            · have h7 : ((q : Int) == 3) = true := by subst h3; rfl
              have H3 := Lib.hid h3
              clear h3
              go_wp2_with fail
              go_region
              go_wp2_with (at_builtin; refine wpList_append_one rfl (.tmp 62) (.tmp 64) 22 rfl w.heap.size 60 _ 6 40 Tryd.underlying22 Tryd.infoInst rfl (by decide) (by decide) u6 k _ rfl (HO2 _).out _ _ _ rfl (by simp) rfl (by simp [Value.oneCell']) (by omega) (HS2 _) ?_; intro ao5 cap5 w5 hown5 hgr5 hat5; have HY := Lib.hid (prog_put (by rw [HX.out]; rfl) (by unfold opOf; rw [if_pos ⟨by have := HLA.out; omega, by rw [HQ.out]; exact H3.out⟩]; rfl) HO.out HB.out hown5 hgr5 (by have := HE.out; first | (rw [this]; rfl) | (rw [show size30 raw = 1 by omega, Nat.mod_one]; rfl)) (by have := HE.out; first | (rw [this]; rfl) | (rw [show size30 raw = 1 by omega, Nat.mod_one]; rfl)) (by have := HE.out; first | (rw [this]; rfl) | (rw [show size30 raw = 1 by omega, Nat.mod_one]; rfl))); clear hown5 hgr5 hat5)
              go_roundw
              case rel => exact ⟨k + 1, by go_num, hlt, Lib.hid HY.out.1, Lib.hid HY.out.2⟩
              case measure => simp [intOf]; omega
            · have h7 : ((q : Int) == 3) = false := by have : ¬ (q : Int) = 3 := by omega
                                                       simp [this]
              have H3 := Lib.hid h3
              clear h3
              go_wp2_with fail
              go_region
              go_wp2_with (at_builtin; refine wpList_append_one rfl (.tmp 62) (.tmp 64) 22 rfl w.heap.size 60 _ 6 40 Tryd.underlying22 Tryd.infoInst rfl (by decide) (by decide) u6 k _ rfl (HO2 _).out _ _ _ rfl (by simp) rfl (by simp [Value.oneCell']) (by omega) (HS2 _) ?_; intro ao5 cap5 w5 hown5 hgr5 hat5; have HY := Lib.hid (prog_put (by rw [HX.out]; rfl) (by unfold opOf; rw [if_neg (fun e => H3.out (by rw [← HQ.out]; exact e.2)), HQ.out]) HO.out HB.out hown5 hgr5 (by have := HE.out; first | (rw [this]; rfl) | (rw [show size30 raw = 1 by omega, Nat.mod_one]; rfl)) (by have := HE.out; first | (rw [this]; rfl) | (rw [show size30 raw = 1 by omega, Nat.mod_one]; rfl)) (by have := HE.out; first | (rw [this]; rfl) | (rw [show size30 raw = 1 by omega, Nat.mod_one]; rfl))); clear hown5 hgr5 hat5)
              go_roundw
              case rel => exact ⟨k + 1, by go_num, hlt, Lib.hid HY.out.1, Lib.hid HY.out.2⟩
              case measure => simp [intOf]; omega
          · rw [decide_eq_false hlast] at h6
            have HLA := Lib.hid hlast
            clear hlast
            go_wp2_with fail
            go_region
            go_wp2_with (at_builtin; refine wpList_append_one rfl (.tmp 62) (.tmp 64) 22 rfl w.heap.size 60 _ 6 40 Tryd.underlying22 Tryd.infoInst rfl (by decide) (by decide) u6 k _ rfl (HO2 _).out _ _ _ rfl (by simp) rfl (by simp [Value.oneCell']) (by omega) (HS2 _) ?_; intro ao5 cap5 w5 hown5 hgr5 hat5; have HY := Lib.hid (prog_put (by rw [HX.out]; rfl) (by unfold opOf; rw [if_neg (fun e => HLA.out (by have := e.1; have := HP.out; omega)), HQ.out]) HO.out HB.out hown5 hgr5 (by have := HE.out; first | (rw [this]; rfl) | (rw [show size30 raw = 1 by omega, Nat.mod_one]; rfl)) (by have := HE.out; first | (rw [this]; rfl) | (rw [show size30 raw = 1 by omega, Nat.mod_one]; rfl)) (by have := HE.out; first | (rw [this]; rfl) | (rw [show size30 raw = 1 by omega, Nat.mod_one]; rfl))); clear hown5 hgr5 hat5)
            go_roundw
            case rel => exact ⟨k + 1, by go_num, hlt, Lib.hid HY.out.1, Lib.hid HY.out.2⟩
            case measure => simp [intOf]; omega
        · obtain rfl : k = size30 raw := by omega
          have h8 := Int.not_lt.mpr (Int.le_of_eq HE.out)
          go_wp2_with fail
          go_ret
          exact ⟨_, rfl, by rw [prg_len]; exact HO.out, HB.out⟩
  · have hr0 : raw = [] := List.eq_nil_of_length_eq_zero (by omega)
    have hN : size30 raw = 1 := by rw [hr0]; rfl
    have HE : Hid ((1 : Int) = (size30 raw : Int)) := Lib.hid (by rw [hN]; rfl)
    have HN1 := Lib.hid hN
    have hq0 : kind4 0 = 0 := by decide
    have h30 : raw.length ≤ 30 := by omega
    have h1 : ¬ 1 < raw.length := by omega
    have HR0 := Lib.hid hr0
    have HPO := Lib.hid hpos
    clear hN hz hin0 hcases hr0 hpos
    go_wp2_with fail
    go_loopw [6, 7] (fun ov iv wr => ∃ k : Nat, iv = .int .i64 k ∧ k ≤ size30 raw ∧ Hid (wr.ownsRow w.heap.size 60 6 ov k ((prgTo raw k).flatMap inC)) ∧ Hid (Below w.heap.size w wr)) (fun _ iv _ => size30 raw - (intOf iv).toNat)
    case atStart => exact ⟨0, rfl, Nat.zero_le _, Lib.hid (World.ownsRow_nil _ _ _ _), Lib.hid (Below.refl _ _)⟩
    case round =>
      obtain ⟨k, rfl, hk, HO, HB⟩ := hrel
      by_cases hlt : k < size30 raw
      · have hk0 : k = 0 := by have := HN1.out; omega
        have HK0 := Lib.hid hk0
        have h5 : (k : Int) < 1 := by omega
        have h6 : ((k : Int) == 0) = true := by subst hk0; rfl
        have hin : ¬ k < raw.length := by have := HPO.out; omega
        have HS2 := fun O : Obj => show w.heap.size ≤ (wr.alloc O).drew.heap.size from by have := HB.out.size; simp; omega
        have HO2 := fun O : Obj => Lib.hid (show (wr.alloc O).drew.ownsRow w.heap.size 60 6 u6 k ((prgTo raw k).flatMap inC) from HO.out.alloc O)
        clear hk0
        go_wp2_with fail
        refine (at4_any _ _).mono ?_
        rintro e w2 ⟨rfl, rfl⟩
        obtain ⟨q, hq⟩ : ∃ q, kind4 0 = q := ⟨_, rfl⟩
        rw [hq]
        have hk4 : q < 4 := by rw [← hq]; exact kind4_lt 0
        have h7 : ((q : Int) == 3) = false := by rw [← hq]; rfl
        have HQ := Lib.hid hq
        clear hq hq0
        have hix := fun W => idx4 q hk4 W
        go_wp2_with fail
        go_region
        go_wp2_with (at_builtin; refine wpList_append_one rfl (.tmp 62) (.tmp 64) 22 rfl w.heap.size 60 _ 6 40 Tryd.underlying22 Tryd.infoInst rfl (by decide) (by decide) u6 k _ rfl (HO2 _).out _ _ _ rfl (by simp) rfl (by simp [Value.oneCell']) (by omega) (HS2 _) ?_; intro ao5 cap5 w5 hown5 hgr5 hat5; have HY := Lib.hid (prog_put (x := Raw.zero) (by rw [HR0.out]; rfl) (by rw [HN1.out, HK0.out, ← HQ.out]; rfl) HO.out HB.out hown5 hgr5 (by rw [HN1.out]; rfl) (by rw [HN1.out]; rfl) (by rw [HN1.out]; rfl)); clear hown5 hgr5 hat5)
        go_roundw
        case rel => exact ⟨k + 1, by go_num, hlt, Lib.hid HY.out.1, Lib.hid HY.out.2⟩
        case measure => simp [intOf]; omega
      · have hk1 : k = 1 := by have := HN1.out; omega
        subst hk1
        go_wp2_with fail
        go_ret
        exact ⟨_, rfl, by rw [prg_len, HN1.out]; have h := HO.out; rw [show prgTo raw 1 = prg raw from by unfold prg; rw [HN1.out]] at h; exact h, HB.out⟩
end Go.Proofs.YtnpchkohfomagaaDoor.Rgw
