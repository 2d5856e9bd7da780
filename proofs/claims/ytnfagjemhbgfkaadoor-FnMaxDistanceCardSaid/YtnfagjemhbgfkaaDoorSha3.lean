/- sha256: (*Digest).Write. -/
import Derived.Test.YtnfagjemhbgfkaaDoorSha2
import Derived.Laws.CopyOwn
import Derived.Laws.BitsAllLaws
namespace Go.Proofs.YtnfagjemhbgfkaaDoor.Sha
open Go.ChangeShapes Go.WideShapes Go.ChangeAt Go.RowKit Go.Trav
set_option linter.unusedVariables false
set_option linter.unusedSimpArgs false
set_option maxRecDepth 100000
theorem Tryd.info5 : (Tryd.prog.info? 5).map (fun i => (i.zero, i.size, i.bytes)) = some (some (.int .u8 0), 1, 1) := by kernel_rfl
theorem and_hi (n : Nat) (hn : n < 18446744073709551616) : n &&& 18446744073709551552 = n / 64 * 64 := by
  have e : (18446744073709551552 : Nat) = 2 ^ 64 - (63 + 1) := by decide
  refine Nat.eq_of_testBit_eq fun i => ?_
  rw [Nat.testBit_and, e, Nat.testBit_two_pow_sub_succ (by decide), show (63 : Nat) = 2 ^ 6 - 1 from rfl, Nat.testBit_two_pow_sub_one, show (64 : Nat) = 2 ^ 6 from rfl, Nat.testBit_mul_two_pow, Nat.testBit_div_two_pow]
  by_cases h6 : i < 6
  · have h6' : ¬ 6 ≤ i := by omega
    simp [h6, h6']
  · by_cases h64 : i < 64
    · simp [h64, h6, show 6 ≤ i by omega]
    · have : n.testBit i = false := Nat.testBit_lt_two_pow (Nat.lt_of_lt_of_le hn (Nat.pow_le_pow_right (show 2 > 0 by decide) (show 64 ≤ i by omega)))
      simp [h6, show 6 ≤ i by omega, this]
theorem andNot63 (n : Nat) (hn : n < 9223372036854775808) : bits .andNot .i64 (n : Int) 63 = ((n / 64 * 64 : Nat) : Int) := by
  show IntKind.i64.wrap ((BitVec.ofInt 64 (n : Int) &&& ~~~BitVec.ofInt 64 (63 : Int)).toNat : Int) = _
  rw [BitVec.toNat_and, BitVec.toNat_not, show (63 : Int) = ((63 : Nat) : Int) from rfl, ofInt_u64 n (by omega), ofInt_u64 63 (by omega), show (2 ^ 64 - 1 - 63 : Nat) = 18446744073709551552 from by decide, and_hi n (by omega)]
  have h2 : n / 64 * 64 ≤ n := Nat.div_mul_le_self n 64
  generalize n / 64 * 64 = q at h2 ⊢
  simp [IntKind.wrap, IntKind.bits, IntKind.signed]
  omega
theorem u8V_one (l : List Int) : ∀ x ∈ l.map u8V, x.oneCell' = true := by
  intro x hx
  obtain ⟨y, -, rfl⟩ := List.mem_map.1 hx
  rfl
theorem cells_row {d : Dg} (hl : d.h.length = 8) (xl : d.x.length = 64) (k : Nat) (l : List Int) (hk : k + l.length ≤ 64) :
    (d.cells.toList.take (8 + k) ++ l.map u8V ++ d.cells.toList.drop (8 + k + l.length)).toArray = Dg.cells ⟨d.h, d.x.take k ++ l ++ d.x.drop (k + l.length), d.nx, d.ln⟩ := by
  unfold Dg.cells
  simp only [List.append_assoc]
  rw [List.take_append, List.take_of_length_le (by simp [hl]), List.length_map, hl, Nat.add_sub_cancel_left, List.take_append_of_le_length (by simp [xl]; omega), Nat.add_assoc, List.drop_append, List.drop_of_length_le (by simp [hl]), List.length_map, hl, Nat.add_sub_cancel_left, List.drop_append_of_le_length (by simp [xl]; omega)]
  simp [List.map_take, List.map_drop]
/-- A copy into the chunk, from its place k on. -/
theorem copy_x {w : World} {D : Nat} {d : Dg} (h : DAt w D d) (k n cap : Nat) (a : Addr) (l : List Int) (hl : l.length = min n (64 - k)) (hk : k ≤ 64) (hsrc : ∀ j v, (l.map u8V)[j]? = some v → w.cell? (a.add j) = some v) :
    (Builtin.copy_ #[38, 38] 3 #[.slice (some ⟨D, 8 + k, none⟩) (64 - k : Nat) (64 - k : Nat), .slice (some a) n cap]).run Tryd.prog w = .ok (goInt l.length) (w.setRow D (Dg.cells ⟨d.h, d.x.take k ++ l ++ d.x.drop (k + l.length), d.nx, d.ln⟩)) := by
  have hinfo : (Tryd.prog.info? 5).map (·.size) = some 1 := by
    obtain ⟨i0, hi, -, hz1, -⟩ := info_parts Tryd.info5
    rw [hi]; simp [hz1]
  have hle : k + l.length ≤ 64 := by rw [hl]; omega
  have := run_copy_row (P := Tryd.prog) w 38 38 3 5 D (8 + k) (64 - k) (64 - k) a n cap d.cells 119 (l.map u8V) Tryd.underlying38 hinfo h.blk (by rw [List.length_map, hl]) hsrc (by simp [Dg.cells, h.hl, h.xl]; omega) (u8V_one l)
  rw [List.length_map, cells_row h.hl h.xl k l hle] at this
  exact this
theorem DAt.row {w : World} {D : Nat} {d d' : Dg} (h : DAt w D d) (hl : d'.h.length = 8) (xl : d'.x.length = 64) : DAt (w.setRow D d'.cells) D d' := ⟨setRow_heap _ _ _ _ _ _ h.blk, hl, xl⟩
theorem reads_drop {w : World} {b off m c k : Nat} {xs : List Value} (h : Reads w (.slice (some ⟨b, off, none⟩) m c) m 1 xs) (hm : k < m) : Reads w (.slice (some ⟨b, off + k, none⟩) (m - k : Nat) (c - k : Nat)) (m - k) 1 (xs.drop k) := by
  obtain ⟨ao, cap, e, hmc, hc, hn, hl, hcell⟩ := h
  simp only [Value.slice.injEq] at e
  obtain ⟨rfl, -, rfl⟩ := e
  refine ⟨_, _, rfl, by omega, by omega, (fun h => by cases h), by rw [List.length_drop, hl]; omega, ?_⟩
  intro h
  obtain ⟨b', off', e, hcell⟩ := hcell (by omega)
  simp only [Option.some.injEq, Addr.mk.injEq] at e
  obtain ⟨rfl, rfl, -⟩ := e
  refine ⟨b, off + k, rfl, ?_⟩
  intro j u hj
  rw [List.getElem?_drop] at hj
  rw [Nat.add_assoc]
  exact hcell _ _ hj
theorem reads_take {w : World} {b off m c k : Nat} {xs : List Value} (h : Reads w (.slice (some ⟨b, off, none⟩) m c) m 1 xs) (hm : k ≤ m) : Reads w (.slice (some ⟨b, off, none⟩) k c) k 1 (xs.take k) := by
  obtain ⟨ao, cap, e, hmc, hc, hn, hl, hcell⟩ := h
  simp only [Value.slice.injEq] at e
  obtain ⟨rfl, -, rfl⟩ := e
  refine ⟨_, _, rfl, by omega, by omega, (fun h => by cases h), by rw [List.length_take, hl]; omega, ?_⟩
  intro h
  obtain ⟨b', off', e, hcell⟩ := hcell (by rw [List.length_take] at h; omega)
  refine ⟨b', off', e, ?_⟩
  intro j u hj
  rw [List.getElem?_take] at hj
  split at hj
  · exact hcell _ _ hj
  · cases hj
theorem reads_cells {w : World} {b off m c : Nat} {l : List Int} (h : Reads w (.slice (some ⟨b, off, none⟩) m c) m 1 (l.map u8V)) : l.length = m ∧ m ≤ c ∧ c ≤ maxLen ∧ ∀ j v, (l.map u8V)[j]? = some v → w.cell? ⟨b, off + j, none⟩ = some v := by
  obtain ⟨ao, cap, e, hmc, hc, hn, hl, hcell⟩ := h
  simp only [Value.slice.injEq] at e
  obtain ⟨rfl, -, rfl⟩ := e
  refine ⟨by simpa using hl, hmc, hc, ?_⟩
  intro j v hj
  obtain ⟨b', off', e, hcell⟩ := hcell (by have := (List.getElem?_eq_some_iff.1 hj).1; omega)
  simp only [Option.some.injEq, Addr.mk.injEq] at e
  obtain ⟨rfl, rfl, -⟩ := e
  exact hcell _ _ hj
/-- What is done with bytes behind those that fill a chunk. -/
def feedA (K : Nat → Int) (d : Dg) (r : List Int) : Dg := ⟨shaH K (r.take (r.length / 64 * 64)) d.h, r.drop (r.length / 64 * 64) ++ d.x.drop (r.length % 64), r.length % 64, d.ln⟩
def midD (K : Nat → Int) (d : Dg) (r : List Int) : Dg := if 0 < d.nx then ⟨shaH K (d.x.take d.nx ++ r.take (64 - d.nx)) d.h, d.x.take d.nx ++ r.take (64 - d.nx), 0, IntKind.u64.wrap (d.ln + r.length)⟩ else ⟨d.h, d.x, 0, IntKind.u64.wrap (d.ln + r.length)⟩
def midR (d : Dg) (r : List Int) : List Int := if 0 < d.nx then r.drop (64 - d.nx) else r
/-- What Write makes of a digest. -/
def feed (K : Nat → Int) (d : Dg) (r : List Int) : Dg := feedA K (midD K d r) (midR d r)
theorem mod_setRow {F : Nat → Prop} {w w1 : World} (h : Mod F w w1) {g : Nat} (hF : g < w.heap.size → F g) (cs : Array Value) : Mod F w (w1.setRow g cs) := by
  refine ⟨h.os, h.tape, h.output, by simpa using h.size, fun k hk hn => ?_⟩
  by_cases e : k = g
  · subst e; exact absurd (hF hk) hn
  · rw [setRow_other _ _ _ _ e]; exact h.block k hk hn
theorem DAt.heap {w w' : World} {D : Nat} {d : Dg} (h : DAt w D d) (e : w'.heap = w.heap) : DAt w' D d := ⟨by rw [e]; exact h.blk, h.hl, h.xl⟩
theorem reads_rest {w : World} {b off m c k : Nat} {xs : List Value} (h : Reads w (.slice (some ⟨b, off, none⟩) m c) m 1 xs) (hm : k ≤ m) : ∃ o, (if c = k then some (⟨b, off, none⟩ : Addr) else some ⟨b, off + k, none⟩) = some ⟨b, o, none⟩ ∧ Reads w (.slice (some ⟨b, o, none⟩) (m - k : Nat) (c - k : Nat)) (m - k) 1 (xs.drop k) := by
  by_cases hk : k < m
  · have hc : ¬ c = k := by
      obtain ⟨ao, cap, e, hmc, hc, hn, hl, hcell⟩ := h
      simp only [Value.slice.injEq] at e
      omega
    exact ⟨_, if_neg hc, reads_drop h hk⟩
  · have hkm : k = m := by omega
    subst hkm
    have hx : ∀ o, Reads w (.slice (some ⟨b, o, none⟩) (k - k : Nat) (c - k : Nat)) (k - k) 1 (xs.drop k) := by
      intro o
      obtain ⟨ao, cap, e, hmc, hc, hn, hl, hcell⟩ := h
      simp only [Value.slice.injEq] at e
      obtain ⟨rfl, -, rfl⟩ := e
      have hl0 : (xs.drop k).length = 0 := by rw [List.length_drop, hl]; omega
      exact ⟨_, _, rfl, by omega, by omega, (fun h => by cases h), by rw [hl0]; omega, fun h => by omega⟩
    by_cases hc : c = k
    · exact ⟨_, if_pos hc, hx _⟩
    · exact ⟨_, if_neg hc, hx _⟩
theorem lay_row {d : Dg} {t : List Int} {k : Nat} (hk : t.length = k) : Dg.cells ⟨d.h, d.x.take 0 ++ t ++ d.x.drop (0 + t.length), d.nx, d.ln⟩ = Dg.cells ⟨d.h, t ++ d.x.drop k, d.nx, d.ln⟩ := by
  rw [List.take_zero, List.nil_append, Nat.zero_add, hk]
theorem lay_fin {w : World} {D : Nat} {d : Dg} (h : DAt w D d) {t : List Int} {k : Nat} (hk : t.length = k) (hk64 : k ≤ 64) :
    DAt ((w.setRow D (Dg.cells ⟨d.h, t ++ d.x.drop k, d.nx, d.ln⟩)).setCell ⟨D, 72, none⟩ (.int .i64 (k : Nat))) D ⟨d.h, t ++ d.x.drop k, k, d.ln⟩ :=
  (h.row (d' := ⟨d.h, t ++ d.x.drop k, d.nx, d.ln⟩) h.hl (by rw [List.length_append, List.length_drop, hk, h.xl]; omega)).nx k
theorem feedA_of (K : Nat → Int) (d : Dg) (r : List Int) {m q : Nat} (hm : r.length = m) (hq : q = m / 64 * 64) : feedA K d r = ⟨shaH K (r.take q) d.h, r.drop q ++ d.x.drop (m - q), m - q, d.ln⟩ := by
  have e : m % 64 = m - q := by rw [hq]; omega
  unfold feedA
  rw [hm, ← hq, e]
theorem midD_nx (K : Nat → Int) (d : Dg) (r : List Int) : (midD K d r).nx = 0 := by
  unfold midD
  split <;> rfl
theorem shaH_nil (K : Nat → Int) {h : List Int} (hl : h.length = 8) : shaH K [] h = h := by
  obtain ⟨h0, h1, h2, h3, h4, h5, h6, h7, rfl⟩ := list8i hl
  rfl
theorem shaH_len (K : Nat → Int) (bs h : List Int) : (shaH K bs h).length = 8 := rfl
theorem KAt.mod {w w' : World} {K : Nat → Int} {F : Nat → Prop} (h : KAt w K) (hm : Mod F w w') (hn : ¬ F 1) : KAt w' K := fun i hi => hm.cell (h i hi) hn
set_option maxHeartbeats 8000000 in
theorem write_any (D b off n cap : Nat) (bs : List Int) (d : Dg) (K : Nat → Int) (w : World) (h : DAt w D d) (hR : Reads w (.slice (some ⟨b, off, none⟩) n cap) n 1 (bs.map u8V)) (hK : KAt w K) (hbD : b ≠ D) (hDK : 1 ≠ D) (hn : n ≤ 65536)
    (hx : d.nx = 0 ∨ (0 < d.nx ∧ d.nx < 64 ∧ 64 - d.nx ≤ n)) :
    Calls Tryd.prog 78 #[.pointer (some ⟨D, 0, none⟩), .slice (some ⟨b, off, none⟩) n cap] w fun e w' => e = .returned (.tuple #[.int .i64 n, .nilIface]) ∧ DAt w' D (feed K d bs) ∧ Mod (fun q => q = D) w w' := by
  obtain ⟨hl, hnc, hcm, hcell⟩ := reads_cells hR
  have cl := cell_ln h
  have cn0 := cell_nx h
  have fl : w.frozen? ⟨D, 73, none⟩ = false := block_free h.blk
  have hd1 := h.lns (IntKind.u64.wrap (d.ln + n))
  obtain ⟨d1, hd1e⟩ : ∃ d1 : Dg, d1 = ⟨d.h, d.x, d.nx, IntKind.u64.wrap (d.ln + n)⟩ := ⟨_, rfl⟩
  rw [← hd1e] at hd1
  have hm1 : Mod (fun q => q = D) w (w.setCell ⟨D, 73, none⟩ (.int .u64 (IntKind.u64.wrap (d.ln + n)))) := (Mod.refl (fun q => q = D) _).setCell (p := ⟨D, 73, none⟩) (fun _ => rfl) _
  obtain ⟨w1, hw1⟩ : ∃ w1, w1 = w.setCell ⟨D, 73, none⟩ (.int .u64 (IntKind.u64.wrap (d.ln + n))) := ⟨_, rfl⟩
  rw [← hw1] at hd1 hm1
  have cn := cell_nx hd1
  have fn : w1.frozen? ⟨D, 72, none⟩ = false := block_free hd1.blk
  have hnx : d1.nx = d.nx := by rw [hd1e]
  rw [hnx] at cn
  obtain ⟨x, hxe⟩ : ∃ x, x = d.nx := ⟨_, rfl⟩
  rw [← hxe] at cn hx hnx cn0
  have hI : (0 : Int) ≤ (n : Int) := by omega
  have HD1 := Lib.hid hd1
  have HM1 := Lib.hid hm1
  have HR := Lib.hid hR
  have HK := Lib.hid hK
  have HCELL := Lib.hid hcell
  have HL := Lib.hid hl
  have HDE := Lib.hid hd1e
  have HXE := Lib.hid hxe
  have HNX := Lib.hid hnx
  have HBD := Lib.hid hbD
  have HDK := Lib.hid hDK
  have HH := Lib.hid h
  clear h hR hK hcell hl hd1 hm1 hd1e hxe hnx hbD hDK
  go_enter Tryd.func78, Tryd.ntmps78
  go_upto_if 23 with fail
  rw [← hw1]
  clear hw1 cl fl cn0
  go_cut [1, 6, 23] from 24 (fun p a6 a23 wc => ∃ m r o c, p = .slice (some ⟨b, o, none⟩) m c ∧ m ≤ 65536 ∧ m ≤ c ∧ Hid (r = midR d bs) ∧ Hid (Reads w (.slice (some ⟨b, o, none⟩) m c) m 1 (r.map u8V)) ∧ Hid (DAt wc D (midD K d bs)) ∧ Hid (Mod (fun q => q = D) w wc))
  case first =>
    --[FIRST
    have HX := Lib.hid hx
    clear hx
    by_cases hx0 : x = 0
    · subst hx0
      go_wp2_with fail
      go_meet
      case rel =>
        have e0 : d.nx = 0 := HXE.out.symm
        have e1 : d1 = midD K d bs := by
          rw [HDE.out, midD, if_neg (by omega), e0, HL.out]
        exact ⟨n, bs, off, cap, rfl, hn, hnc, Lib.hid (by rw [midR, if_neg (by omega)]), HR, Lib.hid (e1 ▸ HD1.out), HM1⟩
    · have hx1 : 0 < x ∧ x < 64 ∧ 64 - x ≤ n := HX.out.resolve_left hx0
      obtain ⟨hx1, hx2, hx3⟩ := hx1
      have hI0 : (0 : Int) < (x : Int) := by omega
      have hI1 : (0 : Int) ≤ (x : Int) := by omega
      have hI2 : (x : Int) ≤ 64 := by omega
      have hI3 : ¬ 64 = x := by omega
      obtain ⟨m, hm⟩ : ∃ m : Nat, m = 64 - x := ⟨_, rfl⟩
      obtain ⟨l, hl⟩ : ∃ l, l = bs.take m := ⟨_, rfl⟩
      have hll : l.length = m := by rw [hl, List.length_take, HL.out]; omega
      have hD1d : DAt w1.drew D d1 := HD1.out.heap rfl
      have hcp := copy_x hD1d x n cap ⟨b, off, none⟩ l (by rw [hll]; omega) (by omega) (fun j v hj => by
        rw [addr_add]
        refine HM1.out.cell (HCELL.out j v ?_) (fun e => HBD.out e)
        rw [hl, List.map_take, List.getElem?_take] at hj
        split at hj
        · exact hj
        · cases hj)
      obtain ⟨x2, hx2e⟩ : ∃ x2, x2 = d1.x.take x ++ l ++ d1.x.drop (x + l.length) := ⟨_, rfl⟩
      rw [← hx2e] at hcp
      obtain ⟨d2, hd2⟩ : ∃ d2 : Dg, d2 = ⟨d1.h, x2, d1.nx, d1.ln⟩ := ⟨_, rfl⟩
      rw [← hd2] at hcp
      obtain ⟨W2, hW2⟩ : ∃ W2, W2 = w1.drew.setRow D d2.cells := ⟨_, rfl⟩
      have hx2l : x2.length = 64 := by
        rw [hx2e]
        simp only [List.length_append, List.length_take, List.length_drop, HD1.out.xl, hll]
        omega
      have hA2 : DAt W2 D d2 := by rw [hW2]; exact hD1d.row (by rw [hd2]; exact HD1.out.hl) (by rw [hd2]; exact hx2l)
      have hm2 : Mod (fun q => q = D) w W2 := by rw [hW2]; exact mod_setRow (HM1.out.drewN 1) (fun _ => rfl) _
      rw [← hW2, hll, ← hm] at hcp
      have c2 := cell_nx hA2
      rw [show d2.nx = x from by rw [hd2]; exact HNX.out.symm ▸ rfl] at c2
      have f2 : W2.frozen? ⟨D, 72, none⟩ = false := block_free hA2.blk
      have hsum : (x : Int) + (m : Int) = 64 := by omega
      have hA3 := hA2.nx 64
      have HMM := Lib.hid hm
      have HLE := Lib.hid hl
      have HLL := Lib.hid hll
      have HA3 := Lib.hid hA3
      have HM2 := Lib.hid hm2
      have HX2E := Lib.hid hx2e
      have HD2 := Lib.hid hd2
      have HX2L := Lib.hid hx2l
      have hmn : (m : Int) ≤ (n : Int) := by omega
      have hmc : (m : Int) ≤ (cap : Int) := by omega
      have hm0 : (0 : Int) ≤ (m : Int) := by omega
      rw [hm] at hcp
      clear hm hl hll hD1d hx2e hd2 hx2l hA2 hm2 hA3 fn hx0 hx3 hW2
      go_wp2_with fail
      go_still_tail 9, (by kernel_rfl)
      change wpList _ _ _ _ _ w1.drew
      clear cn
      go_wp2_with fail
      have hs' : (x : Int) + ((64 - x : Nat) : Int) = ((64 : Nat) : Int) := by omega
      have HA4 : DAt (W2.setCell ⟨D, 72, none⟩ (.int .i64 ((x : Int) + ((64 - x : Nat) : Int)))) D ⟨d2.h, d2.x, 64, d2.ln⟩ := by rw [hs']; exact HA3.out
      have HM4 : Mod (fun q => q = D) w (W2.setCell ⟨D, 72, none⟩ (.int .i64 ((x : Int) + ((64 - x : Nat) : Int)))) := HM2.out.setCell (p := ⟨D, 72, none⟩) (fun _ => rfl) _
      have hd2x : d2.x.length = 64 := by rw [HD2.out]; exact HX2L.out
      have hRx : Reads (W2.setCell ⟨D, 72, none⟩ (.int .i64 ((x : Int) + ((64 - x : Nat) : Int)))) (.slice (some ⟨D, 8, none⟩) 64 64) 64 1 (d2.x.map u8V) :=
        ⟨_, _, rfl, Nat.le_refl _, (by decide), (fun h => by cases h), by rw [List.length_map, hd2x], fun _ => ⟨D, 8, rfl, fun j u hj => by
          rw [List.getElem?_map] at hj
          cases hz : d2.x[j]? with
          | none => rw [hz] at hj; cases hj
          | some z =>
            rw [hz] at hj
            obtain rfl : u8V z = u := by simpa using hj
            exact cell_x HA4 hz⟩⟩
      refine (blkf_any D 64 _ d2.x _ K _ HA4 hRx (HK.out.mod HM4 (fun e => HDK.out e))).mono ?_
      rintro e w3 ⟨rfl, hA5, hm5⟩
      have c5 := cell_nx hA5
      have f5 : w3.frozen? ⟨D, 72, none⟩ = false := block_free hA5.blk
      have HA6 := Lib.hid (hA5.nx 0)
      have HM6 := Lib.hid ((HM4.step hm5 (fun i _ e => e)).setCell (p := ⟨D, 72, none⟩) (fun _ => rfl) (.int .i64 (0 : Nat)))
      clear hA5 hm5 HM4 HA4 hRx hd2x hs' HA3
      have hfin : Hid (midD K d bs = ⟨shaH K d2.x d2.h, d2.x, 0, d2.ln⟩ ∧ midR d bs = bs.drop (64 - x)) := Lib.hid (by
        have e1 : d2.x = d.x.take x ++ bs.take (64 - x) := by
          rw [HD2.out]
          show x2 = _
          rw [HX2E.out, HLL.out, List.drop_of_length_le (by rw [HD1.out.xl, HMM.out]; omega), List.append_nil, HLE.out, HMM.out, HDE.out]
        refine ⟨?_, ?_⟩
        · rw [midD, if_pos (by rw [← HXE.out]; exact hx1), ← HXE.out, ← e1, HD2.out, HDE.out, HL.out]
        · rw [midR, if_pos (by rw [← HXE.out]; exact hx1), ← HXE.out])
      by_cases hce : cap = 64 - x
      · have hce' : 64 - x = cap := hce.symm
        have HCE := Lib.hid hce
        clear hce
        go_wp2_with fail
        go_meet
        case rel =>
          have hmr : midR d bs = [] := by rw [hfin.out.2]; exact List.drop_of_length_le (by rw [HL.out]; omega)
          refine ⟨0, midR d bs, off, 0, rfl, by omega, by omega, Lib.hid rfl, Lib.hid ?_, Lib.hid (hfin.out.1 ▸ HA6.out), HM6⟩
          rw [hmr]
          exact ⟨_, _, rfl, Nat.le_refl _, (by decide), (fun h => by cases h), rfl, fun h => absurd h (by simp)⟩
      · go_wp2_with fail
        go_meet
        case rel =>
          refine ⟨n - (64 - x), midR d bs, off + (64 - x), cap - (64 - x), rfl, by omega, by omega, Lib.hid rfl, Lib.hid ?_, Lib.hid (hfin.out.1 ▸ HA6.out), HM6⟩
          obtain ⟨o, ho, hr⟩ := reads_rest (k := 64 - x) HR.out (by have := HMM.out; omega)
          rw [if_neg hce] at ho
          obtain rfl : off + (64 - x) = o := by simpa using ho
          rw [hfin.out.2, List.map_drop]
          exact hr
    --]FIRST
  case rest =>
    --[REST
    obtain ⟨m, r, o, c, rfl, hm, hmc, HRE, HRR, HDm, HMm⟩ := hcut
    clear cn fn
    obtain ⟨d0, hd0⟩ : ∃ d0, d0 = midD K d bs := ⟨_, rfl⟩
    rw [← hd0] at HDm
    have hnx0 : d0.nx = 0 := by rw [hd0]; exact midD_nx K d bs
    have HD0 := Lib.hid hd0
    have HNX0 := Lib.hid hnx0
    clear hd0 hnx0
    obtain ⟨hrl, hrc, hrm, hrcell⟩ := reads_cells HRR.out
    have HRL := Lib.hid hrl
    have hmI : (0 : Int) ≤ (m : Int) := by omega
    have hfeed : Hid (feed K d bs = feedA K d0 r) := Lib.hid (by rw [feed, ← HRE.out, ← HD0.out])
    by_cases h64 : 64 ≤ m
    · have h64z : (64 : Int) ≤ (m : Int) := by omega
      obtain ⟨q, hq⟩ : ∃ q : Nat, q = m / 64 * 64 := ⟨_, rfl⟩
      have han := andNot63 m (by omega)
      rw [← hq] at han
      have hqm : q ≤ m := by rw [hq]; exact Nat.div_mul_le_self m 64
      have hqz : ¬ (65536 : Int) < (q : Int) := by omega
      have hq0 : (0 : Int) ≤ (q : Int) := by omega
      have hqmz : (q : Int) ≤ (m : Int) := by omega
      have hqcz : (q : Int) ≤ (c : Int) := by omega
      have HQ := Lib.hid hq
      have HRC := Lib.hid hrcell
      clear hq hrcell hrl
      go_wp2_with fail
      go_loopw [1, 7] (fun pv qv wr => pv = .slice (some ⟨b, o, none⟩) m c ∧ qv = .int .i64 q ∧ wr = wc) (fun _ _ _ => 0)
      case atStart => exact ⟨rfl, rfl, rfl⟩
      case round =>
        obtain ⟨rfl, rfl, rfl⟩ := hrel
        rename World => wc
        go_wp2_with fail
        have hRq := (reads_take (k := q) HRR.out hqm).mod HMm.out (fun g hg e => HBD.out ((Option.some.inj hg).trans e))
        rw [← List.map_take] at hRq
        refine (blkf_any D q _ (r.take q) d0 K wc HDm.out hRq (HK.out.mod HMm.out (fun e => HDK.out e))).mono ?_
        rintro e w3 ⟨rfl, hA3, hm3⟩
        have HM3 := Lib.hid (HMm.out.step hm3 (fun i _ e => e))
        have HA3 := Lib.hid hA3
        by_cases hqe : q = m
        · have h0 : m - q = 0 := by omega
          have h0z : ¬ (0 : Int) < ((m - q : Nat) : Int) := by omega
          have hr0 : r.drop q = [] := List.drop_of_length_le (by rw [HRL.out]; omega)
          have HFE : Hid (feed K d bs = ⟨shaH K (r.take q) d0.h, d0.x, d0.nx, d0.ln⟩) := Lib.hid (by
            rw [hfeed.out, feedA_of K d0 r HRL.out HQ.out, hr0, h0, HNX0.out]
            rfl)
          clear hqe hA3 hm3 hRq hr0
          go_wp2_with fail
          all_goals
            go_ret2
            exact ⟨rfl, by rw [HFE.out]; exact HA3.out, HM3.out⟩
        · have hce : ¬ c = q := by omega
          have h0z : (0 : Int) < ((m - q : Nat) : Int) := by omega
          have htl : (r.drop q).length = m - q := by rw [List.length_drop, HRL.out]
          have hk64 : m - q ≤ 64 := by have := HQ.out; omega
          have hrd := reads_cells (l := r.drop q) (by rw [List.map_drop]; exact reads_drop (k := q) HRR.out (by omega))
          have hcp := copy_x hA3 0 (m - q) (c - q) ⟨b, o + q, none⟩ (r.drop q) (by rw [htl]; omega) (by omega) (fun j v hj => by
            rw [addr_add]
            exact HM3.out.cell (hrd.2.2.2 j v hj) (fun e => HBD.out e))
          rw [lay_row htl, htl] at hcp
          have hfa := lay_fin hA3 htl hk64
          have HMf := Lib.hid ((mod_setRow HM3.out (g := D) (fun _ => rfl) (Dg.cells ⟨(Dg.mk (shaH K (r.take q) d0.h) d0.x d0.nx d0.ln).h, r.drop q ++ (Dg.mk (shaH K (r.take q) d0.h) d0.x d0.nx d0.ln).x.drop (m - q), (Dg.mk (shaH K (r.take q) d0.h) d0.x d0.nx d0.ln).nx, (Dg.mk (shaH K (r.take q) d0.h) d0.x d0.nx d0.ln).ln⟩)).setCell (p := ⟨D, 72, none⟩) (fun _ => rfl) (.int .i64 (m - q : Nat)))
          have HFA := Lib.hid hfa
          obtain ⟨W4, hW4⟩ : ∃ W4, W4 = w3.setRow D (Dg.cells ⟨(Dg.mk (shaH K (r.take q) d0.h) d0.x d0.nx d0.ln).h, r.drop q ++ (Dg.mk (shaH K (r.take q) d0.h) d0.x d0.nx d0.ln).x.drop (m - q), (Dg.mk (shaH K (r.take q) d0.h) d0.x d0.nx d0.ln).nx, (Dg.mk (shaH K (r.take q) d0.h) d0.x d0.nx d0.ln).ln⟩) := ⟨_, rfl⟩
          rw [← hW4] at hcp HFA HMf
          have hA4 : DAt W4 D ⟨shaH K (r.take q) d0.h, r.drop q ++ d0.x.drop (m - q), d0.nx, d0.ln⟩ := by
            rw [hW4]
            exact hA3.row hA3.hl (by rw [List.length_append, htl, List.length_drop, HDm.out.xl]; omega)
          have c4 := cell_nx hA4
          have f4 : W4.frozen? ⟨D, 72, none⟩ = false := block_free hA4.blk
          clear hfa hA4 hW4 hqe hA3 hm3 hRq hrd htl
          go_wp2_with fail
          go_ret2
          exact ⟨rfl, by rw [hfeed.out, feedA_of K d0 r HRL.out HQ.out]; exact HFA.out, HMf.out⟩
    · have h64z : ¬ (64 : Int) ≤ (m : Int) := by omega
      by_cases hm0 : m = 0
      · subst hm0
        go_wp2_with fail
        go_ret2
        refine ⟨rfl, ?_, HMm.out⟩
        have hr0 : r = [] := List.eq_nil_of_length_eq_zero HRL.out
        rw [hfeed.out, feedA_of K d0 r (m := 0) (q := 0) HRL.out rfl, hr0]
        have := HDm.out
        rw [show d0 = ⟨shaH K (List.take 0 []) d0.h, List.drop 0 [] ++ d0.x.drop (0 - 0), 0 - 0, d0.ln⟩ from by
          rw [List.take_zero, shaH_nil K HDm.out.hl]
          have := HNX0.out
          cases d0
          simp only at this
          subst this
          rfl] at this
        exact this
      · have hmz : (0 : Int) < (m : Int) := by omega
        have hk64 : m ≤ 64 := by omega
        have hcp := copy_x HDm.out 0 m c ⟨b, o, none⟩ r (by rw [hrl]; omega) (by omega) (fun j v hj => by
          rw [addr_add]
          exact HMm.out.cell (hrcell j v hj) (fun e => HBD.out e))
        rw [lay_row hrl, hrl] at hcp
        have HFA := Lib.hid (lay_fin HDm.out hrl hk64)
        have HMf := Lib.hid ((mod_setRow HMm.out (g := D) (fun _ => rfl) (Dg.cells ⟨d0.h, r ++ d0.x.drop m, d0.nx, d0.ln⟩)).setCell (p := ⟨D, 72, none⟩) (fun _ => rfl) (.int .i64 (m : Nat)))
        obtain ⟨W4, hW4⟩ : ∃ W4, W4 = wc.setRow D (Dg.cells ⟨d0.h, r ++ d0.x.drop m, d0.nx, d0.ln⟩) := ⟨_, rfl⟩
        rw [← hW4] at hcp HFA HMf
        have hA4 : DAt W4 D ⟨d0.h, r ++ d0.x.drop m, d0.nx, d0.ln⟩ := by
          rw [hW4]
          exact HDm.out.row HDm.out.hl (by rw [List.length_append, hrl, List.length_drop, HDm.out.xl]; omega)
        have c4 := cell_nx hA4
        have f4 : W4.frozen? ⟨D, 72, none⟩ = false := block_free hA4.blk
        clear hA4 hW4 hrl hrcell
        go_wp2_with fail
        go_ret2
        refine ⟨rfl, ?_, HMf.out⟩
        rw [hfeed.out, feedA_of K d0 r (m := m) (q := 0) HRL.out (by omega), List.take_zero, shaH_nil K HDm.out.hl]
        exact HFA.out
    --]REST
end Go.Proofs.YtnfagjemhbgfkaaDoor.Sha
