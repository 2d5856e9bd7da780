/- sha256: checkSum. -/
import Derived.Test.YtnfagjemhbgfkaaDoorSha3
import Derived.StillTailTactics
namespace Go.Proofs.YtnfagjemhbgfkaaDoor.Sha
open Go.ChangeShapes Go.WideShapes Go.ChangeAt Go.RowKit Go.Trav
set_option linter.unusedVariables false
set_option linter.unusedSimpArgs false
set_option maxRecDepth 100000
theorem Tryd.info67 : (Tryd.prog.info? 67).map (fun i => (i.zero, i.size, i.bytes)) = some (some (.agg #[.int .u8 0, .int .u8 0, .int .u8 0, .int .u8 0, .int .u8 0, .int .u8 0, .int .u8 0, .int .u8 0, .int .u8 0, .int .u8 0, .int .u8 0, .int .u8 0, .int .u8 0, .int .u8 0, .int .u8 0, .int .u8 0, .int .u8 0, .int .u8 0, .int .u8 0, .int .u8 0, .int .u8 0, .int .u8 0, .int .u8 0, .int .u8 0, .int .u8 0, .int .u8 0, .int .u8 0, .int .u8 0, .int .u8 0, .int .u8 0, .int .u8 0, .int .u8 0]), 32, 32) := by kernel_rfl
/-- A row of bytes in a block of its own. -/
structure BAt (w : World) (B : Nat) (T : TypeId) (l : List Int) : Prop where
  blk : w.heap[B]? = some (.cells (l.map u8V).toArray T (0, 0))
theorem BAt.cell {w : World} {B : Nat} {T : TypeId} {l : List Int} (h : BAt w B T l) {i : Nat} {z : Int} (hz : l[i]? = some z) : w.cell? ⟨B, i, none⟩ = some (.int .u8 z) :=
  block_cell h.blk (by rw [List.getElem?_toArray, List.getElem?_map, hz]; rfl)
theorem BAt.get {w : World} {B : Nat} {T : TypeId} {l : List Int} (h : BAt w B T l) {i : Nat} (hi : i < l.length) : ∃ z, w.cell? ⟨B, i, none⟩ = some (.int .u8 z) :=
  ⟨_, h.cell (List.getElem?_eq_getElem hi)⟩
theorem lays_row : ∀ (xs : List Int) (w : World) (B o : Nat) (T : TypeId) (l : List Int), BAt w B T l → o + xs.length ≤ l.length → BAt (lays w B o xs) B T (l.take o ++ xs ++ l.drop (o + xs.length)) ∧ Mod (fun q => q = B) w (lays w B o xs)
  | [], w, B, o, T, l, h, _ => by
    refine ⟨?_, Mod.refl _ _⟩
    simpa [lays] using h
  | x :: r, w, B, o, T, l, h, hl => by
    have h1 : BAt (w.setCell ⟨B, o, none⟩ (.int .u8 x)) B T (l.set o x) := ⟨by
      have := block_set (i := o) (u := u8V x) h.blk
      rw [Go.Trav.row_set] at this
      exact this⟩
    have hm1 : Mod (fun q => q = B) w (w.setCell ⟨B, o, none⟩ (.int .u8 x)) := (Mod.refl (fun q => q = B) w).setCell (p := ⟨B, o, none⟩) (fun _ => rfl) _
    rw [List.length_cons] at hl
    obtain ⟨h2, hm2⟩ := lays_row r _ B (o + 1) T (l.set o x) h1 (by rw [List.length_set]; omega)
    refine ⟨?_, hm1.trans hm2⟩
    have e : (l.set o x).take (o + 1) ++ r ++ (l.set o x).drop (o + 1 + r.length) = l.take o ++ (x :: r) ++ l.drop (o + (x :: r).length) := by
      rw [List.drop_set_of_lt (by omega), List.length_cons, List.set_eq_take_append_cons_drop, if_pos (by omega)]
      rw [List.take_append, List.take_of_length_le (by rw [List.length_take]; omega), List.length_take, Nat.min_eq_left (by omega), show o + 1 - o = 1 by omega]
      simp [Nat.add_assoc, Nat.add_comm 1]
    rw [e] at h2
    exact h2
/-- A number into a row of bytes. -/
theorem put32 (B o n cap : Nat) (T : TypeId) (l : List Int) (x : Int) (w : World) (h : BAt w B T l) (hn : 4 ≤ n) (ho : o + 4 ≤ l.length) :
    Calls Tryd.prog 85 #[.slice (some ⟨B, o, none⟩) n cap, .int .u32 x] w fun e w' => e = .returned (.tuple #[]) ∧ BAt w' B T (l.take o ++ be4 x ++ l.drop (o + 4)) ∧ Mod (fun q => q = B) w w' := by
  obtain ⟨z0, c0⟩ := h.get (i := o) (by omega)
  obtain ⟨z1, c1⟩ := h.get (i := o + 1) (by omega)
  obtain ⟨z2, c2⟩ := h.get (i := o + 2) (by omega)
  obtain ⟨z3, c3⟩ := h.get (i := o + 3) (by omega)
  refine (p32f_any B o n cap x z0 z1 z2 z3 w hn c0 c1 c2 c3 (fun j => block_free h.blk)).mono ?_
  rintro e w' ⟨rfl, rfl⟩
  exact ⟨rfl, lays_row (be4 x) w B o T l h ho⟩
theorem put64 (B o n cap : Nat) (T : TypeId) (l : List Int) (x : Int) (w : World) (h : BAt w B T l) (hn : 8 ≤ n) (ho : o + 8 ≤ l.length) :
    Calls Tryd.prog 84 #[.slice (some ⟨B, o, none⟩) n cap, .int .u64 x] w fun e w' => e = .returned (.tuple #[]) ∧ BAt w' B T (l.take o ++ be8 x ++ l.drop (o + 8)) ∧ Mod (fun q => q = B) w w' := by
  obtain ⟨z0, c0⟩ := h.get (i := o) (by omega)
  obtain ⟨z1, c1⟩ := h.get (i := o + 1) (by omega)
  obtain ⟨z2, c2⟩ := h.get (i := o + 2) (by omega)
  obtain ⟨z3, c3⟩ := h.get (i := o + 3) (by omega)
  obtain ⟨z4, c4⟩ := h.get (i := o + 4) (by omega)
  obtain ⟨z5, c5⟩ := h.get (i := o + 5) (by omega)
  obtain ⟨z6, c6⟩ := h.get (i := o + 6) (by omega)
  obtain ⟨z7, c7⟩ := h.get (i := o + 7) (by omega)
  refine (p64f_any B o n cap x z0 z1 z2 z3 z4 z5 z6 z7 w hn c0 c1 c2 c3 c4 c5 c6 c7 (fun j => block_free h.blk)).mono ?_
  rintro e w' ⟨rfl, rfl⟩
  exact ⟨rfl, lays_row (be8 x) w B o T l h ho⟩
/-- How many bytes of padding stand ahead of the length. -/
def padT (L : Nat) : Nat := if L % 64 < 56 then 56 - L % 64 else 120 - L % 64
def padB (L : Nat) : List Int := (128 :: List.replicate (padT L - 1) 0) ++ be8 ((L * 8 : Nat) : Int)
def sumD (K : Nat → Int) (d : Dg) (L : Nat) : Dg := feed K d (padB L)
def outB (h : List Int) : List Int := h.flatMap be4
theorem alloc2g (w : World) (c1 c2 : Array Value) (T1 T2 : TypeId) (l1 l2 : List Int) (h1 : c1 = (l1.map u8V).toArray) (h2 : c2 = (l2.map u8V).toArray) : ∃ W1, W1 = ((w.alloc (.cells c1 T1)).alloc (.cells c2 T2)) ∧ BAt W1 w.heap.size T1 l1 ∧ BAt W1 (w.heap.size + 1) T2 l2 ∧ Below w.heap.size w W1 ∧ W1.heap.size = w.heap.size + 2 := by
  subst h1 h2
  have e : (w.alloc (.cells (l1.map u8V).toArray T1)).heap.size = w.heap.size + 1 := by simp
  refine ⟨_, rfl, ⟨?_⟩, ⟨?_⟩, ?_, ?_⟩
  · exact block_alloc (heap_alloc_new w _)
  · have h := heap_alloc_new (w.alloc (.cells (l1.map u8V).toArray T1)) (.cells (l2.map u8V).toArray T2)
    rw [e] at h
    exact h
  · exact ((Below.refl _ _).alloc (Nat.le_refl _) _).alloc (by rw [e]; omega) _
  · simp
theorem alloc2 (w : World) : ∃ W1, W1 = (w.alloc (.cells #[.int .u8 0, .int .u8 0, .int .u8 0, .int .u8 0, .int .u8 0, .int .u8 0, .int .u8 0, .int .u8 0, .int .u8 0, .int .u8 0, .int .u8 0, .int .u8 0, .int .u8 0, .int .u8 0, .int .u8 0, .int .u8 0, .int .u8 0, .int .u8 0, .int .u8 0, .int .u8 0, .int .u8 0, .int .u8 0, .int .u8 0, .int .u8 0, .int .u8 0, .int .u8 0, .int .u8 0, .int .u8 0, .int .u8 0, .int .u8 0, .int .u8 0, .int .u8 0] 67)).alloc (.cells (Tryd.zeroCells141.setIfInBounds 0 (.int .u8 128)) 141) ∧ BAt W1 w.heap.size 67 (List.replicate 32 0) ∧ BAt W1 (w.heap.size + 1) 141 (128 :: List.replicate 71 0) ∧ Below w.heap.size w W1 ∧ W1.heap.size = w.heap.size + 2 :=
  alloc2g w _ _ _ _ (List.replicate 32 0) (128 :: List.replicate 71 0) rfl (by kernel_rfl)
theorem BAt.reads {w : World} {B : Nat} {T : TypeId} {l : List Int} (h : BAt w B T l) {k cap : Nat} (hk : k ≤ l.length) (hc : k ≤ cap) (hm : cap ≤ maxLen) : Reads w (.slice (some ⟨B, 0, none⟩) k cap) k 1 ((l.take k).map u8V) := by
  refine ⟨_, _, rfl, hc, hm, (fun h => by cases h), by simp; omega, fun _ => ⟨B, 0, rfl, fun j u hj => ?_⟩⟩
  rw [Nat.zero_add]
  rw [List.getElem?_map, List.getElem?_take] at hj
  split at hj
  · cases hz : l[j]? with
    | none => rw [hz] at hj; cases hj
    | some z =>
      rw [hz] at hj
      obtain rfl : u8V z = u := by simpa using hj
      exact h.cell hz
  · cases hj
theorem BAt.mod {w w' : World} {B : Nat} {T : TypeId} {l : List Int} {F : Nat → Prop} (h : BAt w B T l) (hm : Mod F w w') (hn : ¬ F B) : BAt w' B T l := ⟨hm.heap h.blk hn⟩
theorem DAt.mod {w w' : World} {D : Nat} {d : Dg} {F : Nat → Prop} (h : DAt w D d) (hm : Mod F w w') (hn : ¬ F D) : DAt w' D d := ⟨hm.heap h.blk hn, h.hl, h.xl⟩
theorem be8_len (x : Int) : (be8 x).length = 8 := rfl
theorem be4_len (x : Int) : (be4 x).length = 4 := rfl
theorem pad_take (L t : Nat) (ht : t = padT L) (h1 : 1 ≤ t) (h2 : t ≤ 64) (z : List Int) : ((128 :: List.replicate 71 0).take t ++ be8 ((L : Int) * 8) ++ z).take (t + 8) = padB L := by
  have hl : ((128 :: List.replicate 71 (0 : Int)).take t).length = t := by simp; omega
  rw [List.take_append_of_le_length (by rw [List.length_append, hl, be8_len]; omega), List.take_of_length_le (by rw [List.length_append, hl, be8_len]; omega), padB, ← ht]
  obtain ⟨s, rfl⟩ : ∃ s, t = s + 1 := ⟨t - 1, by omega⟩
  rw [List.take_succ_cons, List.take_replicate, Nat.min_eq_left (by omega), Nat.add_sub_cancel, Int.natCast_mul]
  rfl
theorem pad_len (L t : Nat) (ht : t = padT L) (h1 : 1 ≤ t) : (padB L).length = t + 8 := by
  rw [padB, ← ht, List.length_append, be8_len, List.length_cons, List.length_replicate]
  omega
theorem sum_nx (K : Nat → Int) (d : Dg) (L : Nat) (hnx : d.nx = L % 64) : (sumD K d L).nx = 0 := by
  have hl := pad_len L _ rfl (by rw [padT]; split <;> omega)
  have h3 : (L % 64 + padT L + 8) % 64 = 0 ∧ 64 ≤ L % 64 + padT L + 8 := by rw [padT]; split <;> omega
  show (midR d (padB L)).length % 64 = 0
  unfold midR
  split
  · rw [List.length_drop, hl, hnx]
    omega
  · rw [hl]
    omega
theorem alloc1g (w : World) (c : Array Value) (T : TypeId) (l : List Int) (h : c = (l.map u8V).toArray) : ∃ W1, W1 = w.alloc (.cells c T) ∧ BAt W1 w.heap.size T l ∧ Below w.heap.size w W1 ∧ W1.heap.size = w.heap.size + 1 := by
  subst h
  exact ⟨_, rfl, ⟨heap_alloc_new w _⟩, (Below.refl _ _).alloc (Nat.le_refl _) _, by simp⟩
theorem alloc1 (w : World) : ∃ W1, W1 = w.alloc (.cells #[.int .u8 0, .int .u8 0, .int .u8 0, .int .u8 0, .int .u8 0, .int .u8 0, .int .u8 0, .int .u8 0, .int .u8 0, .int .u8 0, .int .u8 0, .int .u8 0, .int .u8 0, .int .u8 0, .int .u8 0, .int .u8 0, .int .u8 0, .int .u8 0, .int .u8 0, .int .u8 0, .int .u8 0, .int .u8 0, .int .u8 0, .int .u8 0, .int .u8 0, .int .u8 0, .int .u8 0, .int .u8 0, .int .u8 0, .int .u8 0, .int .u8 0, .int .u8 0] 67) ∧ BAt W1 w.heap.size 67 (List.replicate 32 0) ∧ Below w.heap.size w W1 ∧ W1.heap.size = w.heap.size + 1 :=
  alloc1g w _ _ (List.replicate 32 0) rfl
theorem BAt.drew {w : World} {B : Nat} {T : TypeId} {l : List Int} (h : BAt w B T l) : BAt w.drew B T l := ⟨h.blk⟩
theorem DAt.drew {w : World} {D : Nat} {d : Dg} (h : DAt w D d) : DAt w.drew D d := ⟨h.blk, h.hl, h.xl⟩
theorem lay_len {l : List Int} (hl : l.length = 32) (o : Nat) (x : Int) (ho : o + 4 ≤ 32) : (l.take o ++ be4 x ++ l.drop (o + 4)).length = 32 := by
  simp only [List.length_append, List.length_take, List.length_drop, be4_len, hl]
  omega
theorem lay_step (p : List Int) (x : Int) (o k : Nat) (hp : p.length = o) : (p ++ List.replicate (k + 4) 0).take o ++ be4 x ++ (p ++ List.replicate (k + 4) 0).drop (o + 4) = (p ++ be4 x) ++ List.replicate k 0 := by
  subst hp
  rw [List.take_left, ← List.drop_drop, List.drop_left, List.drop_replicate, Nat.add_sub_cancel]
theorem kat_lt {w : World} {K : Nat → Int} (h : KAt w K) : 1 < w.heap.size := by
  have := h 0 (by decide)
  rcases Nat.lt_or_ge 1 w.heap.size with hl | hg
  · exact hl
  · rw [World.cell?, Array.getElem?_eq_none hg] at this
    cases this
set_option maxHeartbeats 8000000 in
theorem check_any (D L : Nat) (d : Dg) (K : Nat → Int) (w : World) (h : DAt w D d) (hK : KAt w K) (hDK : 1 ≠ D) (hL : d.ln = (L : Int)) (hLn : L ≤ 65536) (hnx : d.nx = L % 64) :
    Calls Tryd.prog 80 #[.pointer (some ⟨D, 0, none⟩)] w fun e w' => e = .returned (.agg ((outB (sumD K d L).h).map u8V).toArray) ∧ Mod (fun q => q = D) w w' ∧ DAt w' D (sumD K d L) := by
  have cl := cell_ln h
  rw [hL] at cl
  have HH := Lib.hid h
  have HK := Lib.hid hK
  have HDK := Lib.hid hDK
  have HLN := Lib.hid hL
  have HNX := Lib.hid hnx
  have hDlt := block_lt h.blk
  have hKlt := kat_lt hK
  clear h hK hDK hL hnx
  go_enter Tryd.func80, Tryd.ntmps80
  obtain ⟨W1, hW1, hBR, hBT, hBl, hsz⟩ := alloc2 w
  have cl1 : W1.cell? ⟨D, 73, none⟩ = some (.int .u64 (L : Int)) := by rw [hBl.cell (p := ⟨D, 73, none⟩) hDlt]; exact cl
  have HBR := Lib.hid hBR
  have HBT := Lib.hid hBT
  have HBL := Lib.hid hBl
  have HSZ := Lib.hid hsz
  clear hBR hBT hBl hsz
  go_upto_if 15 with fail
  rw [← hW1]
  clear hW1
  go_cut [5, 15] from 16 (fun a5 a15 wc => a5 = .int .u64 (padT L : Nat) ∧ wc = W1)
  case first =>
    by_cases h56 : L % 64 < 56
    · have h56z : (L : Int) % 64 < 56 := by omega
      go_wp2_with fail
      go_meet
      case rel => exact ⟨by rw [padT, if_pos h56]; congr 1; omega, rfl⟩
    · have h56z : ¬ (L : Int) % 64 < 56 := by omega
      go_wp2_with fail
      go_meet
      case rel => exact ⟨by rw [padT, if_neg h56]; congr 1; omega, rfl⟩
  case rest =>
    obtain ⟨rfl, rfl⟩ := hcut
    obtain ⟨t, ht⟩ : ∃ t, t = padT L := ⟨_, rfl⟩
    rw [← ht]
    have ht1 : 1 ≤ t ∧ t ≤ 64 ∧ (L % 64 + t + 8) % 64 = 0 ∧ 64 ≤ L % 64 + t + 8 := by rw [ht, padT]; split <;> omega
    obtain ⟨ht1, ht2, ht3, ht4⟩ := ht1
    have HT := Lib.hid ht
    clear ht
    have t1 : (0 : Int) ≤ (t : Int) := by omega
    obtain ⟨t8, ht8⟩ : ∃ t8 : Nat, t8 = t + 8 := ⟨_, rfl⟩
    have h8 : (t : Int) + 8 = (t8 : Int) := by omega
    have h8w : IntKind.u64.wrap (t8 : Int) = (t8 : Int) := by simp [IntKind.wrap, IntKind.bits, IntKind.signed]; omega
    have b8 : (t8 : Int) ≤ 72 := by omega
    have b80 : (0 : Int) ≤ (t8 : Int) := by omega
    have b81 : (t : Int) ≤ (t8 : Int) := by omega
    have HT8 := Lib.hid ht8
    clear ht8
    have hlen : (128 :: List.replicate 71 (0 : Int)).length = 72 := by simp
    have hDne : D ≠ w.heap.size + 1 := by omega
    go_wp2_with fail
    refine (put64 (w.heap.size + 1) t (t8 - t) (72 - t) 141 _ ((L : Int) * 8) wc HBT.out (by have := HT8.out; omega) (by rw [hlen]; omega)).mono ?_
    rintro e w2 ⟨rfl, hB2, hm2⟩
    have hpl := pad_len L t HT.out ht1
    have hRp : Reads w2 (.slice (some ⟨w.heap.size + 1, 0, none⟩) t8 72) t8 1 ((padB L).map u8V) := by
      have := hB2.reads (k := t8) (cap := 72) (by have := HT8.out; simp only [List.length_append, List.length_take, List.length_drop, hlen, be8_len]; omega) (by omega) (by decide)
      rw [HT8.out, pad_take L t HT.out ht1 ht2, ← HT8.out] at this
      exact this
    have hD2 : DAt w2 D d := (HH.out.mod (Mod.of_below (F := fun _ => False) HBL.out) (fun h => h)).mod hm2 (fun e => hDne e)
    have hK2 : KAt w2 K := (HK.out.mod (Mod.of_below (F := fun _ => False) HBL.out) (fun h => h)).mod hm2 (fun e => by omega)
    have hw2 := write_any D (w.heap.size + 1) 0 t8 72 (padB L) d K w2 hD2 hRp hK2 (fun e => hDne e.symm) HDK.out (by omega) (by have := HNX.out; have := HT8.out; omega)
    have HW2 := Lib.hid hw2
    have HM2 : Hid (Mod (fun q => q = w.heap.size + 1) wc w2) := Lib.hid hm2
    have HB2 := Lib.hid (hm2.heap HBR.out.blk (by omega))
    clear hB2 hm2 hRp hD2 hK2 hw2
    go_wp2_with fail
    refine HW2.out.mono ?_
    rintro e w3 ⟨rfl, hD3, hm3⟩
    have hn3 := sum_nx K d L HNX.out
    have cn3 := cell_nx hD3
    rw [show (feed K d (padB L)).nx = 0 from hn3] at cn3
    have HD3 := Lib.hid hD3
    have HM3 := Lib.hid hm3
    clear hD3 hm3 hn3 hpl
    obtain ⟨B, hBe⟩ : ∃ B, B = w3.heap.size := ⟨_, rfl⟩
    obtain ⟨V0, hV0, hBV, hBlV, hszV⟩ := alloc1 w3
    rw [← hBe] at hBV hBlV
    have hsz3 : wc.heap.size ≤ w3.heap.size := Nat.le_trans HM2.out.size HM3.out.size
    have hszw := HSZ.out
    have hBD : D ≠ B := by omega
    have hB2 : w.heap.size ≠ B := by omega
    have hBw : w.heap.size < B := by omega
    have HD0 : Hid (DAt V0 D (sumD K d L)) := Lib.hid (HD3.out.mod (Mod.of_below (F := fun _ => False) (hBe ▸ hBlV)) (fun h => h))
    have HMV : Hid (Mod (fun q => q = D) w V0) := Lib.hid (((Mod.of_below (F := fun q => q = D) HBL.out).step HM2.out (fun i hi e => by omega)).trans HM3.out |>.trans (Mod.of_below (hBe ▸ hBlV)))
    have HL0 : Hid ((List.replicate 32 (0 : Int)).length = 32) := Lib.hid (by simp)
    have HBV0 := Lib.hid hBV
    have HR0 : Hid (BAt V0 w.heap.size 67 (List.replicate 32 0)) := Lib.hid (((HBR.out.mod HM2.out (by omega)).mod HM3.out (by omega)).mod (Mod.of_below (F := fun _ => False) (hBe ▸ hBlV)) (fun h => h))
    obtain ⟨g0, g1, g2, g3, g4, g5, g6, g7, hg⟩ := list8i HD3.out.hl
    obtain ⟨l0, hl0⟩ : ∃ l0, l0 = List.replicate 32 (0 : Int) := ⟨_, rfl⟩
    have HG := Lib.hid hg
    have HLZ := Lib.hid hl0
    rw [← hl0] at HL0 HBV0
    clear hg hBV hBlV hszV hsz3 hl0
    go_wp2_with fail
    rw [← hV0, ← hBe]
    clear hV0 hBe cn3
    have c0 : V0.cell? ⟨D, 0, none⟩ = some (.int .u32 g0) := cell_h HD0.out (by have := HG.out; rw [show (sumD K d L).h = _ from this]; rfl)
    go_still_tail 6, (by kernel_rfl)
    change wpList _ _ _ _ _ V0.drew
    clear c0
    go_wp2_with fail
    refine (put32 B 0 32 32 67 l0 g0 V0.drew HBV0.out.drew (by omega) (by rw [HL0.out]; omega)).mono ?_
    rintro e V1 ⟨rfl, hb, hm⟩
    obtain ⟨l1, hl⟩ : ∃ l1, l1 = l0.take 0 ++ be4 g0 ++ l0.drop (0 + 4) := ⟨_, rfl⟩
    have HL1 : Hid (l1.length = 32) := Lib.hid (by rw [hl]; exact lay_len HL0.out 0 g0 (by omega))
    rw [← hl] at hb
    have HE1 := Lib.hid hl
    have HBV1 := Lib.hid hb
    have HD1 := Lib.hid (HD0.out.drew.mod hm hBD)
    have HR1 := Lib.hid (HR0.out.drew.mod hm hB2)
    have HM1v : Hid (Mod (fun q => q = B) V0 V1) := Lib.hid ((mod_drew (Mod.refl _ _)).trans hm)
    clear hl hb hm
    go_wp2_with fail
    have c1 : V1.cell? ⟨D, 1, none⟩ = some (.int .u32 g1) := cell_h HD1.out (by have := HG.out; rw [show (sumD K d L).h = _ from this]; rfl)
    go_still_tail 6, (by kernel_rfl)
    change wpList _ _ _ _ _ V1.drew
    clear c1
    go_wp2_with fail
    refine (put32 B 4 28 28 67 l1 g1 V1.drew HBV1.out.drew (by omega) (by rw [HL1.out]; omega)).mono ?_
    rintro e V2 ⟨rfl, hb, hm⟩
    obtain ⟨l2, hl⟩ : ∃ l2, l2 = l1.take 4 ++ be4 g1 ++ l1.drop (4 + 4) := ⟨_, rfl⟩
    have HL2 : Hid (l2.length = 32) := Lib.hid (by rw [hl]; exact lay_len HL1.out 4 g1 (by omega))
    rw [← hl] at hb
    have HE2 := Lib.hid hl
    have HBV2 := Lib.hid hb
    have HD2 := Lib.hid (HD1.out.drew.mod hm hBD)
    have HR2 := Lib.hid (HR1.out.drew.mod hm hB2)
    have HM2v : Hid (Mod (fun q => q = B) V1 V2) := Lib.hid ((mod_drew (Mod.refl _ _)).trans hm)
    clear hl hb hm
    go_wp2_with fail
    have c2 : V2.cell? ⟨D, 2, none⟩ = some (.int .u32 g2) := cell_h HD2.out (by have := HG.out; rw [show (sumD K d L).h = _ from this]; rfl)
    go_still_tail 6, (by kernel_rfl)
    change wpList _ _ _ _ _ V2.drew
    clear c2
    go_wp2_with fail
    refine (put32 B 8 24 24 67 l2 g2 V2.drew HBV2.out.drew (by omega) (by rw [HL2.out]; omega)).mono ?_
    rintro e V3 ⟨rfl, hb, hm⟩
    obtain ⟨l3, hl⟩ : ∃ l3, l3 = l2.take 8 ++ be4 g2 ++ l2.drop (8 + 4) := ⟨_, rfl⟩
    have HL3 : Hid (l3.length = 32) := Lib.hid (by rw [hl]; exact lay_len HL2.out 8 g2 (by omega))
    rw [← hl] at hb
    have HE3 := Lib.hid hl
    have HBV3 := Lib.hid hb
    have HD3 := Lib.hid (HD2.out.drew.mod hm hBD)
    have HR3 := Lib.hid (HR2.out.drew.mod hm hB2)
    have HM3v : Hid (Mod (fun q => q = B) V2 V3) := Lib.hid ((mod_drew (Mod.refl _ _)).trans hm)
    clear hl hb hm
    go_wp2_with fail
    have c3 : V3.cell? ⟨D, 3, none⟩ = some (.int .u32 g3) := cell_h HD3.out (by have := HG.out; rw [show (sumD K d L).h = _ from this]; rfl)
    go_still_tail 6, (by kernel_rfl)
    change wpList _ _ _ _ _ V3.drew
    clear c3
    go_wp2_with fail
    refine (put32 B 12 20 20 67 l3 g3 V3.drew HBV3.out.drew (by omega) (by rw [HL3.out]; omega)).mono ?_
    rintro e V4 ⟨rfl, hb, hm⟩
    obtain ⟨l4, hl⟩ : ∃ l4, l4 = l3.take 12 ++ be4 g3 ++ l3.drop (12 + 4) := ⟨_, rfl⟩
    have HL4 : Hid (l4.length = 32) := Lib.hid (by rw [hl]; exact lay_len HL3.out 12 g3 (by omega))
    rw [← hl] at hb
    have HE4 := Lib.hid hl
    have HBV4 := Lib.hid hb
    have HD4 := Lib.hid (HD3.out.drew.mod hm hBD)
    have HR4 := Lib.hid (HR3.out.drew.mod hm hB2)
    have HM4v : Hid (Mod (fun q => q = B) V3 V4) := Lib.hid ((mod_drew (Mod.refl _ _)).trans hm)
    clear hl hb hm
    go_wp2_with fail
    have c4 : V4.cell? ⟨D, 4, none⟩ = some (.int .u32 g4) := cell_h HD4.out (by have := HG.out; rw [show (sumD K d L).h = _ from this]; rfl)
    go_still_tail 6, (by kernel_rfl)
    change wpList _ _ _ _ _ V4.drew
    clear c4
    go_wp2_with fail
    refine (put32 B 16 16 16 67 l4 g4 V4.drew HBV4.out.drew (by omega) (by rw [HL4.out]; omega)).mono ?_
    rintro e V5 ⟨rfl, hb, hm⟩
    obtain ⟨l5, hl⟩ : ∃ l5, l5 = l4.take 16 ++ be4 g4 ++ l4.drop (16 + 4) := ⟨_, rfl⟩
    have HL5 : Hid (l5.length = 32) := Lib.hid (by rw [hl]; exact lay_len HL4.out 16 g4 (by omega))
    rw [← hl] at hb
    have HE5 := Lib.hid hl
    have HBV5 := Lib.hid hb
    have HD5 := Lib.hid (HD4.out.drew.mod hm hBD)
    have HR5 := Lib.hid (HR4.out.drew.mod hm hB2)
    have HM5v : Hid (Mod (fun q => q = B) V4 V5) := Lib.hid ((mod_drew (Mod.refl _ _)).trans hm)
    clear hl hb hm
    go_wp2_with fail
    have c5 : V5.cell? ⟨D, 5, none⟩ = some (.int .u32 g5) := cell_h HD5.out (by have := HG.out; rw [show (sumD K d L).h = _ from this]; rfl)
    go_still_tail 6, (by kernel_rfl)
    change wpList _ _ _ _ _ V5.drew
    clear c5
    go_wp2_with fail
    refine (put32 B 20 12 12 67 l5 g5 V5.drew HBV5.out.drew (by omega) (by rw [HL5.out]; omega)).mono ?_
    rintro e V6 ⟨rfl, hb, hm⟩
    obtain ⟨l6, hl⟩ : ∃ l6, l6 = l5.take 20 ++ be4 g5 ++ l5.drop (20 + 4) := ⟨_, rfl⟩
    have HL6 : Hid (l6.length = 32) := Lib.hid (by rw [hl]; exact lay_len HL5.out 20 g5 (by omega))
    rw [← hl] at hb
    have HE6 := Lib.hid hl
    have HBV6 := Lib.hid hb
    have HD6 := Lib.hid (HD5.out.drew.mod hm hBD)
    have HR6 := Lib.hid (HR5.out.drew.mod hm hB2)
    have HM6v : Hid (Mod (fun q => q = B) V5 V6) := Lib.hid ((mod_drew (Mod.refl _ _)).trans hm)
    clear hl hb hm
    go_wp2_with fail
    have c6 : V6.cell? ⟨D, 6, none⟩ = some (.int .u32 g6) := cell_h HD6.out (by have := HG.out; rw [show (sumD K d L).h = _ from this]; rfl)
    go_still_tail 6, (by kernel_rfl)
    change wpList _ _ _ _ _ V6.drew
    clear c6
    go_wp2_with fail
    refine (put32 B 24 8 8 67 l6 g6 V6.drew HBV6.out.drew (by omega) (by rw [HL6.out]; omega)).mono ?_
    rintro e V7 ⟨rfl, hb, hm⟩
    obtain ⟨l7, hl⟩ : ∃ l7, l7 = l6.take 24 ++ be4 g6 ++ l6.drop (24 + 4) := ⟨_, rfl⟩
    have HL7 : Hid (l7.length = 32) := Lib.hid (by rw [hl]; exact lay_len HL6.out 24 g6 (by omega))
    rw [← hl] at hb
    have HE7 := Lib.hid hl
    have HBV7 := Lib.hid hb
    have HD7 := Lib.hid (HD6.out.drew.mod hm hBD)
    have HR7 := Lib.hid (HR6.out.drew.mod hm hB2)
    have HM7v : Hid (Mod (fun q => q = B) V6 V7) := Lib.hid ((mod_drew (Mod.refl _ _)).trans hm)
    clear hl hb hm
    have ci : V7.cell? ⟨D, 74, none⟩ = some (.bool false) := cell_is HD7.out
    go_wp2_with fail
    clear ci
    have c7 : V7.cell? ⟨D, 7, none⟩ = some (.int .u32 g7) := cell_h HD7.out (by have := HG.out; rw [show (sumD K d L).h = _ from this]; rfl)
    go_still_tail 6, (by kernel_rfl)
    change wpList _ _ _ _ _ V7.drew
    clear c7
    go_wp2_with fail
    refine (put32 B 28 4 4 67 l7 g7 V7.drew HBV7.out.drew (by omega) (by rw [HL7.out]; omega)).mono ?_
    rintro e V8 ⟨rfl, hb, hm⟩
    obtain ⟨l8, hl⟩ : ∃ l8, l8 = l7.take 28 ++ be4 g7 ++ l7.drop (28 + 4) := ⟨_, rfl⟩
    have HL8 : Hid (l8.length = 32) := Lib.hid (by rw [hl]; exact lay_len HL7.out 28 g7 (by omega))
    rw [← hl] at hb
    have HE8 := Lib.hid hl
    have HBV8 := Lib.hid hb
    have HD8 := Lib.hid (HD7.out.drew.mod hm hBD)
    have HR8 := Lib.hid (HR7.out.drew.mod hm hB2)
    have HM8v : Hid (Mod (fun q => q = B) V7 V8) := Lib.hid ((mod_drew (Mod.refl _ _)).trans hm)
    clear hl hb hm
    have hs8 : ((l8.map u8V).toArray).size = 32 := by simpa using HL8.out
    have hi8 : (Tryd.prog.info? 67).map (·.size) = some ((l8.map u8V).toArray).size := by
      rw [hs8]
      obtain ⟨i0, hi0, -, hz1, -⟩ := info_parts Tryd.info67
      rw [hi0]
      simp [hz1]
    have ho8 : ((List.replicate 32 (0 : Int)).map u8V).toArray.size = ((l8.map u8V).toArray).size := by rw [hs8]; simp
    have h18 : ((l8.map u8V).toArray).all (·.oneCell') = true := Array.all_eq_true_iff_forall_mem.2 (fun v hv => u8V_one l8 v (by simpa using hv))
    have HI8 := Lib.hid hi8
    have HO8 := Lib.hid ho8
    have H18 := Lib.hid h18
    clear hs8 hi8 ho8 h18
    go_wp2_with (first | (refine wpList_load_row rfl 67 (.tmp 7) rfl B rfl 67 _ (0, 0) _ HBV8.out.blk Tryd.underlying67 rfl HI8.out ?_) | (refine wpList_store_row rfl 67 (.tmp 2) (.tmp 103) rfl w.heap.size _ rfl rfl 67 _ HR8.out.blk HI8.out HO8.out H18.out ?_))
    have hM8 : Mod (fun q => q = D) w V8 := by
      have hb : ∀ i, i < w.heap.size → i = B → i = D := fun i h1 h2 => by omega
      exact ((((((((HMV.out.step HM1v.out hb).step HM2v.out hb).step HM3v.out hb).step HM4v.out hb).step HM5v.out hb).step HM6v.out hb).step HM7v.out hb).step HM8v.out hb)
    have e1 : l1 = (([] : List Int) ++ be4 g0) ++ List.replicate 28 0 := by rw [HE1.out, HLZ.out]; exact lay_step ([] : List Int) g0 0 28 rfl
    have e2 : l2 = ((([] : List Int) ++ be4 g0) ++ be4 g1) ++ List.replicate 24 0 := by rw [HE2.out, e1]; exact lay_step (([] : List Int) ++ be4 g0) g1 4 24 rfl
    have e3 : l3 = (((([] : List Int) ++ be4 g0) ++ be4 g1) ++ be4 g2) ++ List.replicate 20 0 := by rw [HE3.out, e2]; exact lay_step ((([] : List Int) ++ be4 g0) ++ be4 g1) g2 8 20 rfl
    have e4 : l4 = ((((([] : List Int) ++ be4 g0) ++ be4 g1) ++ be4 g2) ++ be4 g3) ++ List.replicate 16 0 := by rw [HE4.out, e3]; exact lay_step (((([] : List Int) ++ be4 g0) ++ be4 g1) ++ be4 g2) g3 12 16 rfl
    have e5 : l5 = (((((([] : List Int) ++ be4 g0) ++ be4 g1) ++ be4 g2) ++ be4 g3) ++ be4 g4) ++ List.replicate 12 0 := by rw [HE5.out, e4]; exact lay_step ((((([] : List Int) ++ be4 g0) ++ be4 g1) ++ be4 g2) ++ be4 g3) g4 16 12 rfl
    have e6 : l6 = ((((((([] : List Int) ++ be4 g0) ++ be4 g1) ++ be4 g2) ++ be4 g3) ++ be4 g4) ++ be4 g5) ++ List.replicate 8 0 := by rw [HE6.out, e5]; exact lay_step (((((([] : List Int) ++ be4 g0) ++ be4 g1) ++ be4 g2) ++ be4 g3) ++ be4 g4) g5 20 8 rfl
    have e7 : l7 = (((((((([] : List Int) ++ be4 g0) ++ be4 g1) ++ be4 g2) ++ be4 g3) ++ be4 g4) ++ be4 g5) ++ be4 g6) ++ List.replicate 4 0 := by rw [HE7.out, e6]; exact lay_step ((((((([] : List Int) ++ be4 g0) ++ be4 g1) ++ be4 g2) ++ be4 g3) ++ be4 g4) ++ be4 g5) g6 24 4 rfl
    have e8 : l8 = ((((((((([] : List Int) ++ be4 g0) ++ be4 g1) ++ be4 g2) ++ be4 g3) ++ be4 g4) ++ be4 g5) ++ be4 g6) ++ be4 g7) ++ List.replicate 0 0 := by rw [HE8.out, e7]; exact lay_step (((((((([] : List Int) ++ be4 g0) ++ be4 g1) ++ be4 g2) ++ be4 g3) ++ be4 g4) ++ be4 g5) ++ be4 g6) g7 28 0 rfl
    have hl8 : l8 = outB (sumD K d L).h := by
      show l8 = outB (feed K d (padB L)).h
      rw [HG.out, e8]
      rfl
    refine bodyPost_ret (v := .agg (l8.map u8V).toArray) ?_ rfl ⟨by rw [hl8], mod_setRow hM8 (fun h => absurd h (Nat.lt_irrefl _)) _, ⟨by rw [setRow_other _ _ _ _ (by omega)]; exact HD8.out.blk, HD8.out.hl, HD8.out.xl⟩⟩
    exact results_cell_row rfl _ _ w.heap.size 67 _ (0, 0) _ rfl (setRow_heap _ _ _ _ _ _ HR8.out.blk) Tryd.underlying67 rfl HI8.out
end Go.Proofs.YtnfagjemhbgfkaaDoor.Sha
