/- sha256: blockGeneric. -/
import Derived.Test.YtnfagjemhbgfkaaDoorSha0
import Derived.StillTailTactics
import Derived.Deep.CutRange
namespace Go.Proofs.YtnfagjemhbgfkaaDoor.Sha
open Go.ChangeShapes Go.WideShapes Go.ChangeAt Go.RowKit Go.Trav
set_option linter.unusedVariables false
set_option linter.unusedSimpArgs false
set_option maxRecDepth 100000
def u32V (x : Int) : Value := .int .u32 x
def u8V (x : Int) : Value := .int .u8 x
/-- The table of numbers, whatever it holds. -/
def KAt (w : World) (K : Nat → Int) : Prop := ∀ i, i < 64 → w.cell? ⟨1, i, none⟩ = some (.int .u32 (K i))
/-- A digest in memory: eight numbers, a chunk of 64 bytes, how many wait, how many came. -/
structure Dg where
  h : List Int
  x : List Int
  nx : Nat
  ln : Int
def Dg.cells (d : Dg) : Array Value := (d.h.map u32V ++ d.x.map u8V ++ [Value.int .i64 d.nx, Value.int .u64 d.ln, Value.bool false]).toArray
structure DAt (w : World) (D : Nat) (d : Dg) : Prop where
  blk : w.heap[D]? = some (.cells d.cells 119 (0, 0))
  hl : d.h.length = 8
  xl : d.x.length = 64
theorem list8i {l : List Int} (h : l.length = 8) : ∃ a b c d e f g k, l = [a, b, c, d, e, f, g, k] := by
  match l, h with
  | [a, b, c, d, e, f, g, k], _ => exact ⟨a, b, c, d, e, f, g, k, rfl⟩

structure St where
  a : Int
  b : Int
  c : Int
  d : Int
  e : Int
  f : Int
  g : Int
  h : Int
/-- The length of a slice. -/
def lenOf : Value → Nat
  | .slice _ n _ => n
  | _ => 0
/-- A word of a chunk. -/
def wd4 (x0 x1 x2 x3 : Int) : Int := bits .or .u32 (bits .or .u32 (bits .or .u32 (x0 % 4294967296 * 16777216 % 4294967296) (x1 % 4294967296 * 65536 % 4294967296)) (x2 % 4294967296 * 256 % 4294967296)) (x3 % 4294967296)
def wrd (bs : List Int) (i : Nat) : Int := wd4 (bs[4 * i]?.getD 0) (bs[4 * i + 1]?.getD 0) (bs[4 * i + 2]?.getD 0) (bs[4 * i + 3]?.getD 0)
def ex4 (v1 v2 x7 x16 : Int) : Int := (bits .xor .u32 (bits .xor .u32 (ro 15 v1) (ro 13 v1)) (v1 / 1024) + x7 + bits .xor .u32 (bits .xor .u32 (ro 25 v2) (ro 14 v2)) (v2 / 8) + x16) % 4294967296
def ext (wl : List Int) (i : Nat) : Int := ex4 (wl[i - 2]?.getD 0) (wl[i - 15]?.getD 0) (wl[i - 7]?.getD 0) (wl[i - 16]?.getD 0)
def nxt (bs : List Int) (i : Nat) (wl : List Int) : Int := if i < 16 then wrd bs i else ext wl i
def t1 (k x : Int) (s : St) : Int := (s.h + bits .xor .u32 (bits .xor .u32 (ro 26 s.e) (ro 21 s.e)) (ro 7 s.e) + bits .xor .u32 (bits .and .u32 s.e s.f) (bits .and .u32 (bits .xor .u32 IntKind.u32.max s.e) s.g) + k + x) % 4294967296
def t2 (s : St) : Int := (bits .xor .u32 (bits .xor .u32 (ro 30 s.a) (ro 19 s.a)) (ro 10 s.a) + bits .xor .u32 (bits .xor .u32 (bits .and .u32 s.a s.b) (bits .and .u32 s.a s.c)) (bits .and .u32 s.b s.c)) % 4294967296
def rnd (k x : Int) (s : St) : St := ⟨(t1 k x s + t2 s) % 4294967296, s.a, s.b, s.c, (s.d + t1 k x s) % 4294967296, s.e, s.f, s.g⟩
def inner (K : Nat → Int) (bs : List Int) : Nat → List Int × St → List Int × St
  | 0, x => x
  | i + 1, x => ((inner K bs i x).1.set i (nxt bs i (inner K bs i x).1), rnd (K i) (nxt bs i (inner K bs i x).1) (inner K bs i x).2)
def plus (s t : St) : St := ⟨(s.a + t.a) % 4294967296, (s.b + t.b) % 4294967296, (s.c + t.c) % 4294967296, (s.d + t.d) % 4294967296, (s.e + t.e) % 4294967296, (s.f + t.f) % 4294967296, (s.g + t.g) % 4294967296, (s.h + t.h) % 4294967296⟩
def block (K : Nat → Int) (bs : List Int) (x : List Int × St) : List Int × St := ((inner K bs 64 x).1, plus x.2 (inner K bs 64 x).2)
def blocks (K : Nat → Int) (bs : List Int) : Nat → List Int × St → List Int × St
  | 0, x => x
  | k + 1, x => block K (bs.drop (64 * k)) (blocks K bs k x)
theorem inner_len (K : Nat → Int) (bs : List Int) : ∀ (i : Nat) (x : List Int × St), (inner K bs i x).1.length = x.1.length
  | 0, _ => rfl
  | i + 1, x => by
    rw [inner, List.length_set, inner_len K bs i x]
theorem blocks_len (K : Nat → Int) (bs : List Int) : ∀ (k : Nat) (x : List Int × St), x.1.length = 64 → (blocks K bs k x).1.length = 64
  | 0, _, h => h
  | k + 1, x, h => by
    rw [blocks, block, inner_len, blocks_len K bs k x h]
def hOf (s : St) : List Int := [s.a, s.b, s.c, s.d, s.e, s.f, s.g, s.h]
def stOf (l : List Int) : St := ⟨l[0]?.getD 0, l[1]?.getD 0, l[2]?.getD 0, l[3]?.getD 0, l[4]?.getD 0, l[5]?.getD 0, l[6]?.getD 0, l[7]?.getD 0⟩
/-- The eight numbers behind all full chunks of a row of bytes. -/
def shaH (K : Nat → Int) (bs : List Int) (h : List Int) : List Int := hOf (blocks K bs (bs.length / 64) (List.replicate 64 0, stOf h)).2
theorem set8 (d : Dg) (h : d.h.length = 8) (s : St) : ((((((((d.cells.setIfInBounds 0 (u32V s.a)).setIfInBounds 1 (u32V s.b)).setIfInBounds 2 (u32V s.c)).setIfInBounds 3 (u32V s.d)).setIfInBounds 4 (u32V s.e)).setIfInBounds 5 (u32V s.f)).setIfInBounds 6 (u32V s.g)).setIfInBounds 7 (u32V s.h)) = Dg.cells ⟨hOf s, d.x, d.nx, d.ln⟩ := by
  obtain ⟨g0, g1, g2, g3, g4, g5, g6, g7, hg⟩ := list8i h
  simp [Dg.cells, hg, hOf]
theorem drew_heap (w : World) : w.drew.heap = w.heap := rfl
theorem mod_drew {F : Nat → Prop} {a w : World} (h : Mod F a w) : Mod F a w.drew := h.drewN 1
theorem store8 {w wr : World} {D : Nat} {d : Dg} {c : Array Value} {l : List Int} {s : St} (hB : wr.heap[D]? = some (.cells c 119 (0, 0))) (hc : c = d.cells) (hD : DAt w D d) (hl : hOf s = l) (hM : Mod (fun _ => False) w wr) :
    DAt ((((((((wr.setCell ⟨D, 0, none⟩ (.int .u32 s.a)).setCell ⟨D, 1, none⟩ (.int .u32 s.b)).setCell ⟨D, 2, none⟩ (.int .u32 s.c)).setCell ⟨D, 3, none⟩ (.int .u32 s.d)).setCell ⟨D, 4, none⟩ (.int .u32 s.e)).setCell ⟨D, 5, none⟩ (.int .u32 s.f)).setCell ⟨D, 6, none⟩ (.int .u32 s.g)).setCell ⟨D, 7, none⟩ (.int .u32 s.h)).drew D ⟨l, d.x, d.nx, d.ln⟩ ∧
      Mod (fun q => q = D) w ((((((((wr.setCell ⟨D, 0, none⟩ (.int .u32 s.a)).setCell ⟨D, 1, none⟩ (.int .u32 s.b)).setCell ⟨D, 2, none⟩ (.int .u32 s.c)).setCell ⟨D, 3, none⟩ (.int .u32 s.d)).setCell ⟨D, 4, none⟩ (.int .u32 s.e)).setCell ⟨D, 5, none⟩ (.int .u32 s.f)).setCell ⟨D, 6, none⟩ (.int .u32 s.g)).setCell ⟨D, 7, none⟩ (.int .u32 s.h)).drew := by
  have h1 := block_set (i := 7) (u := u32V s.h) (block_set (i := 6) (u := u32V s.g) (block_set (i := 5) (u := u32V s.f) (block_set (i := 4) (u := u32V s.e) (block_set (i := 3) (u := u32V s.d) (block_set (i := 2) (u := u32V s.c) (block_set (i := 1) (u := u32V s.b) (block_set (i := 0) (u := u32V s.a) hB)))))))
  rw [hc, set8 d hD.hl] at h1
  subst hl
  have hm0 := hM.mono (G := fun q => q = D) fun _ _ h => absurd h (fun h => h)
  have h2 := (((((((hm0.setCell (p := ⟨D, 0, none⟩) (fun _ => rfl) (u32V s.a)).setCell (p := ⟨D, 1, none⟩) (fun _ => rfl) (u32V s.b)).setCell (p := ⟨D, 2, none⟩) (fun _ => rfl) (u32V s.c)).setCell (p := ⟨D, 3, none⟩) (fun _ => rfl) (u32V s.d)).setCell (p := ⟨D, 4, none⟩) (fun _ => rfl) (u32V s.e)).setCell (p := ⟨D, 5, none⟩) (fun _ => rfl) (u32V s.f)).setCell (p := ⟨D, 6, none⟩) (fun _ => rfl) (u32V s.g)).setCell (p := ⟨D, 7, none⟩) (fun _ => rfl) (u32V s.h)
  unfold u32V at h1 h2
  exact ⟨⟨(drew_heap _).symm ▸ h1, rfl, hD.xl⟩, mod_drew h2⟩
theorem reads_from {w : World} {b off m c : Nat} {xs : List Value} (h : Reads w (.slice (some ⟨b, off, none⟩) m c) m 1 xs) (hm : 64 ≤ m) : Reads w (.slice (if c = 64 then some ⟨b, off, none⟩ else some ⟨b, off + 64, none⟩) (m - 64 : Nat) (c - 64 : Nat)) (m - 64) 1 (xs.drop 64) := by
  obtain ⟨ao, cap, e, hmc, hc, hn, hl, hcell⟩ := h
  simp only [Value.slice.injEq] at e
  obtain ⟨rfl, -, rfl⟩ := e
  refine ⟨_, _, rfl, by omega, by omega, ?_, by rw [List.length_drop, hl]; omega, ?_⟩
  · intro h; split at h <;> cases h
  · intro h
    rw [List.length_drop] at h
    obtain ⟨b', off', e, hcell⟩ := hcell (by omega)
    simp only [Option.some.injEq, Addr.mk.injEq] at e
    obtain ⟨rfl, rfl, -⟩ := e
    refine ⟨b, off + 64, by rw [if_neg (by omega)], ?_⟩
    intro j u hj
    rw [List.getElem?_drop] at hj
    rw [Nat.add_assoc]
    exact hcell _ _ hj
set_option maxHeartbeats 16000000 in
theorem blk_any (D n : Nat) (v : Value) (bs : List Int) (d : Dg) (K : Nat → Int) (w : World) (h : DAt w D d) (hR : Reads w v n 1 (bs.map u8V)) (hK : KAt w K) :
    Calls Tryd.prog 52 #[.pointer (some ⟨D, 0, none⟩), v] w fun e w' => e = .returned (.tuple #[]) ∧ DAt w' D ⟨shaH K bs d.h, d.x, d.nx, d.ln⟩ ∧ Mod (fun q => q = D) w w' := by
  obtain ⟨ao, cap, rfl⟩ := hR.form
  obtain ⟨h0, h1, h2, h3, h4, h5, h6, h7, hh⟩ := list8i h.hl
  have hb := h.blk
  have c0 : w.cell? ⟨D, 0, none⟩ = some (.int .u32 h0) := block_cell hb (by simp [Dg.cells, hh, u32V])
  have c1 : w.cell? ⟨D, 1, none⟩ = some (.int .u32 h1) := block_cell hb (by simp [Dg.cells, hh, u32V])
  have c2 : w.cell? ⟨D, 2, none⟩ = some (.int .u32 h2) := block_cell hb (by simp [Dg.cells, hh, u32V])
  have c3 : w.cell? ⟨D, 3, none⟩ = some (.int .u32 h3) := block_cell hb (by simp [Dg.cells, hh, u32V])
  have c4 : w.cell? ⟨D, 4, none⟩ = some (.int .u32 h4) := block_cell hb (by simp [Dg.cells, hh, u32V])
  have c5 : w.cell? ⟨D, 5, none⟩ = some (.int .u32 h5) := block_cell hb (by simp [Dg.cells, hh, u32V])
  have c6 : w.cell? ⟨D, 6, none⟩ = some (.int .u32 h6) := block_cell hb (by simp [Dg.cells, hh, u32V])
  have c7 : w.cell? ⟨D, 7, none⟩ = some (.int .u32 h7) := block_cell hb (by simp [Dg.cells, hh, u32V])
  have HST : Hid (stOf d.h = ⟨h0, h1, h2, h3, h4, h5, h6, h7⟩) := Lib.hid (by rw [hh]; rfl)
  have HH := Lib.hid h
  have HR := Lib.hid hR
  have HK := Lib.hid hK
  clear h hR hK hb hh
  go_enter Tryd.func52, Tryd.ntmps52
  go_wp2_with fail
  obtain ⟨W1, hW1⟩ : ∃ W1, W1 = w.alloc (.cells #[.int .u32 0, .int .u32 0, .int .u32 0, .int .u32 0, .int .u32 0, .int .u32 0, .int .u32 0, .int .u32 0, .int .u32 0, .int .u32 0, .int .u32 0, .int .u32 0, .int .u32 0, .int .u32 0, .int .u32 0, .int .u32 0, .int .u32 0, .int .u32 0, .int .u32 0, .int .u32 0, .int .u32 0, .int .u32 0, .int .u32 0, .int .u32 0, .int .u32 0, .int .u32 0, .int .u32 0, .int .u32 0, .int .u32 0, .int .u32 0, .int .u32 0, .int .u32 0, .int .u32 0, .int .u32 0, .int .u32 0, .int .u32 0, .int .u32 0, .int .u32 0, .int .u32 0, .int .u32 0, .int .u32 0, .int .u32 0, .int .u32 0, .int .u32 0, .int .u32 0, .int .u32 0, .int .u32 0, .int .u32 0, .int .u32 0, .int .u32 0, .int .u32 0, .int .u32 0, .int .u32 0, .int .u32 0, .int .u32 0, .int .u32 0, .int .u32 0, .int .u32 0, .int .u32 0, .int .u32 0, .int .u32 0, .int .u32 0, .int .u32 0, .int .u32 0] 144) := ⟨_, rfl⟩
  rw [← hW1]
  have hB1 : W1.heap[w.heap.size]? = some (.cells ((List.replicate 64 (0 : Int)).map u32V).toArray 144 (0, 0)) := by rw [hW1]; exact heap_alloc_new w _
  have hBl : Below w.heap.size w W1 := by rw [hW1]; exact (Below.refl _ _).alloc (Nat.le_refl _) _
  have hlt := block_lt HH.out.blk
  rw [← hBl.cell (p := ⟨D, 0, none⟩) hlt] at c0
  rw [← hBl.cell (p := ⟨D, 1, none⟩) hlt] at c1
  rw [← hBl.cell (p := ⟨D, 2, none⟩) hlt] at c2
  rw [← hBl.cell (p := ⟨D, 3, none⟩) hlt] at c3
  rw [← hBl.cell (p := ⟨D, 4, none⟩) hlt] at c4
  rw [← hBl.cell (p := ⟨D, 5, none⟩) hlt] at c5
  rw [← hBl.cell (p := ⟨D, 6, none⟩) hlt] at c6
  rw [← hBl.cell (p := ⟨D, 7, none⟩) hlt] at c7
  clear hW1
  go_quiet (fail)
  obtain ⟨s0, hs0⟩ : ∃ s0 : St, s0 = ⟨h0, h1, h2, h3, h4, h5, h6, h7⟩ := ⟨_, rfl⟩
  have HS0 := Lib.hid hs0
  have HB1 : Hid (Mod (fun _ => False) w (W1.drewN nq)) := Lib.hid (Mod.of_below (below_drewN hBl nq))
  have HW1 : Hid ((W1.drewN nq).heap[w.heap.size]? = some (.cells ((List.replicate 64 (0 : Int)).map u32V).toArray 144 (0, 0))) := Lib.hid hB1
  have HL : Hid (bs.length = n) := Lib.hid (by have := HR.out.len; simpa using this)
  clear c0 c1 c2 c3 c4 c5 c6 c7 hB1 hBl hs0
  go_wp2_with fail
  go_loopw [1, 5, 6, 7, 8, 9, 10, 11, 12] (fun pv v0 v1 v2 v3 v4 v5 v6 v7 wr => ∃ (k : Nat) (a : Option Addr) (wl : List Int) (s : St), 64 * k ≤ n ∧ pv = .slice a (n - 64 * k : Nat) (cap - 64 * k : Nat) ∧ v0 = .int .u32 s.a ∧ v1 = .int .u32 s.b ∧ v2 = .int .u32 s.c ∧ v3 = .int .u32 s.d ∧ v4 = .int .u32 s.e ∧ v5 = .int .u32 s.f ∧ v6 = .int .u32 s.g ∧ v7 = .int .u32 s.h
      ∧ Hid (Reads w (.slice a (n - 64 * k) (cap - 64 * k)) (n - 64 * k) 1 ((bs.drop (64 * k)).map u8V)) ∧ Hid ((wl, s) = blocks K bs k (List.replicate 64 0, s0)) ∧ Hid (Mod (fun _ => False) w wr) ∧ Hid (wr.heap[w.heap.size]? = some (.cells (wl.map u32V).toArray 144 (0, 0)))) (fun pv _ _ _ _ _ _ _ _ _ => lenOf pv)
  case atStart => exact ⟨0, ao, List.replicate 64 0, s0, by omega, rfl, by rw [HS0.out], by rw [HS0.out], by rw [HS0.out], by rw [HS0.out], by rw [HS0.out], by rw [HS0.out], by rw [HS0.out], by rw [HS0.out], by simpa using HR, Lib.hid rfl, HB1, HW1⟩
  case round =>
    clear HB1 HW1
    obtain ⟨k, a, wl, s, hk, rfl, rfl, rfl, rfl, rfl, rfl, rfl, rfl, rfl, HRk, HX, HM, HWk⟩ := hrel
    rename World => wr
    obtain ⟨m, hm⟩ : ∃ m, m = n - 64 * k := ⟨_, rfl⟩
    rw [← hm]
    have HM0 := Lib.hid hm
    clear hm
    by_cases hlt : 64 ≤ m
    · have hlz : (64 : Int) ≤ (m : Int) := by omega
      go_wp2_with fail
      obtain ⟨b, off, rfl, hcs⟩ : ∃ b off, a = some ⟨b, off, none⟩ ∧ ∀ j u, ((bs.drop (64 * k)).map u8V)[j]? = some u → w.cell? ⟨b, off + j, none⟩ = some u := by
        obtain ⟨ao', cap', e1, _, _, _, e2, e3⟩ := HRk.out
        simp only [Value.slice.injEq] at e1
        obtain ⟨rfl, -, rfl⟩ := e1
        have := HM0.out
        exact e3 (by rw [e2]; omega)
      obtain ⟨cs, hcsd⟩ : ∃ cs, cs = bs.drop (64 * k) := ⟨_, rfl⟩
      have hcl : cs.length = m := by rw [hcsd, List.length_drop, HL.out, HM0.out]
      rw [← hcsd] at hcs
      have HCD := Lib.hid hcsd
      have HCS := Lib.hid hcs
      have HCL := Lib.hid hcl
      clear hcsd hcs hcl
      go_loopw [80, 13, 14, 15, 16, 17, 18, 19, 20] (fun iv v0 v1 v2 v3 v4 v5 v6 v7 wq => ∃ (i : Nat) (wl' : List Int) (t : St), iv = .int .i64 i ∧ i ≤ 64 ∧ v0 = .int .u32 t.a ∧ v1 = .int .u32 t.b ∧ v2 = .int .u32 t.c ∧ v3 = .int .u32 t.d ∧ v4 = .int .u32 t.e ∧ v5 = .int .u32 t.f ∧ v6 = .int .u32 t.g ∧ v7 = .int .u32 t.h
        ∧ Hid ((wl', t) = inner K cs i (wl, s)) ∧ Hid (Mod (fun _ => False) w wq) ∧ Hid (wq.heap[w.heap.size]? = some (.cells (wl'.map u32V).toArray 144 (0, 0))) ∧ Hid (wl'.length = 64)) (fun iv _ _ _ _ _ _ _ _ _ => 64 - (intOf iv).toNat)
      case atStart =>
        --[AT
        exact ⟨0, wl, s, rfl, by omega, rfl, rfl, rfl, rfl, rfl, rfl, rfl, rfl, Lib.hid rfl, HM, HWk, Lib.hid (by have := blocks_len K bs k (List.replicate 64 0, s0) (by simp); rw [← HX.out] at this; exact this)⟩
        --]AT
      case round =>
        obtain ⟨i, wl', t, rfl, hi, rfl, rfl, rfl, rfl, rfl, rfl, rfl, rfl, HX', HM', HW', HL'⟩ := hrel
        rename World => wq
        by_cases hi64 : i < 64
        · have hz64 : (i : Int) < 64 := by omega
          go_upto_if 84 with fail
          go_cut [22, 23, 24, 25, 26, 80] from 80 to 216 (fun a22 a23 a24 a25 a26 a80 wc => a80 = .int .i64 i ∧ Hid (Mod (fun _ => False) w wc) ∧ Hid (wc.heap[w.heap.size]? = some (.cells ((wl'.set i (nxt cs i wl')).map u32V).toArray 144 (0, 0))))
          case first => as_aux_lemma =>
            --[FIRST
            have fw : wq.frozen? ⟨w.heap.size, i, none⟩ = false := block_free HW'.out
            have hwc : ∀ j, j < 64 → ∃ y, wl'[j]? = some y ∧ wq.cell? ⟨w.heap.size, j, none⟩ = some (.int .u32 y) := by
              intro j hj
              obtain ⟨y, hy⟩ : ∃ y, wl'[j]? = some y := ⟨_, List.getElem?_eq_getElem (by have := HL'.out; omega)⟩
              exact ⟨y, hy, block_cell HW'.out (by simp [hy, u32V])⟩
            obtain ⟨y, -, cw⟩ := hwc i hi64
            have hfin : Hid (∀ z, z = nxt cs i wl' → Mod (fun _ => False) w ((wq.setCell ⟨w.heap.size, i, none⟩ (.int .u32 z)).drew) ∧ (wq.setCell ⟨w.heap.size, i, none⟩ (.int .u32 z)).drew.heap[w.heap.size]? = some (.cells ((wl'.set i (nxt cs i wl')).map u32V).toArray 144 (0, 0))) := by
              refine Lib.hid fun z hz => ?_
              subst hz
              refine ⟨((HM'.out.setCell (p := ⟨w.heap.size, i, none⟩) (fun h => absurd h (Nat.lt_irrefl _)) _)).drewN 1, ?_⟩
              have := block_set (u := u32V (nxt cs i wl')) (i := i) HW'.out
              rw [row_set] at this
              exact this
            by_cases hi16 : i < 16
            · have hz16 : (i : Int) < 16 := by omega
              obtain ⟨q, hq⟩ : ∃ q : Nat, q = 4 * i := ⟨_, rfl⟩
              have hq2 : (i : Int) * 4 = (q : Int) := by omega
              have hqm : q + 4 ≤ m := by omega
              have hcell : ∀ j, j < 4 → ∃ x, cs[q + j]? = some x ∧ wq.cell? ⟨b, off + (q + j), none⟩ = some (.int .u8 x) := by
                intro j hj
                obtain ⟨x, hx⟩ : ∃ x, cs[q + j]? = some x := ⟨_, List.getElem?_eq_getElem (by have := HCL.out; omega)⟩
                refine ⟨x, hx, HM'.out.cell ?_ (fun h => h)⟩
                exact HCS.out _ _ (by rw [List.getElem?_map, hx]; rfl)
              obtain ⟨x0, e0, d0⟩ := hcell 0 (by omega)
              obtain ⟨x1, e1, d1⟩ := hcell 1 (by omega)
              obtain ⟨x2, e2, d2⟩ := hcell 2 (by omega)
              obtain ⟨x3, e3, d3⟩ := hcell 3 (by omega)
              simp only [Nat.add_zero] at d0 e0
              obtain ⟨z, hz⟩ : ∃ z, z = wd4 x0 x1 x2 x3 := ⟨_, rfl⟩
              have HZ : Hid (z = nxt cs i wl') := Lib.hid (by rw [hz]; unfold nxt wrd; rw [if_pos hi16, ← hq, e0, e1, e2, e3]; rfl)
              have hI0 : (0 : Int) ≤ (q : Int) := by omega
              have hI1 : (q : Int) + 3 < (m : Int) := by omega
              clear e0 e1 e2 e3 hcell hq hwc
              unfold wd4 at hz
              go_wp2_with fail
              go_region
              rw [← hz]
              clear hz
              go_wp2_with fail
              go_meet
              case rel => exact ⟨rfl, Lib.hid (hfin.out z HZ.out).1, Lib.hid (hfin.out z HZ.out).2⟩
            · have hz16 : ¬ (i : Int) < 16 := by omega
              obtain ⟨p2, hp2⟩ : ∃ p2 : Nat, p2 = i - 2 := ⟨_, rfl⟩
              obtain ⟨p7, hp7⟩ : ∃ p7 : Nat, p7 = i - 7 := ⟨_, rfl⟩
              obtain ⟨p15, hp15⟩ : ∃ p15 : Nat, p15 = i - 15 := ⟨_, rfl⟩
              obtain ⟨p16, hp16⟩ : ∃ p16 : Nat, p16 = i - 16 := ⟨_, rfl⟩
              have g2 : (i : Int) - 2 = (p2 : Int) := by omega
              have g7 : (i : Int) - 7 = (p7 : Int) := by omega
              have g15 : (i : Int) - 15 = (p15 : Int) := by omega
              have g16 : (i : Int) - 16 = (p16 : Int) := by omega
              obtain ⟨x2, e2, d2⟩ := hwc p2 (by omega)
              obtain ⟨x7, e7, d7⟩ := hwc p7 (by omega)
              obtain ⟨x15, e15, d15⟩ := hwc p15 (by omega)
              obtain ⟨x16, e16, d16⟩ := hwc p16 (by omega)
              have b2 : p2 < 64 := by omega
              have b7 : p7 < 64 := by omega
              have b15 : p15 < 64 := by omega
              have b16 : p16 < 64 := by omega
              obtain ⟨z, hz⟩ : ∃ z, z = ex4 x2 x15 x7 x16 := ⟨_, rfl⟩
              have HZ : Hid (z = nxt cs i wl') := Lib.hid (by rw [hz]; unfold nxt ext; rw [if_neg hi16, ← hp2, ← hp7, ← hp15, ← hp16, e2, e7, e15, e16]; rfl)
              clear e2 e7 e15 e16 hwc hp2 hp7 hp15 hp16
              go_wp2_with fail
              refine (rl_17 x2 wq).mono ?_
              rintro e w' ⟨rfl, rfl⟩
              go_wp2_with fail
              refine (rl_19 x2 _).mono ?_
              rintro e w' ⟨rfl, rfl⟩
              go_wp2_with fail
              refine (rl_7 x15 _).mono ?_
              rintro e w' ⟨rfl, rfl⟩
              go_wp2_with fail
              refine (rl_18 x15 _).mono ?_
              rintro e w' ⟨rfl, rfl⟩
              go_wp2_with fail
              unfold ex4 at hz
              go_region
              rw [← hz]
              clear hz
              go_wp2_with fail
              go_meet
              case rel => exact ⟨rfl, Lib.hid (hfin.out z HZ.out).1, Lib.hid (hfin.out z HZ.out).2⟩
            --]FIRST
          case rest => as_aux_lemma =>
            --[REST
            obtain ⟨rfl, HM2, HW2⟩ := hcut
            obtain ⟨z, hz⟩ : ∃ z, z = nxt cs i wl' := ⟨_, rfl⟩
            rw [← hz] at HW2
            have HZ := Lib.hid hz
            have cw : wc.cell? ⟨w.heap.size, i, none⟩ = some (.int .u32 z) := block_cell HW2.out (by rw [List.getElem?_toArray, List.getElem?_map, List.getElem?_set_self (by have := HL'.out; omega)]; rfl)
            obtain ⟨kv, hkv⟩ : ∃ kv, kv = K i := ⟨_, rfl⟩
            have ck : wc.cell? ⟨1, i, none⟩ = some (.int .u32 kv) := by rw [hkv]; exact HM2.out.cell (HK.out i hi64) (fun h => h)
            have HKV := Lib.hid hkv
            clear hz hkv
            go_wp2_with fail
            refine wp_region_quiet_lit (by kernel_rfl) (by kernel_rfl) ?_
            repeat (go_big_quiet_step ((refine rl_q _ _ _ _ ?_; decide)))
            refine wpQuiet_nil ?_
            intro _ hw'
            obtain ⟨nq, hw''⟩ := hw'
            subst hw''
            go_wp2_with fail
            refine (rl_2 t.a _).mono ?_
            rintro e w' ⟨rfl, rfl⟩
            go_wp2_with fail
            refine (rl_13 t.a _).mono ?_
            rintro e w' ⟨rfl, rfl⟩
            go_wp2_with fail
            refine (rl_22 t.a _).mono ?_
            rintro e w' ⟨rfl, rfl⟩
            go_wp2_with fail
            go_roundw
            case rel =>
              refine ⟨i + 1, wl'.set i z, ⟨_, _, _, _, _, _, _, _⟩, by push_cast; rfl, by omega, rfl, rfl, rfl, rfl, rfl, rfl, rfl, rfl, ?_, Lib.hid (HM2.out.drewN _), HW2, Lib.hid (by rw [List.length_set]; exact HL'.out)⟩
              refine Lib.hid ?_
              show _ = ((inner K cs i (wl, s)).1.set i (nxt cs i (inner K cs i (wl, s)).1), rnd (K i) (nxt cs i (inner K cs i (wl, s)).1) (inner K cs i (wl, s)).2)
              rw [← HX'.out]
              show _ = (wl'.set i (nxt cs i wl'), rnd (K i) (nxt cs i wl') t)
              rw [← HZ.out, ← HKV.out]
              rfl
            case measure => simp [intOf] <;> omega
            --]REST
        ·
          --[INEND
          obtain rfl : i = 64 := by omega
          clear hi64
          have hcap : m ≤ cap - 64 * k := by
            obtain ⟨_, _, e, h, _⟩ := HRk.out
            simp only [Value.slice.injEq] at e
            have := HM0.out
            omega
          have hcapz : (m : Int) ≤ ((cap - 64 * k : Nat) : Int) := by omega
          go_wp2_with fail
          go_roundw
          case rel =>
            have e1 : m - 64 = n - 64 * (k + 1) := by have := HM0.out; omega
            have e2 : cap - 64 * k - 64 = cap - 64 * (k + 1) := by omega
            have e3 : 64 * (k + 1) ≤ n := by have := HM0.out; omega
            rw [e1, e2]
            refine ⟨k + 1, _, wl', plus s t, e3, rfl, rfl, rfl, rfl, rfl, rfl, rfl, rfl, rfl, Lib.hid ?_, Lib.hid ?_, HM', HW'⟩
            · have hd := HRk.out
              rw [← HM0.out] at hd
              have := reads_from hd hlt
              rw [e1, e2, ← List.map_drop, List.drop_drop] at this
              exact this
            · show _ = block K (bs.drop (64 * k)) (blocks K bs k (List.replicate 64 0, s0))
              rw [← HX.out, ← HCD.out]
              unfold block
              rw [← HX'.out]
          case measure =>
            show m - 64 < m
            omega
          --]INEND
    ·
      --[END
      have hlz : ¬ (64 : Int) ≤ (m : Int) := by omega
      have hb := HM.out.heap HH.out.blk (fun h => h)
      obtain ⟨hh, hx⟩ : ∃ hh : Array Value, hh = d.cells := ⟨_, rfl⟩
      rw [← hx] at hb
      have hcl : ∀ i, i < 8 → ∃ z, wr.cell? ⟨D, i, none⟩ = some (.int .u32 z) := by
        intro i hi
        obtain ⟨z, hz⟩ : ∃ z, d.h[i]? = some z := ⟨_, List.getElem?_eq_getElem (by rw [HH.out.hl]; exact hi)⟩
        refine ⟨z, block_cell hb ?_⟩
        rw [hx, Dg.cells, List.getElem?_toArray, List.append_assoc, List.getElem?_append_left (by rw [List.length_map, HH.out.hl]; exact hi), List.getElem?_map, hz]
        rfl
      obtain ⟨z0, c0⟩ := hcl 0 (by decide)
      obtain ⟨z1, c1⟩ := hcl 1 (by decide)
      obtain ⟨z2, c2⟩ := hcl 2 (by decide)
      obtain ⟨z3, c3⟩ := hcl 3 (by decide)
      obtain ⟨z4, c4⟩ := hcl 4 (by decide)
      obtain ⟨z5, c5⟩ := hcl 5 (by decide)
      obtain ⟨z6, c6⟩ := hcl 6 (by decide)
      obtain ⟨z7, c7⟩ := hcl 7 (by decide)
      have f0 : wr.frozen? ⟨D, 0, none⟩ = false := block_free hb
      have f1 : wr.frozen? ⟨D, 1, none⟩ = false := block_free hb
      have f2 : wr.frozen? ⟨D, 2, none⟩ = false := block_free hb
      have f3 : wr.frozen? ⟨D, 3, none⟩ = false := block_free hb
      have f4 : wr.frozen? ⟨D, 4, none⟩ = false := block_free hb
      have f5 : wr.frozen? ⟨D, 5, none⟩ = false := block_free hb
      have f6 : wr.frozen? ⟨D, 6, none⟩ = false := block_free hb
      have f7 : wr.frozen? ⟨D, 7, none⟩ = false := block_free hb
      have HB := Lib.hid hb
      have HXX := Lib.hid hx
      clear hcl hb hx
      go_wp2_with fail
      go_region
      go_end0
      have hkn : bs.length / 64 = k := by have := HM0.out; rw [HL.out]; omega
      have hsk : hOf s = shaH K bs d.h := by
        unfold shaH
        rw [hkn, HST.out, ← HS0.out, ← HX.out]
      exact ⟨rfl, store8 HB.out HXX.out HH.out hsk HM.out⟩
      --]END
end Go.Proofs.YtnfagjemhbgfkaaDoor.Sha
