/- sha256: block, BEPutUint32, BEPutUint64, Reset. -/
import Derived.Test.YtnfagjemhbgfkaaDoorSha1
namespace Go.Proofs.YtnfagjemhbgfkaaDoor.Sha
open Go.ChangeShapes Go.WideShapes Go.ChangeAt Go.RowKit Go.Trav
set_option linter.unusedVariables false
set_option linter.unusedSimpArgs false
set_option maxRecDepth 100000
set_option maxHeartbeats 2000000 in
theorem blkf_any (D n : Nat) (v : Value) (bs : List Int) (d : Dg) (K : Nat → Int) (w : World) (h : DAt w D d) (hR : Reads w v n 1 (bs.map u8V)) (hK : KAt w K) :
    Calls Tryd.prog 81 #[.pointer (some ⟨D, 0, none⟩), v] w fun e w' => e = .returned (.tuple #[]) ∧ DAt w' D ⟨shaH K bs d.h, d.x, d.nx, d.ln⟩ ∧ Mod (fun q => q = D) w w' := by
  have HB := Lib.hid (blk_any D n v bs d K w h hR hK)
  clear h hR hK
  go_enter Tryd.func81, Tryd.ntmps81
  go_wp2_with fail
  refine HB.out.mono ?_
  rintro e w' ⟨rfl, h1, h2⟩
  have HP := Lib.hid (And.intro h1 h2)
  clear h1 h2
  go_wp2_with fail
  go_end0
  exact ⟨rfl, HP.out⟩
/-- Four bytes, the highest first. -/
def be4 (x : Int) : List Int := [x / 16777216 % 256, x / 65536 % 256, x / 256 % 256, x % 256]
def be8 (x : Int) : List Int := [x / 72057594037927936 % 256, x / 281474976710656 % 256, x / 1099511627776 % 256, x / 4294967296 % 256, x / 16777216 % 256, x / 65536 % 256, x / 256 % 256, x % 256]
/-- The world with bytes laid from a place on. -/
def lays (w : World) (B o : Nat) : List Int → World
  | [] => w
  | x :: r => lays (w.setCell ⟨B, o, none⟩ (.int .u8 x)) B (o + 1) r
set_option maxHeartbeats 4000000 in
theorem p32_any (B o n cap : Nat) (x z0 z1 z2 z3 : Int) (w : World) (hn : 4 ≤ n)
    (c0 : w.cell? ⟨B, o, none⟩ = some (.int .u8 z0)) (c1 : w.cell? ⟨B, o + 1, none⟩ = some (.int .u8 z1)) (c2 : w.cell? ⟨B, o + 2, none⟩ = some (.int .u8 z2)) (c3 : w.cell? ⟨B, o + 3, none⟩ = some (.int .u8 z3))
    (hf : ∀ j, w.frozen? ⟨B, j, none⟩ = false) :
    Calls Tryd.prog 88 #[.slice (some ⟨B, o, none⟩) n cap, .int .u32 x] w fun e w' => e = .returned (.tuple #[]) ∧ w' = lays w B o (be4 x) := by
  have i0 : (0 : Int) < (n : Int) := by omega
  have i1 : (1 : Int) < (n : Int) := by omega
  have i2 : (2 : Int) < (n : Int) := by omega
  have i3 : (3 : Int) < (n : Int) := by omega
  have f0 := hf o
  have f1 := hf (o + 1)
  have f2 := hf (o + 2)
  have f3 := hf (o + 3)
  clear hf
  go_enter Tryd.func88, Tryd.ntmps88
  go_wp2_with fail
  go_end0
  exact ⟨rfl, rfl⟩
set_option maxHeartbeats 4000000 in
theorem p32f_any (B o n cap : Nat) (x z0 z1 z2 z3 : Int) (w : World) (hn : 4 ≤ n)
    (c0 : w.cell? ⟨B, o, none⟩ = some (.int .u8 z0)) (c1 : w.cell? ⟨B, o + 1, none⟩ = some (.int .u8 z1)) (c2 : w.cell? ⟨B, o + 2, none⟩ = some (.int .u8 z2)) (c3 : w.cell? ⟨B, o + 3, none⟩ = some (.int .u8 z3))
    (hf : ∀ j, w.frozen? ⟨B, j, none⟩ = false) :
    Calls Tryd.prog 85 #[.slice (some ⟨B, o, none⟩) n cap, .int .u32 x] w fun e w' => e = .returned (.tuple #[]) ∧ w' = lays w B o (be4 x) := by
  have HP := Lib.hid (p32_any B o n cap x z0 z1 z2 z3 w hn c0 c1 c2 c3 hf)
  clear c0 c1 c2 c3 hf
  go_enter Tryd.func85, Tryd.ntmps85
  go_wp2_with fail
  refine HP.out.mono ?_
  rintro e w' ⟨rfl, rfl⟩
  go_wp2_with fail
  go_end0
  exact ⟨rfl, rfl⟩
set_option maxHeartbeats 4000000 in
theorem p64_any (B o n cap : Nat) (x z0 z1 z2 z3 z4 z5 z6 z7 : Int) (w : World) (hn : 8 ≤ n)
    (c0 : w.cell? ⟨B, o, none⟩ = some (.int .u8 z0)) (c1 : w.cell? ⟨B, o + 1, none⟩ = some (.int .u8 z1)) (c2 : w.cell? ⟨B, o + 2, none⟩ = some (.int .u8 z2)) (c3 : w.cell? ⟨B, o + 3, none⟩ = some (.int .u8 z3))
    (c4 : w.cell? ⟨B, o + 4, none⟩ = some (.int .u8 z4)) (c5 : w.cell? ⟨B, o + 5, none⟩ = some (.int .u8 z5)) (c6 : w.cell? ⟨B, o + 6, none⟩ = some (.int .u8 z6)) (c7 : w.cell? ⟨B, o + 7, none⟩ = some (.int .u8 z7))
    (hf : ∀ j, w.frozen? ⟨B, j, none⟩ = false) :
    Calls Tryd.prog 87 #[.slice (some ⟨B, o, none⟩) n cap, .int .u64 x] w fun e w' => e = .returned (.tuple #[]) ∧ w' = lays w B o (be8 x) := by
  have i0 : (0 : Int) < (n : Int) := by omega
  have i1 : (1 : Int) < (n : Int) := by omega
  have i2 : (2 : Int) < (n : Int) := by omega
  have i3 : (3 : Int) < (n : Int) := by omega
  have i4 : (4 : Int) < (n : Int) := by omega
  have i5 : (5 : Int) < (n : Int) := by omega
  have i6 : (6 : Int) < (n : Int) := by omega
  have i7 : (7 : Int) < (n : Int) := by omega
  have f0 := hf o
  have f1 := hf (o + 1)
  have f2 := hf (o + 2)
  have f3 := hf (o + 3)
  have f4 := hf (o + 4)
  have f5 := hf (o + 5)
  have f6 := hf (o + 6)
  have f7 := hf (o + 7)
  clear hf
  go_enter Tryd.func87, Tryd.ntmps87
  go_wp2_with fail
  go_end0
  exact ⟨rfl, rfl⟩
set_option maxHeartbeats 4000000 in
theorem p64f_any (B o n cap : Nat) (x z0 z1 z2 z3 z4 z5 z6 z7 : Int) (w : World) (hn : 8 ≤ n)
    (c0 : w.cell? ⟨B, o, none⟩ = some (.int .u8 z0)) (c1 : w.cell? ⟨B, o + 1, none⟩ = some (.int .u8 z1)) (c2 : w.cell? ⟨B, o + 2, none⟩ = some (.int .u8 z2)) (c3 : w.cell? ⟨B, o + 3, none⟩ = some (.int .u8 z3))
    (c4 : w.cell? ⟨B, o + 4, none⟩ = some (.int .u8 z4)) (c5 : w.cell? ⟨B, o + 5, none⟩ = some (.int .u8 z5)) (c6 : w.cell? ⟨B, o + 6, none⟩ = some (.int .u8 z6)) (c7 : w.cell? ⟨B, o + 7, none⟩ = some (.int .u8 z7))
    (hf : ∀ j, w.frozen? ⟨B, j, none⟩ = false) :
    Calls Tryd.prog 84 #[.slice (some ⟨B, o, none⟩) n cap, .int .u64 x] w fun e w' => e = .returned (.tuple #[]) ∧ w' = lays w B o (be8 x) := by
  have HP := Lib.hid (p64_any B o n cap x z0 z1 z2 z3 z4 z5 z6 z7 w hn c0 c1 c2 c3 c4 c5 c6 c7 hf)
  clear c0 c1 c2 c3 c4 c5 c6 c7 hf
  go_enter Tryd.func84, Tryd.ntmps84
  go_wp2_with fail
  refine HP.out.mono ?_
  rintro e w' ⟨rfl, rfl⟩
  go_wp2_with fail
  go_end0
  exact ⟨rfl, rfl⟩
theorem cells_nx {d : Dg} (hl : d.h.length = 8) (xl : d.x.length = 64) (m : Nat) : d.cells.setIfInBounds 72 (.int .i64 m) = Dg.cells ⟨d.h, d.x, m, d.ln⟩ := by
  unfold Dg.cells
  rw [List.setIfInBounds_toArray, List.set_append_right _ _ (by simp [hl, xl])]
  simp [hl, xl]
theorem cells_ln {d : Dg} (hl : d.h.length = 8) (xl : d.x.length = 64) (m : Int) : d.cells.setIfInBounds 73 (.int .u64 m) = Dg.cells ⟨d.h, d.x, d.nx, m⟩ := by
  unfold Dg.cells
  rw [List.setIfInBounds_toArray, List.set_append_right _ _ (by simp [hl, xl])]
  simp [hl, xl]
theorem cell_h {w : World} {D : Nat} {d : Dg} (h : DAt w D d) {i : Nat} {z : Int} (hz : d.h[i]? = some z) : w.cell? ⟨D, i, none⟩ = some (.int .u32 z) := by
  refine block_cell h.blk ?_
  have hi : i < d.h.length := (List.getElem?_eq_some_iff.1 hz).1
  rw [Dg.cells, List.getElem?_toArray, List.append_assoc, List.getElem?_append_left (by rw [List.length_map]; exact hi), List.getElem?_map, hz]
  rfl
theorem cell_x {w : World} {D : Nat} {d : Dg} (h : DAt w D d) {i : Nat} {z : Int} (hz : d.x[i]? = some z) : w.cell? ⟨D, 8 + i, none⟩ = some (.int .u8 z) := by
  refine block_cell h.blk ?_
  have hi : i < d.x.length := (List.getElem?_eq_some_iff.1 hz).1
  rw [Dg.cells, List.getElem?_toArray, List.append_assoc, List.getElem?_append_right (by rw [List.length_map, h.hl]; omega), List.length_map, h.hl, Nat.add_sub_cancel_left, List.getElem?_append_left (by rw [List.length_map]; exact hi), List.getElem?_map, hz]
  rfl
theorem cell_nx {w : World} {D : Nat} {d : Dg} (h : DAt w D d) : w.cell? ⟨D, 72, none⟩ = some (.int .i64 d.nx) := by
  refine block_cell h.blk ?_
  rw [Dg.cells, List.getElem?_toArray, List.getElem?_append_right (by simp [h.hl, h.xl])]
  simp [h.hl, h.xl]
theorem cell_ln {w : World} {D : Nat} {d : Dg} (h : DAt w D d) : w.cell? ⟨D, 73, none⟩ = some (.int .u64 d.ln) := by
  refine block_cell h.blk ?_
  rw [Dg.cells, List.getElem?_toArray, List.getElem?_append_right (by simp [h.hl, h.xl])]
  simp [h.hl, h.xl]
theorem cell_is {w : World} {D : Nat} {d : Dg} (h : DAt w D d) : w.cell? ⟨D, 74, none⟩ = some (.bool false) := by
  refine block_cell h.blk ?_
  rw [Dg.cells, List.getElem?_toArray, List.getElem?_append_right (by simp [h.hl, h.xl])]
  simp [h.hl, h.xl]
theorem DAt.nx {w : World} {D : Nat} {d : Dg} (h : DAt w D d) (m : Nat) : DAt (w.setCell ⟨D, 72, none⟩ (.int .i64 m)) D ⟨d.h, d.x, m, d.ln⟩ :=
  ⟨by rw [← cells_nx h.hl h.xl]; exact block_set h.blk, h.hl, h.xl⟩
theorem DAt.lns {w : World} {D : Nat} {d : Dg} (h : DAt w D d) (m : Int) : DAt (w.setCell ⟨D, 73, none⟩ (.int .u64 m)) D ⟨d.h, d.x, d.nx, m⟩ :=
  ⟨by rw [← cells_ln h.hl h.xl]; exact block_set h.blk, h.hl, h.xl⟩
theorem store8w {w wr : World} {D : Nat} {d : Dg} {c : Array Value} {l : List Int} {s : St} (hB : wr.heap[D]? = some (.cells c 119 (0, 0))) (hc : c = d.cells) (hD : DAt w D d) (hl : hOf s = l) (hM : Mod (fun _ => False) w wr) :
    DAt ((((((((wr.setCell ⟨D, 0, none⟩ (.int .u32 s.a)).setCell ⟨D, 1, none⟩ (.int .u32 s.b)).setCell ⟨D, 2, none⟩ (.int .u32 s.c)).setCell ⟨D, 3, none⟩ (.int .u32 s.d)).setCell ⟨D, 4, none⟩ (.int .u32 s.e)).setCell ⟨D, 5, none⟩ (.int .u32 s.f)).setCell ⟨D, 6, none⟩ (.int .u32 s.g)).setCell ⟨D, 7, none⟩ (.int .u32 s.h)) D ⟨l, d.x, d.nx, d.ln⟩ ∧
      Mod (fun q => q = D) w ((((((((wr.setCell ⟨D, 0, none⟩ (.int .u32 s.a)).setCell ⟨D, 1, none⟩ (.int .u32 s.b)).setCell ⟨D, 2, none⟩ (.int .u32 s.c)).setCell ⟨D, 3, none⟩ (.int .u32 s.d)).setCell ⟨D, 4, none⟩ (.int .u32 s.e)).setCell ⟨D, 5, none⟩ (.int .u32 s.f)).setCell ⟨D, 6, none⟩ (.int .u32 s.g)).setCell ⟨D, 7, none⟩ (.int .u32 s.h)) := by
  have h1 := block_set (i := 7) (u := u32V s.h) (block_set (i := 6) (u := u32V s.g) (block_set (i := 5) (u := u32V s.f) (block_set (i := 4) (u := u32V s.e) (block_set (i := 3) (u := u32V s.d) (block_set (i := 2) (u := u32V s.c) (block_set (i := 1) (u := u32V s.b) (block_set (i := 0) (u := u32V s.a) hB)))))))
  rw [hc, set8 d hD.hl] at h1
  subst hl
  have hm0 := hM.mono (G := fun q => q = D) fun _ _ h => absurd h (fun h => h)
  have h2 := (((((((hm0.setCell (p := ⟨D, 0, none⟩) (fun _ => rfl) (u32V s.a)).setCell (p := ⟨D, 1, none⟩) (fun _ => rfl) (u32V s.b)).setCell (p := ⟨D, 2, none⟩) (fun _ => rfl) (u32V s.c)).setCell (p := ⟨D, 3, none⟩) (fun _ => rfl) (u32V s.d)).setCell (p := ⟨D, 4, none⟩) (fun _ => rfl) (u32V s.e)).setCell (p := ⟨D, 5, none⟩) (fun _ => rfl) (u32V s.f)).setCell (p := ⟨D, 6, none⟩) (fun _ => rfl) (u32V s.g)).setCell (p := ⟨D, 7, none⟩) (fun _ => rfl) (u32V s.h)
  unfold u32V at h1 h2
  exact ⟨⟨h1, rfl, hD.xl⟩, h2⟩
/-- The eight numbers that a digest begins with. -/
def H0 : St := ⟨1779033703, 3144134277, 1013904242, 2773480762, 1359893119, 2600822924, 528734635, 1541459225⟩
set_option maxHeartbeats 4000000 in
theorem reset_any (D : Nat) (d : Dg) (w : World) (h : DAt w D d) :
    Calls Tryd.prog 53 #[.pointer (some ⟨D, 0, none⟩)] w fun e w' => e = .returned (.tuple #[]) ∧ DAt w' D ⟨hOf H0, d.x, 0, 0⟩ ∧ Mod (fun q => q = D) w w' := by
  obtain ⟨h0, h1, h2, h3, h4, h5, h6, h7, hh⟩ := list8i h.hl
  have c0 := cell_h h (i := 0) (z := h0) (by rw [hh]; rfl)
  have c1 := cell_h h (i := 1) (z := h1) (by rw [hh]; rfl)
  have c2 := cell_h h (i := 2) (z := h2) (by rw [hh]; rfl)
  have c3 := cell_h h (i := 3) (z := h3) (by rw [hh]; rfl)
  have c4 := cell_h h (i := 4) (z := h4) (by rw [hh]; rfl)
  have c5 := cell_h h (i := 5) (z := h5) (by rw [hh]; rfl)
  have c6 := cell_h h (i := 6) (z := h6) (by rw [hh]; rfl)
  have c7 := cell_h h (i := 7) (z := h7) (by rw [hh]; rfl)
  have cn := cell_nx h
  have cl := cell_ln h
  have ci := cell_is h
  have f0 : w.frozen? ⟨D, 0, none⟩ = false := block_free h.blk
  have f1 : w.frozen? ⟨D, 1, none⟩ = false := block_free h.blk
  have f2 : w.frozen? ⟨D, 2, none⟩ = false := block_free h.blk
  have f3 : w.frozen? ⟨D, 3, none⟩ = false := block_free h.blk
  have f4 : w.frozen? ⟨D, 4, none⟩ = false := block_free h.blk
  have f5 : w.frozen? ⟨D, 5, none⟩ = false := block_free h.blk
  have f6 : w.frozen? ⟨D, 6, none⟩ = false := block_free h.blk
  have f7 : w.frozen? ⟨D, 7, none⟩ = false := block_free h.blk
  have fn : w.frozen? ⟨D, 72, none⟩ = false := block_free h.blk
  have fl : w.frozen? ⟨D, 73, none⟩ = false := block_free h.blk
  have HH := Lib.hid h
  have hfin := Lib.hid (store8w (w := w) (wr := w) (D := D) (d := d) (s := H0) h.blk rfl h rfl (Mod.refl _ _))
  clear h hh
  go_enter Tryd.func53, Tryd.ntmps53
  go_wp2_with fail
  go_end0
  have h1 := (hfin.out.1.nx 0).lns 0
  have h2 := (hfin.out.2.setCell (p := ⟨D, 72, none⟩) (fun _ => rfl) (.int .i64 (0 : Nat))).setCell (p := ⟨D, 73, none⟩) (fun _ => rfl) (.int .u64 0)
  exact ⟨rfl, h1, h2⟩
end Go.Proofs.YtnfagjemhbgfkaaDoor.Sha
