/- spec.Accepts: the walk. -/
import Derived.Test.YtanimdajohpggaaAcc1
namespace Go.Proofs.Ytanimdajohpggaa.Table
open Go.ChangeShapes Go.WideShapes Go.ChangeAt Go.RowKit Go.Trav
set_option linter.unusedVariables false
set_option maxRecDepth 100000
def bytesN (s : ByteArray) : List Nat := s.data.toList.map fun b => b.toNat
theorem bytesN_len (s : ByteArray) : (bytesN s).length = s.size := by
  unfold bytesN
  rw [List.length_map, Array.length_toList]
  rfl
theorem bytesN_lt (s : ByteArray) : ∀ b ∈ bytesN s, b < 256 := fun b hb => by
  unfold bytesN at hb
  obtain ⟨y, _, rfl⟩ := List.mem_map.1 hb
  exact y.toNat_lt
theorem bytesN_at (s : ByteArray) (k : Nat) (h : k < s.size) : (bytesN s)[k]? = some (s[k]).toNat := by
  unfold bytesN
  rw [List.getElem?_map, Array.getElem?_toList, Array.getElem?_eq_getElem h]
  rfl
set_option maxHeartbeats 4000000 in
theorem accepts_any {cv nv mv : Value} {ao bo : Option Addr} {al ac bl bc n s0 : Nat} {cls : List Nat} {nxs : List (List Nat)} {rvs : List Value} {mts : List Bool} (w : World) (h : TabR w cv nv mv n 256 cls nxs rvs mts) (hf : Fit n cls nxs) (hs0 : s0 < n) (key : ByteArray) (hk : key.size ≤ 2147483647) :
    Calls Try.prog 16 #[RVal (s0 : Int) cv nv mv (.slice ao al ac) (.slice bo bl bc), .string key] w fun e w' => e = .returned (.bool (mts[runT cls nxs s0 (bytesN key)]?.getD false)) ∧ Below w.heap.size w w' := by
  obtain ⟨co, cc, rfl⟩ := h.cls.form
  obtain ⟨no, nc, rfl⟩ := h.nxt.form
  obtain ⟨mo, mc, rfl⟩ := h.mts.form
  have hn := h.small
  have hml : mts.length = n := by have := h.mts.len; simpa using this
  have H := Lib.hid h
  have HF := Lib.hid hf
  clear h hf
  unfold RVal
  go_enter Try.func16, Try.ntmps16
  go_wp2_with fail
  obtain ⟨W1, hW1⟩ : ∃ W1, W1 = w.alloc (.cells #[.int .i64 (s0 : Int), .slice co 256 cc, .slice no n nc, .slice mo n mc, .slice ao al ac, .slice bo bl bc] 36) := ⟨_, rfl⟩
  rw [← hW1]
  have g0 : W1.heap[w.heap.size]? = some (.cells #[.int .i64 (s0 : Int), .slice co 256 cc, .slice no n nc, .slice mo n mc, .slice ao al ac, .slice bo bl bc] 36 (0, 0)) := by rw [hW1]; exact heap_alloc_new w _
  have g1 : Below w.heap.size w W1 := by rw [hW1]; exact (Below.refl _ _).alloc (Nat.le_refl _) _
  have G0 := Lib.hid g0
  have G1 := Lib.hid g1
  clear hW1 g0 g1
  have hsw := G1.out.size
  go_loopw [5, 6] (fun sv iv wr => ∃ (k st : Nat), sv = .int .i64 (st : Int) ∧ iv = .int .i64 (k : Int) ∧ k ≤ key.size ∧ st < n ∧ Hid (runT cls nxs s0 ((bytesN key).take k) = st) ∧ Hid (Below W1.heap.size W1 wr)) (fun _ iv _ => key.size - (intOf iv).toNat)
  case atStart => exact ⟨0, s0, rfl, rfl, Nat.zero_le _, hs0, Lib.hid rfl, Lib.hid (Below.refl _ _)⟩
  case round =>
    obtain ⟨k, st, rfl, rfl, hk2, hst, HR, HW⟩ := hrel
    rename World => wr
    have hblk := block_below G0.out HW.out (block_lt G0.out)
    have hbw : Below w.heap.size w wr := G1.out.trans (HW.out.mono hsw)
    by_cases hlt : k < key.size
    · have hby := bytesN_at key k hlt
      have hbl := bytesN_lt key _ (List.mem_of_getElem? hby)
      obtain ⟨c, r, u, e1, e2, e3, e4, hun, hum⟩ := HF.out.step hst hbl
      have hsn : runT cls nxs s0 ((bytesN key).take (k + 1)) = u := by rw [take_snoc' _ _ _ hby, runT_snoc, HR.out, e4]
      have HSN := Lib.hid hsn
      obtain ⟨b1, o1, _, c', hx, f1, c1⟩ := Reads.one iN H.out.cls (k := (key[k]).toNat) hbl
      cases hx
      obtain rfl := Option.some.inj (e1.symm.trans f1)
      obtain ⟨b2, o2, _, rv, hx, f2, c2⟩ := Reads.one id (l := rvs) (by simpa using H.out.nxt) hst
      cases hx
      have hrr := H.out.rows st rv r f2 e2
      have hcr := (List.getElem?_eq_some_iff.1 e3).1
      have hr5 := HF.out.r5 st r e2
      obtain ⟨b3, o3, _, u', hx, f3, c3⟩ := Reads.one iN hrr (k := c) (by omega)
      subst hx
      obtain rfl := Option.some.inj (e3.symm.trans f3)
      simp only [id] at c2
      unfold iN at c1 c3
      replace c1 := keep_cell hbw c1
      replace c2 := keep_cell hbw c2
      replace c3 := keep_cell hbw c3
      have p1 := block_cell (i := 1) hblk rfl
      have p2 := block_cell (i := 2) hblk rfl
      have q1 := cell_regrown c1
      have q2 := cell_regrown c2
      have q3 := cell_regrown c3
      have q4 := cell_regrown p1
      have q5 := cell_regrown p2
      have hc5 : c < 5 := by omega
      have i1 : (0 : Int) ≤ (st : Int) := by omega
      have i2 : (st : Int) < (n : Int) := by omega
      have i3 : (0 : Int) ≤ (c : Int) := by omega
      have i4 : (c : Int) < 5 := by omega
      have i5 : (0 : Int) ≤ ((key[k]).toNat : Int) := by omega
      have i6 : ((key[k]).toNat : Int) < 256 := by omega
      have i7 : (0 : Int) ≤ (k : Int) := by omega
      have i8 : (k : Int) < (key.size : Int) := by omega
      have hw4 : IntKind.i64.wrap ((key[k]).toNat : Int) = ((key[k]).toNat : Int) := IntWalk.i64_in _ (by omega)
      clear hby e1 e2 e3 e4 f1 f2 f3 hrr hr5 hcr hsn hum hblk hbw
      go_wp2_with fail
      refine wp_region_quiet_below (by kernel_rfl) (by kernel_rfl) ?_
      repeat (first | go_big_quiet_step (fail) | quiet_step (fail))
      refine wpQuiet_nil ?_
      intro _ hw'
      obtain ⟨⟨dq, osq⟩, hw''⟩ := hw'
      subst hw''
      have HW3 := Lib.hid (HW.out.trans ((below_regrown wr dq osq).mono HW.out.size))
      go_wp2_with fail
      first
        | (go_roundw
           case rel => exact ⟨k + 1, _, rfl, by go_num, by omega, hun, HSN, HW3⟩
           case measure => simp [intOf]; omega)
        | (refine ⟨⟨k + 1, _, rfl, by go_num, by omega, hun, HSN, HW3⟩, ?_⟩
           simp [intOf]
           omega)
    · obtain rfl : k = key.size := by omega
      have hfin : runT cls nxs s0 (bytesN key) = st := by have := HR.out; rwa [List.take_of_length_le (by rw [bytesN_len]; exact Nat.le_refl _)] at this
      obtain ⟨b4, o4, _, mt, hx, f4, c4⟩ := Reads.one Value.bool H.out.mts hst
      cases hx
      replace c4 := keep_cell hbw c4
      have p3 := block_cell (i := 3) hblk rfl
      have i1 : (0 : Int) ≤ (st : Int) := by omega
      have i2 : (st : Int) < (n : Int) := by omega
      have HFIN : Hid (mts[runT cls nxs s0 (bytesN key)]?.getD false = mt) := Lib.hid (by rw [hfin, f4]; rfl)
      have HBW := Lib.hid hbw
      clear hfin f4 hblk hbw
      go_wp2_with fail
      go_ret
      exact ⟨by rw [HFIN.out]; rfl, HBW.out⟩
end Go.Proofs.Ytanimdajohpggaa.Table
