/- impl.TableContains: the walk. -/
import Derived.Test.YtanimdajohpggaaTc1
namespace Go.Proofs.Ytanimdajohpggaa.Table
open Go.ChangeShapes Go.WideShapes Go.ChangeAt Go.RowKit Go.Trav
set_option linter.unusedVariables false
set_option maxRecDepth 100000
theorem reads_key (w : World) (s : ByteArray) (cap : Nat) (e : TypeId) (fr : Nat × Nat) (hs : s.size ≤ cap) (hc : cap ≤ maxLen) : Reads (w.alloc (.cells (bytesRow s cap) e fr)) (.slice (some ⟨w.heap.size, 0, none⟩) s.size cap) s.size 1 (((bytesN s).map fun b : Nat => (b : Int)).map fun b => .int .u8 b) := by
  refine ⟨some ⟨w.heap.size, 0, none⟩, cap, rfl, hs, hc, (by intro h; cases h), by simp [bytesN_len], fun hp => ⟨_, 0, rfl, fun j u hj => ?_⟩⟩
  rw [Nat.zero_add]
  refine block_cell (heap_alloc_new _ _) ?_
  unfold bytesRow
  have hj2 : j < s.data.size := by have := (List.getElem?_eq_some_iff.1 hj).1; simpa [bytesN] using this
  rw [Array.getElem?_append_left (by simpa using hj2)]
  simp [bytesN] at hj
  obtain ⟨y, hy, rfl⟩ := hj
  simp [hy]
set_option maxHeartbeats 2000000 in
theorem tc_any {cv nv mv av bv : Value} {n s0 : Nat} {cls : List Nat} {nxs : List (List Nat)} {rvs : List Value} {mts cans als : List Bool} (w : World) (h : TabR w cv nv mv n 256 cls nxs rvs mts) (hf : Fit n cls nxs) (hs0 : s0 < n) (hc : Reads w av n 1 (cans.map Value.bool)) (ha : Reads w bv n 1 (als.map Value.bool)) (hok : CanOk nxs mts cans) (key : ByteArray) (hk : key.size ≤ 2147483647) :
    Calls Try.prog 15 #[RVal (s0 : Int) cv nv mv av bv, .string key] w fun e w' => e = .returned (.bool (mts[runT cls nxs s0 (bytesN key)]?.getD false)) ∧ Below w.heap.size w w' := by
  have hml : mts.length = n := by have := h.mts.len; simpa using this
  have hcl : cans.length = n := by have := hc.len; simpa using this
  have kc := fun (w : World) => run_bytes_of_string (P := Try.prog) w 9 77 5 key Try.underlying9 Try.underlying77 Try.underlying5
  have hres := fun (w2 : World) (hb : Below w.heap.size w w2) (kv : Value) (hr : Reads w2 kv key.size 1 (((bytesN key).map fun b : Nat => (b : Int)).map fun b => .int .u8 b)) =>
    Path.contains_any w2 (autOf w2 (h.below hb) hf hs0 (hc.below hb) (ha.below hb)) (fun s hs => by obtain ⟨k, _, rfl⟩ := hs; omega) kv key.size ((bytesN key).map fun b : Nat => (b : Int)) hr (fun b hb => by
      obtain ⟨y, hy, rfl⟩ := List.mem_map.1 hb
      have := bytesN_lt key y hy
      omega) hk
  have hcr := cont_run hf hok hcl hml (fun s => mts[(s - 2).toNat]?.getD false) (fun s => cans[(s - 2).toNat]?.getD false) (fun s b => ((nx cls nxs (s - 2).toNat b.toNat : Nat) : Int) + 2)
    (fun s _ => by rw [show ((s : Int) + 2 - 2).toNat = s by omega]) (fun s _ => by rw [show ((s : Int) + 2 - 2).toNat = s by omega]) (fun s b _ _ => by rw [show ((s : Int) + 2 - 2).toNat = s by omega]; simp) (bytesN key) s0 hs0 (bytesN_lt key)
  rw [hcr] at hres
  obtain ⟨co, cc, rfl⟩ := h.cls.form
  obtain ⟨no, nc, rfl⟩ := h.nxt.form
  obtain ⟨mo, mc, rfl⟩ := h.mts.form
  obtain ⟨ao, ac, rfl⟩ := hc.form
  obtain ⟨bo, bc, rfl⟩ := ha.form
  have HRES := Lib.hid hres
  clear hres hcr h hf hc ha hok hml hcl
  generalize hR : mts[runT cls nxs s0 (bytesN key)]?.getD false = R at *
  clear hR
  unfold RVal at HRES ⊢
  go_enter Try.func15, Try.ntmps15
  go_wp2_with fail
  obtain ⟨W1, hW1⟩ : ∃ W1, W1 = w.alloc (.cells #[.int .i64 (s0 : Int), .slice co 256 cc, .slice no n nc, .slice mo n mc, .slice ao n ac, .slice bo n bc] 36) := ⟨_, rfl⟩
  rw [← hW1]
  have hsz : W1.heap.size = w.heap.size + 1 := by rw [hW1]; simp
  have hb1 : Below w.heap.size w W1 := by rw [hW1]; exact (Below.refl _ _).alloc (Nat.le_refl _) _
  rw [← hsz]
  clear hW1
  have hc1 := grownCap_ge W1 key.size 0 5
  have hc2 := grownCap_le_maxLen W1 key.size 0 5 (by unfold maxLen; omega)
  generalize grownCap W1 key.size 0 5 = cap at *
  have hR0 := (reads_key W1 key cap 5 ((bytesRow key cap).size, (bytesRow key cap).size + 1) hc1 hc2).drewN 1
  rw [show ∀ x : World, x.drewN 1 = x.drew from fun _ => rfl] at hR0
  have hb2 : Below w.heap.size w (W1.alloc (.cells (bytesRow key cap) 5 ((bytesRow key cap).size, (bytesRow key cap).size + 1))).drew := (hb1.alloc (by omega) _).drew
  refine (HRES.out _ hb2 _ hR0).mono ?_
  rintro e w' ⟨rfl, hb3⟩
  have HB3 := Lib.hid (hb2.trans (hb3.mono hb2.size))
  clear hb3 hb2 hR0
  go_wp2_with fail
  go_ret
  exact ⟨rfl, HB3.out⟩
end Go.Proofs.Ytanimdajohpggaa.Table
