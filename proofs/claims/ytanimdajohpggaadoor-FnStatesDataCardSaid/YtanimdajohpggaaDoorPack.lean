/- impl.Pack, impl.PackOwn, impl.Unpack; the laws FnPack, FnPackOwn. -/
import Derived.Test.YtanimdajohpggaaDoorWrNew
import Derived.Test.YtanimdajohpggaaDoorPkSpec2
namespace Go.Proofs.YtanimdajohpggaaDoor.Buf
open Go.ChangeShapes Go.WideShapes Go.ChangeAt Go.RowKit Go.Trav Go.Pk
set_option linter.unusedVariables false
set_option maxRecDepth 100000
theorem mod_toBelow {F : Nat → Prop} {w0 w w' : World} (h : Mod F w w') (hb : Below w0.heap.size w0 w) (hF : ∀ k, F k → w0.heap.size ≤ k) : Below w0.heap.size w0 w' :=
  hb.trans (h.toBelow hb.size fun k _ hk => hF k hk)
/-- A new bytes.Buffer. -/
theorem Is.fresh (w : World) : Is (w.alloc (.cells #[.slice none 0 0, .int .i64 0, .int .i8 0] 64 (0, 0))) w.heap.size (.slice none 0 0) [] :=
  ⟨⟨0, heap_alloc_new _ _⟩, World.ownsRow_nil _ _ _ _, Or.inl rfl, by simp [Value.ownBlock]⟩
theorem zzw_any (b : Nat) (w : World) (h : Is w b (.slice none 0 0) []) :
    Calls Tryd.prog 32 #[.iface 67 (.pointer (some ⟨b, 0, none⟩))] w fun e w' => ∃ u q f, e = .returned (.pointer (some ⟨u, 0, none⟩)) ∧ WOut w' u ⟨q, f, b, .slice none 0 0⟩ [] ∧ w.heap.size ≤ u ∧ w.heap.size ≤ q ∧ w.heap.size ≤ f ∧ Below w.heap.size w w' := by
  have H := Lib.hid h
  clear h
  go_enter Tryd.func32, Tryd.ntmps32
  go_wp2_with fail
  refine (new_any b w H.out).mono ?_
  rintro e w1 ⟨u, q, f, rfl, h1⟩
  have H1 := Lib.hid h1
  clear h1
  go_wp2_with fail
  go_ret
  exact ⟨u, q, f, rfl, H1.out⟩
theorem wpu_any (u : Nat) (i : Ids) (bs : List Nat) (v : Nat) (w : World) (h : WOut w u i bs) (hl : bs.length ≤ 4294967000) (hv : v < 18446744073709551616) :
    Calls Tryd.prog 37 #[.pointer (some ⟨u, 0, none⟩), .int .u64 v] w fun e w' => e = .returned .nilIface ∧ WWent w w' u i (bs ++ packed v (size v)) := by
  have H := Lib.hid h
  have HV := Lib.hid hv
  have hb := size_bd v
  clear h hv
  go_enter Tryd.func37, Tryd.ntmps37
  go_wp2_with fail
  refine (PkS.ps_any v w).mono ?_
  rintro e w1 ⟨rfl, rfl⟩
  go_wp2_with fail
  refine (in_any u i bs v (size v) w H.out hl HV.out hb.2).mono ?_
  rintro e w2 ⟨rfl, h2⟩
  have H2 := Lib.hid h2
  clear h2
  go_wp2_with fail
  go_ret
  exact ⟨rfl, H2.out⟩
/-- Where all of a writer is new. -/
theorem wf_new {w0 : World} {u : Nat} {i : Ids} (h : w0.heap.size ≤ u) (h1 : w0.heap.size ≤ i.q) (h2 : w0.heap.size ≤ i.f) (h3 : w0.heap.size ≤ i.b) (h4 : ∀ k, i.v.ownBlock = some k → w0.heap.size ≤ k) : ∀ k, WF u i k → w0.heap.size ≤ k := by
  rintro k (rfl | rfl | rfl | rfl | hk)
  · exact h
  · exact h1
  · exact h2
  · exact h3
  · exact h4 k hk
theorem pack_any (v n : Nat) (w : World) (hv : v < 18446744073709551616) (hn : n ≤ 8) :
    Calls Tryd.prog 11 #[.int .u64 v, .int .i64 n] w fun e w' => ∃ sv, e = .returned sv ∧ Reads w' sv n 1 ((packed v n).map bN) ∧ Below w.heap.size w w' := by
  have HV := Lib.hid hv
  clear hv
  go_enter Tryd.func11, Tryd.ntmps11
  go_wp2_with fail
  refine (zzw_any w.heap.size _ (Is.fresh w)).mono ?_
  rintro e w1 ⟨u, q, f, rfl, hW, hu, hq, hf, hb⟩
  have HW := Lib.hid hW
  clear hW
  simp at hu hq hf
  have hb0 : Below w.heap.size w w1 := ((Below.refl _ _).alloc (Nat.le_refl _) _).trans (hb.mono (by simp))
  go_wp2_with fail
  refine (in_any u _ [] v n w1 HW.out (by simp) HV.out hn).mono ?_
  rintro e w2 ⟨rfl, v2, hW2, hm2, hv2⟩
  have HW2 := Lib.hid hW2
  have HV2 := Lib.hid hv2
  clear hW2 hv2
  go_wp2_with fail
  refine (wflush_any u _ _ w2 HW2.out (by simp [packed_len]; omega)).mono ?_
  rintro e w3 ⟨rfl, v3, hI3, hm3, hv3⟩
  have HI3 := Lib.hid hI3
  clear hI3 hv3
  go_wp2_with fail
  refine (bytes_any w.heap.size v3 _ w3 HI3.out).mono ?_
  rintro e w4 ⟨sv, rfl, ho, k, rfl⟩
  have HO := Lib.hid ho
  clear ho
  go_wp2_with fail
  go_ret
  have hs1 := hb0.size
  have hs2 := hm2.size
  refine ⟨sv, rfl, ?_, ?_⟩
  · have := reads_of_owns HO.out
    simpa [packed_len] using this
  · refine below_drewN ?_ _
    have b2 := mod_toBelow hm2 hb0 (wf_new (by omega) (by show w.heap.size ≤ q; omega) (by show w.heap.size ≤ f; omega) (Nat.le_refl _) (by simp [Value.ownBlock]))
    refine mod_toBelow hm3 b2 (wf_new (by omega) (by show w.heap.size ≤ q; omega) (by show w.heap.size ≤ f; omega) (Nat.le_refl _) ?_)
    intro k hk
    rcases HV2.out with h | ⟨g, h, hg⟩
    · rw [show ({ q := q, f := f, b := w.heap.size, v := v2 } : Ids).v = v2 from rfl, h] at hk; simp [Value.ownBlock] at hk
    · rw [show ({ q := q, f := f, b := w.heap.size, v := v2 } : Ids).v = v2 from rfl, h] at hk; cases hk; omega
theorem packOwn_any (v : Nat) (w : World) (hv : v < 18446744073709551616) :
    Calls Tryd.prog 15 #[.int .u64 v] w fun e w' => ∃ sv, e = .returned sv ∧ Reads w' sv (size v) 1 ((packed v (size v)).map bN) ∧ Below w.heap.size w w' := by
  have HV := Lib.hid hv
  have hn := size_bd v
  clear hv
  go_enter Tryd.func15, Tryd.ntmps15
  go_wp2_with fail
  refine (zzw_any w.heap.size _ (Is.fresh w)).mono ?_
  rintro e w1 ⟨u, q, f, rfl, hW, hu, hq, hf, hb⟩
  have HW := Lib.hid hW
  clear hW
  simp at hu hq hf
  have hb0 : Below w.heap.size w w1 := ((Below.refl _ _).alloc (Nat.le_refl _) _).trans (hb.mono (by simp))
  go_wp2_with fail
  refine (wpu_any u _ [] v w1 HW.out (by simp) HV.out).mono ?_
  rintro e w2 ⟨rfl, v2, hW2, hm2, hv2⟩
  have HW2 := Lib.hid hW2
  have HV2 := Lib.hid hv2
  clear hW2 hv2
  go_wp2_with fail
  refine (wflush_any u _ _ w2 HW2.out (by simp [packed_len]; omega)).mono ?_
  rintro e w3 ⟨rfl, v3, hI3, hm3, hv3⟩
  have HI3 := Lib.hid hI3
  clear hI3 hv3
  go_wp2_with fail
  refine (bytes_any w.heap.size v3 _ w3 HI3.out).mono ?_
  rintro e w4 ⟨sv, rfl, ho, k, rfl⟩
  have HO := Lib.hid ho
  clear ho
  go_wp2_with fail
  go_ret
  have hs1 := hb0.size
  have hs2 := hm2.size
  refine ⟨sv, rfl, ?_, ?_⟩
  · have := reads_of_owns HO.out
    simpa [packed_len] using this
  · refine below_drewN ?_ _
    have b2 := mod_toBelow hm2 hb0 (wf_new (by omega) (by show w.heap.size ≤ q; omega) (by show w.heap.size ≤ f; omega) (Nat.le_refl _) (by simp [Value.ownBlock]))
    refine mod_toBelow hm3 b2 (wf_new (by omega) (by show w.heap.size ≤ q; omega) (by show w.heap.size ≤ f; omega) (Nat.le_refl _) ?_)
    intro k hk
    rcases HV2.out with h | ⟨g, h, hg⟩
    · rw [show ({ q := q, f := f, b := w.heap.size, v := v2 } : Ids).v = v2 from rfl, h] at hk; simp [Value.ownBlock] at hk
    · rw [show ({ q := q, f := f, b := w.heap.size, v := v2 } : Ids).v = v2 from rfl, h] at hk; cases hk; omega
theorem unpack_any (v : Value) (n : Nat) (l : List Nat) (w : World) (h : Reads w v n 1 (l.map bN)) (h8 : n ≤ 8) (hb : ∀ x ∈ l, x < 256) : Calls Tryd.prog 14 #[v] w fun e w' => e = .returned (.int .u64 (unpacked l)) ∧ w = w' := by
  have H := Lib.hid h
  have HB := Lib.hid hb
  clear h hb
  have hz : Calls Tryd.prog 36 #[v] w fun e w' => e = .returned (.int .u64 (unpacked l)) ∧ w = w' := by
    go_enter Tryd.func36, Tryd.ntmps36
    go_wp2_with fail
    refine (PkS.read_any v n l w H.out h8 HB.out).mono ?_
    rintro e w1 ⟨rfl, rfl⟩
    go_wp2_with fail
    go_ret
    exact ⟨rfl, rfl⟩
  have HZ := Lib.hid hz
  clear hz
  go_enter Tryd.func14, Tryd.ntmps14
  go_wp2_with fail
  refine HZ.out.mono ?_
  rintro e w1 ⟨rfl, rfl⟩
  go_wp2_with fail
  go_ret
  exact ⟨rfl, rfl⟩
theorem law_any (v : Nat) (n : Int) (w : World) (hv : v < 18446744073709551616) (h1 : -9223372036854775808 ≤ n) (h2 : n ≤ 9223372036854775807) :
    Calls Tryd.prog 3 #[.int .u64 v, .int .i64 n] w fun e w' => e = .returned (.bool true) ∧ Below w.heap.size w w' := by
  have HV := Lib.hid hv
  clear hv
  by_cases hs : n < (size v : Int)
  · go_enter Tryd.func3, Tryd.ntmps3
    go_wp2_with fail
    refine (PkS.size_any v w HV.out).mono ?_
    rintro e w1 ⟨rfl, rfl⟩
    go_wp2_with fail
    go_ret
    exact ⟨rfl, Below.refl _ _⟩
  · by_cases h8 : n ≤ 8
    · obtain ⟨m, rfl⟩ := Int.eq_ofNat_of_zero_le (show 0 ≤ n by have := size_bd v; omega)
      have hm : m ≤ 8 := by omega
      have hp := unpacked_packed_of_lt (v := v) (n := m) (by have := lt_size HV.out; have h3 : 256 ^ size v ≤ 256 ^ m := Nat.pow_le_pow_right (by omega) (by omega); omega)
      have HP := Lib.hid hp
      clear hp h1 h2
      go_enter Tryd.func3, Tryd.ntmps3
      go_wp2_with fail
      refine (PkS.size_any v w HV.out).mono ?_
      rintro e w1 ⟨rfl, rfl⟩
      go_wp2_with fail
      refine (pack_any v m w HV.out hm).mono ?_
      rintro e w1 ⟨sv, rfl, hR, hb1⟩
      have HR := Lib.hid hR
      clear hR
      go_wp2_with fail
      refine (PkS.packed_any v m w1 HV.out (by omega)).mono ?_
      rintro e w2 ⟨tv, rfl, hT, hb2⟩
      have HT := Lib.hid hT
      clear hT
      go_wp2_with fail
      refine (PkS.same_any sv tv m _ w2 (HR.out.below hb2) HT.out).mono ?_
      rintro e w3 ⟨rfl, hb3⟩
      go_wp2_with fail
      refine (unpack_any sv m _ w3 ((HR.out.below hb2).below hb3) hm (packed_lt v m)).mono ?_
      rintro e w4 ⟨rfl, rfl⟩
      rw [HP.out]
      go_wp2_with fail
      go_ret
      exact ⟨rfl, (hb1.trans (hb2.mono hb1.size)).trans (hb3.mono (Nat.le_trans hb1.size hb2.size))⟩
    · go_enter Tryd.func3, Tryd.ntmps3
      go_wp2_with fail
      refine (PkS.size_any v w HV.out).mono ?_
      rintro e w1 ⟨rfl, rfl⟩
      go_wp2_with fail
      go_ret
      exact ⟨rfl, Below.refl _ _⟩
theorem lawO_any (v : Nat) (w : World) (hv : v < 18446744073709551616) :
    Calls Tryd.prog 4 #[.int .u64 v] w fun e w' => e = .returned (.bool true) ∧ Below w.heap.size w w' := by
  have HV := Lib.hid hv
  have hs := size_bd v
  clear hv
  go_enter Tryd.func4, Tryd.ntmps4
  go_wp2_with fail
  refine (packOwn_any v w HV.out).mono ?_
  rintro e w1 ⟨sv, rfl, hR, hb1⟩
  have HR := Lib.hid hR
  clear hR
  go_wp2_with fail
  refine (PkS.size_any v w1 HV.out).mono ?_
  rintro e w2 ⟨rfl, rfl⟩
  go_wp2_with fail
  refine (PkS.packed_any v (size v) w1 HV.out (by omega)).mono ?_
  rintro e w2 ⟨tv, rfl, hT, hb2⟩
  have HT := Lib.hid hT
  clear hT
  go_wp2_with fail
  refine (PkS.same_any sv tv (size v) _ w2 (HR.out.below hb2) HT.out).mono ?_
  rintro e w3 ⟨rfl, hb3⟩
  go_wp2_with fail
  go_ret
  exact ⟨rfl, (hb1.trans (hb2.mono hb1.size)).trans (hb3.mono (Nat.le_trans hb1.size hb2.size))⟩
end Go.Proofs.YtanimdajohpggaaDoor.Buf
