/- sha256: Sum256. -/
import Derived.Test.YtnfagjemhbgfkaaDoorSha5
import Derived.Deep.RegionWith
import Derived.Shelf.Abstract
namespace Go.Proofs.YtnfagjemhbgfkaaDoor.Sha
open Go.ChangeShapes Go.WideShapes Go.ChangeAt Go.RowKit Go.Trav
set_option linter.unusedVariables false
set_option linter.unusedSimpArgs false
set_option maxRecDepth 100000
/-- The digest of a row of bytes. -/
def sha (K : Nat → Int) (bs : List Int) : List Int := outB (sumD K (feed K ⟨hOf H0, List.replicate 64 0, 0, 0⟩ bs) bs.length).h
theorem feed_ln (K : Nat → Int) (bs : List Int) (hn : bs.length ≤ 65536) : (feed K ⟨hOf H0, List.replicate 64 0, 0, 0⟩ bs).ln = (bs.length : Int) := by
  show IntKind.u64.wrap (0 + (bs.length : Int)) = _
  rw [Int.zero_add]
  simp [IntKind.wrap, IntKind.bits, IntKind.signed]
  omega
theorem feed_nx (K : Nat → Int) (bs : List Int) : (feed K ⟨hOf H0, List.replicate 64 0, 0, 0⟩ bs).nx = bs.length % 64 := rfl
set_option maxHeartbeats 4000000 in
theorem sum256_any (b off n cap : Nat) (bs : List Int) (K : Nat → Int) (w : World) (hR : Reads w (.slice (some ⟨b, off, none⟩) n cap) n 1 (bs.map u8V)) (hb : b < w.heap.size) (hK : KAt w K) (hn : n ≤ 65536) :
    Calls Tryd.prog 27 #[.slice (some ⟨b, off, none⟩) n cap] w fun e w' => e = .returned (.agg ((sha K bs).map u8V).toArray) ∧ Below w.heap.size w w' := by
  have HR := Lib.hid hR
  have HK := Lib.hid hK
  have hkl := kat_lt hK
  clear hR hK
  go_enter Tryd.func27, Tryd.ntmps27
  go_wp2_with fail
  obtain ⟨V0, hV0, hBV, hBlV, hszV⟩ := alloc1 w
  have HBV := Lib.hid hBV
  have HBL := Lib.hid hBlV
  have HSZ := Lib.hid hszV
  rw [← hV0]
  clear hV0 hBV hBlV hszV
  refine (new_any V0).mono ?_
  rintro e w1 ⟨rfl, hD, hB1⟩
  have HD := Lib.hid hD
  have HB1 := Lib.hid hB1
  have hD0 : V0.heap.size ≠ b := by have := HSZ.out; omega
  have hDK : 1 ≠ V0.heap.size := by have := HSZ.out; omega
  have hR1 := (HR.out.mod (Mod.of_below (F := fun _ => False) HBL.out) (fun _ _ h => h)).mod (Mod.of_below (F := fun _ => False) HB1.out) (fun _ _ h => h)
  have hK1 := (HK.out.mod (Mod.of_below (F := fun _ => False) HBL.out) (fun h => h)).mod (Mod.of_below (F := fun _ => False) HB1.out) (fun h => h)
  have HW := Lib.hid (write_any V0.heap.size b off n cap bs _ K w1 HD.out hR1 hK1 (fun e => hD0 e.symm) hDK hn (Or.inl rfl))
  have HK1 := Lib.hid hK1
  have hbn := (reads_cells HR.out).1
  have HBN := Lib.hid hbn
  clear hD hB1 hR1 hK1 hbn
  obtain ⟨D, hDe⟩ : ∃ D, D = V0.heap.size := ⟨_, rfl⟩
  rw [← hDe] at HD HB1 hD0 hDK HW ⊢
  have HDE := Lib.hid hDe
  clear hDe
  have mW : ∀ w, (method 250 107 (.pointer (some ⟨D, 0, none⟩)) "Write").run Tryd.prog w = .ok (78, .pointer (some ⟨D, 0, none⟩)) w := fun w => by kernel_rfl
  have eW : ∀ args w, (callFunc 78 args).run Tryd.prog w = .ok (.enter 78 args) w := enters_of Tryd.func78 (by kernel_rfl) rfl
  --[X
  go_wp2_with fail
  refine HW.out.mono ?_
  rintro e w2 ⟨rfl, hD2, hm2⟩
  have HD2 := Lib.hid hD2
  have HM2 := Lib.hid hm2
  clear hD2 hm2 mW eW
  go_wp2_with fail
  obtain ⟨V2, hV2, hBS, hBlS, hszS⟩ := alloc1 w2
  rw [← hV2]
  obtain ⟨S, hSe⟩ : ∃ S, S = w2.heap.size := ⟨_, rfl⟩
  rw [← hSe] at hBS hBlS hszS ⊢
  have HSE := Lib.hid hSe
  have hDS : D ≠ S := by have := block_lt HD2.out.blk; omega
  have HV2 : Hid (Mod (fun q => q = D) w1 V2) := Lib.hid (HM2.out.trans (Mod.of_below (hSe ▸ hBlS)))
  have HDV : Hid (DAt V2 D (feed K ⟨hOf H0, List.replicate 64 0, 0, 0⟩ bs)) := Lib.hid (HD2.out.mod (Mod.of_below (F := fun _ => False) (hSe ▸ hBlS)) (fun h => h))
  have HSV := Lib.hid hBS
  have HKV := Lib.hid (HK1.out.mod HV2.out (fun e => hDK e))
  have HSZ2 := Lib.hid hszS
  have hSlt := block_lt hBS.blk
  clear hV2 hBS hBlS hszS hSe
  have hDw : w.heap.size < D := by have := HSZ.out; have := HDE.out; omega
  have hSw : w.heap.size < S := by have := block_lt HD2.out.blk; have := HSE.out; omega
  have HRV : Hid (BAt V2 w.heap.size 67 (List.replicate 32 0)) := Lib.hid ((HBV.out.mod (Mod.of_below (F := fun _ => False) (HDE.out ▸ HB1.out)) (fun h => h)).mod HV2.out (by omega))
  have HMV : Hid (Mod (fun q => w.heap.size ≤ q) w V2) := Lib.hid (((Mod.of_below (F := fun q => w.heap.size ≤ q) HBL.out).step (Mod.of_below (F := fun _ => False) (HDE.out ▸ HB1.out)) (fun _ _ h => absurd h (fun h => h))).step HV2.out (fun i hi e => by omega))
  have mS : ∀ w, (method 250 107 (.pointer (some ⟨D, 0, none⟩)) "Sum").run Tryd.prog w = .ok (77, .pointer (some ⟨D, 0, none⟩)) w := fun w => by kernel_rfl
  have eS : ∀ args w, (callFunc 77 args).run Tryd.prog w = .ok (.enter 77 args) w := enters_of Tryd.func77 (by kernel_rfl) rfl
  have HSUM : Hid (∀ W, Below V2.heap.size V2 W → Calls Tryd.prog 77 #[.pointer (some ⟨D, 0, none⟩), .slice (some ⟨S, 0, none⟩) 0 32] W fun e w' => e = .returned (.slice (some ⟨S, 0, none⟩) 32 32) ∧ BAt w' S 67 (sha K bs) ∧ Mod (fun q => q = S) V2 w') := by
    refine Lib.hid fun W hW => ?_
    refine (sum_any D S bs.length _ (List.replicate 32 0) K W (HDV.out.mod (Mod.of_below (F := fun _ => False) hW) (fun h => h)) (HKV.out.mod (Mod.of_below (F := fun _ => False) hW) (fun h => h)) (feed_ln K bs (by rw [HBN.out]; exact hn)) (by rw [HBN.out]; exact hn) (feed_nx K bs) (HSV.out.mod (Mod.of_below (F := fun _ => False) hW) (fun h => h)) (by simp)).mono ?_
    rintro e w' ⟨rfl, h1, h2⟩
    exact ⟨rfl, h1, (Mod.of_below hW).trans h2⟩
  have nA : ∀ w, (nilAhead 250 107 (.pointer (some ⟨D, 0, none⟩)) "Sum").run Tryd.prog w = .ok (some false) w := fun w => by kernel_rfl
  have HSD := Lib.hid (HSUM.out V2.drew (below_drewN (Below.refl _ _) 1))
  go_region_with (
    refine HSD.out.mono ?_
    rintro e w4 ⟨rfl, hS4, hM4⟩
    have HS4 := Lib.hid hS4
    have HM4 := Lib.hid hM4
    clear hS4 hM4)
  all_goals
    have hR4 := HRV.out.mod HM4.out (by omega)
    have hll : (sha K bs).length = 32 := rfl
    have hs8 : (((sha K bs).map u8V).toArray).size = 32 := by simpa using hll
    have hi8 : (Tryd.prog.info? 67).map (·.size) = some (((sha K bs).map u8V).toArray).size := by
      rw [hs8]
      obtain ⟨i0, hi0, -, hz1, -⟩ := info_parts Tryd.info67
      rw [hi0]
      simp [hz1]
    have HI8 := Lib.hid hi8
    have HO8 : Hid (((List.replicate 32 (0 : Int)).map u8V).toArray.size = (((sha K bs).map u8V).toArray).size) := Lib.hid (by rw [hs8]; simp)
    have H18 : Hid ((((sha K bs).map u8V).toArray).all (·.oneCell') = true) := Lib.hid (Array.all_eq_true_iff_forall_mem.2 (fun v hv => u8V_one (sha K bs) v (by simpa using hv)))
    have HR4 := Lib.hid hR4
    have HF := Lib.hid ((mod_setRow (HMV.out.step HM4.out (fun i hi e => by omega)) (g := w.heap.size) (fun _ => Nat.le_refl _) ((sha K bs).map u8V).toArray).toBelow (Nat.le_refl _) (fun k _ h => h))
    clear hR4 hll hs8 hi8
    go_wp2_with (first | (refine wpList_load_row rfl 67 (.tmp 4) rfl S rfl 67 _ (0, 0) _ HS4.out.blk Tryd.underlying67 rfl HI8.out ?_) | (refine wpList_store_row rfl 67 (.tmp 2) (.tmp 17) rfl w.heap.size _ rfl rfl 67 _ HR4.out.blk HI8.out HO8.out H18.out ?_))
    refine bodyPost_ret (v := .agg ((sha K bs).map u8V).toArray) ?_ rfl ⟨rfl, HF.out⟩
    exact results_cell_row rfl _ _ w.heap.size 67 _ (0, 0) _ rfl (setRow_heap _ _ _ _ _ _ HR4.out.blk) Tryd.underlying67 rfl HI8.out
  --]X
end Go.Proofs.YtnfagjemhbgfkaaDoor.Sha
