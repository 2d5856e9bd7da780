/- The decoder: at, stateAt. -/
import Derived.Test.YtkbonmjbfpdchaaDoorDec2
import Derived.Test.YtkbonmjbfpdchaaDoorDec3
namespace Go.Proofs.YtkbonmjbfpdchaaDoor.Dec
open Go.ChangeShapes Go.WideShapes Go.ChangeAt Go.RowKit Go.Trav Go.Pk Go.Dec Go.Proofs.YtkbonmjbfpdchaaDoor.PkS Go.Proofs.YtkbonmjbfpdchaaDoor.Common
set_option linter.unusedVariables false
set_option linter.unusedSimpArgs false
set_option maxRecDepth 100000
theorem isEnc_raw (S o : Nat) (dv : Value) (D : List Nat) (tv top : Nat) (bb : Bool) (w : World) (k0 : w.cell? ⟨S, o, none⟩ = some dv) (k1 : w.cell? ⟨S, o + 1, none⟩ = some (.int .i64 (top : Int))) (hD : Reads w dv D.length 1 (D.map bN)) (hlen : D.length ≤ 4294967296) (htv : D[top]? = some tv) (htb : tv < 256) (hb : decide (128 ≤ tv) = bb) :
    Calls Tryd.prog 76 #[.pointer (some ⟨S, o, none⟩)] w fun e w' => e = .returned (.bool bb) ∧ ∃ k, w' = w.drewN k := by
  obtain ⟨b, off, cap, rfl, c0, hlt⟩ := data_at hD htv
  have hI1 : (0 : Int) ≤ (top : Int) := by omega
  have hI2 : (top : Int) < (D.length : Int) := by omega
  clear hD htv
  generalize D.length = n at *
  cases bb with
  | true =>
    have h128 : 128 ≤ tv := by simpa using hb
    clear hb
    go_enter Tryd.func76, Tryd.ntmps76
    go_wp2_with fail
    go_quiet (fail)
    go_wp2_with fail
    go_ret
    exact ⟨rfl, _, rfl⟩
  | false =>
    have h128 : ¬ 128 ≤ tv := by simpa using hb
    clear hb
    go_enter Tryd.func76, Tryd.ntmps76
    go_wp2_with fail
    go_quiet (fail)
    go_wp2_with fail
    go_ret
    exact ⟨rfl, _, rfl⟩
/-- The struct, cleared. -/
def zs : List Value := cS (.slice none 0 0) 0 0 0 0 false 0 0 0 0
theorem cM_cS (dv : Value) (top : Nat) : cM dv top top 0 0 0 false 0 0 0 0 0 0 0 = cS dv top top 0 0 false 0 0 0 0 := rfl
theorem CsM.trans {w0 w1 w : World} {S o : Nat} {cs cs' : List Value} (h : CsM w0 w1 S o cs) (k : CsM w1 w S o cs') : CsM w0 w S o cs' := ⟨k.cells, h.mod.trans k.mod⟩
theorem at_single (S o : Nat) (dv : Value) (D : List Nat) (top b1 s0 ts os : Nat) (nx : Bool) (x : NA) (w : World) (hz : Cs w S o zs) (hD : Reads w dv D.length 1 (D.map bN)) (hDb : ∀ y ∈ D, y < 256) (hDs : D.length ≤ 4294967296) (h : SB D top s0 b1 nx ts os x) (h16 : 16 ≤ top) (hS : ∀ a c, dv = .slice (some a) D.length c → a.block ≠ S)
    (hT : ∀ w', Mod (fun k => k = S) w w' → TabAt w' 3 T1) :
    Calls Tryd.prog 60 #[.pointer (some ⟨S, o, none⟩), dv, .int .i64 (top : Int)] w fun e w' => e = .returned .nilIface ∧ CsM w w' S o (Desc.cells dv (dS top s0 b1 nx ts os x)) := by
  have htl : top < D.length := (List.getElem?_eq_some_iff.1 h.topv).1
  have HB := Lib.hid h
  have HD := Lib.hid hD
  have HDB := Lib.hid hDb
  have HS := Lib.hid hS
  have HT := Lib.hid hT
  have HC0 := Lib.hid (show CsM w w S o zs from ⟨hz, Mod.refl _ _⟩)
  obtain ⟨k0, f0⟩ := HC0.out.at 0 _ rfl
  obtain ⟨k1, f1⟩ := HC0.out.at 1 _ rfl
  obtain ⟨k2, f2⟩ := HC0.out.at 2 _ rfl
  simp only [iI, Nat.add_zero] at k0 f0 k1 f1 k2 f2
  have t0 : ((top : Int) == 0) = false := beq_eq_false_iff_ne.2 (by omega)
  have t1 : ((top : Int) == 1) = false := beq_eq_false_iff_ne.2 (by omega)
  have t2 : decide ((D.length : Int) < (top : Int)) = false := by simp; omega
  have t3 : decide (D.length < top) = false := by simp; omega
  have t4 : decide ((top : Int) < 16) = false := by simp; omega
  have t5 : decide (top < 16) = false := by simp; omega
  obtain ⟨da, dc, rfl⟩ := hD.form
  clear hz hD hDb hS hT h
  go_enter Tryd.func60, Tryd.ntmps60
  go_upto_region 9 with (fail)
  go_cut [] (fun wx => Hid (CsM w wx S o (cS (.slice da D.length dc) top top 0 0 false 0 0 0 0)))
  case first =>
    go_wp2_with fail
    go_meet
    have e := ((HC0.out.set 0 rfl (.slice da D.length dc) rfl).set 1 rfl (.int .i64 (top : Int)) rfl).set 2 rfl (.int .i64 (top : Int)) rfl
    rw [Nat.add_zero] at e
    exact Lib.hid e
  rename World => wz
  have HC1 := hcut
  clear hcut HC0 k0 f0 k1 f1 k2 f2
  obtain ⟨k0, f0⟩ := HC1.out.at 0 _ rfl
  obtain ⟨k1, f1⟩ := HC1.out.at 1 _ rfl
  simp only [iI, Nat.add_zero] at k0 k1
  clear f0 f1
  have hdw : Reads wz (.slice da D.length dc) D.length 1 (D.map bN) := HD.out.mod HC1.out.mod (fun g hg e => by
    cases da with
    | none => simp [Value.ownBlock] at hg
    | some a => simp [Value.ownBlock] at hg; exact HS.out a dc rfl (by rw [hg]; exact e))
  have HDW := Lib.hid hdw
  have hct := code_le x.1
  have hct2 : 128 + (if nx then 64 else 0) + code x.1 < 256 := by cases nx <;> simp <;> omega
  have hq := isEnc_raw S o _ D _ top true wz k0 k1 HDW.out hDs HB.out.topv hct2 (by simp; omega)
  have HQ := Lib.hid hq
  clear hq hdw hct hct2 k0 k1
  go_wp2_with fail
  refine HQ.out.mono ?_
  rintro e w2 ⟨rfl, k, rfl⟩
  have hq := atS_any S o (.slice da D.length dc) D top b1 s0 ts os nx x (wz.drewN k) (HC1.out.drewN k).cells (HDW.out.drewN k) HDB.out hDs HB.out HS.out (fun w' hm => HT.out w' ((HC1.out.drewN k).mod.trans hm))
  have HQ2 := Lib.hid hq
  clear hq HQ
  go_wp2_with fail
  refine HQ2.out.mono ?_
  rintro e w3 ⟨rfl, h3⟩
  have H3 := Lib.hid h3
  clear h3
  go_wp2_with fail
  go_ret
  exact ⟨rfl, (HC1.out.drewN k).trans H3.out⟩
theorem at_multi (S o : Nat) (dv : Value) (D : List Nat) (top b1 s0 n ts os : Nat) (f : Bool) (w : World) (hz : Cs w S o zs) (hD : Reads w dv D.length 1 (D.map bN)) (hDs : D.length ≤ 4294967296) (h : MB D top b1 s0 n ts os f) (h16 : 16 ≤ top) (hS : ∀ a c, dv = .slice (some a) D.length c → a.block ≠ S) :
    Calls Tryd.prog 60 #[.pointer (some ⟨S, o, none⟩), dv, .int .i64 (top : Int)] w fun e w' => e = .returned .nilIface ∧ CsM w w' S o (Desc.cells dv (.multi top s0 s0 n ts os f)) := by
  have htl : top < D.length := (List.getElem?_eq_some_iff.1 h.topv).1
  have HB := Lib.hid h
  have HD := Lib.hid hD
  have HS := Lib.hid hS
  have HC0 := Lib.hid (show CsM w w S o zs from ⟨hz, Mod.refl _ _⟩)
  obtain ⟨k0, f0⟩ := HC0.out.at 0 _ rfl
  obtain ⟨k1, f1⟩ := HC0.out.at 1 _ rfl
  obtain ⟨k2, f2⟩ := HC0.out.at 2 _ rfl
  simp only [iI, Nat.add_zero] at k0 f0 k1 f1 k2 f2
  have t0 : ((top : Int) == 0) = false := beq_eq_false_iff_ne.2 (by omega)
  have t1 : ((top : Int) == 1) = false := beq_eq_false_iff_ne.2 (by omega)
  have t2 : decide ((D.length : Int) < (top : Int)) = false := by simp; omega
  have t3 : decide (D.length < top) = false := by simp; omega
  have t4 : decide ((top : Int) < 16) = false := by simp; omega
  have t5 : decide (top < 16) = false := by simp; omega
  obtain ⟨da, dc, rfl⟩ := hD.form
  clear hz hD hS h
  go_enter Tryd.func60, Tryd.ntmps60
  go_upto_region 9 with (fail)
  go_cut [] (fun wx => Hid (CsM w wx S o (cS (.slice da D.length dc) top top 0 0 false 0 0 0 0)))
  case first =>
    go_wp2_with fail
    go_meet
    have e := ((HC0.out.set 0 rfl (.slice da D.length dc) rfl).set 1 rfl (.int .i64 (top : Int)) rfl).set 2 rfl (.int .i64 (top : Int)) rfl
    rw [Nat.add_zero] at e
    exact Lib.hid e
  rename World => wz
  have HC1 := hcut
  clear hcut HC0 k0 f0 k1 f1 k2 f2
  obtain ⟨k0, f0⟩ := HC1.out.at 0 _ rfl
  obtain ⟨k1, f1⟩ := HC1.out.at 1 _ rfl
  simp only [iI, Nat.add_zero] at k0 k1
  clear f0 f1
  have hdw : Reads wz (.slice da D.length dc) D.length 1 (D.map bN) := HD.out.mod HC1.out.mod (fun g hg e => by
    cases da with
    | none => simp [Value.ownBlock] at hg
    | some a => simp [Value.ownBlock] at hg; exact HS.out a dc rfl (by rw [hg]; exact e))
  have HDW := Lib.hid hdw
  have hct2 : (if n ≤ 63 then n else 0) + (if f then 64 else 0) < 128 := by cases f <;> simp <;> split <;> omega
  have hq := isEnc_raw S o _ D _ top false wz k0 k1 HDW.out hDs HB.out.topv (by omega) (by simp; omega)
  have HQ := Lib.hid hq
  clear hq hdw hct2 k0 k1
  go_wp2_with fail
  refine HQ.out.mono ?_
  rintro e w2 ⟨rfl, k, rfl⟩
  have hq := atM_any S o (.slice da D.length dc) D top b1 s0 n ts os f (wz.drewN k) (by rw [cM_cS]; exact (HC1.out.drewN k).cells) (HDW.out.drewN k) hDs HB.out HS.out
  have HQ2 := Lib.hid hq
  clear hq HQ
  go_wp2_with fail
  refine HQ2.out.mono ?_
  rintro e w3 ⟨rfl, h3⟩
  have H3 := Lib.hid h3
  clear h3
  go_wp2_with fail
  go_ret
  exact ⟨rfl, (HC1.out.drewN k).trans H3.out⟩
/-- What stateAt wants of the bytes. -/
inductive DecOk (D : List Nat) (top : Nat) : Desc → Prop
  | single (b1 s0 ts os : Nat) (nx : Bool) (x : NA) (h : SB D top s0 b1 nx ts os x) : DecOk D top (dS top s0 b1 nx ts os x)
  | multi (b1 s0 n ts os : Nat) (f : Bool) (h : MB D top b1 s0 n ts os f) : DecOk D top (.multi top s0 s0 n ts os f)
theorem at_any (S o : Nat) (dv : Value) (D : List Nat) (top : Nat) (d : Desc) (w : World) (hz : Cs w S o zs) (hD : Reads w dv D.length 1 (D.map bN)) (hDb : ∀ y ∈ D, y < 256) (hDs : D.length ≤ 4294967296) (h : DecOk D top d) (h16 : 16 ≤ top) (hS : ∀ a c, dv = .slice (some a) D.length c → a.block ≠ S)
    (hT : ∀ w', Mod (fun k => k = S) w w' → TabAt w' 3 T1) :
    Calls Tryd.prog 60 #[.pointer (some ⟨S, o, none⟩), dv, .int .i64 (top : Int)] w fun e w' => e = .returned .nilIface ∧ CsM w w' S o (d.cells dv) := by
  cases h with
  | single b1 s0 ts os nx x h => exact at_single S o dv D top b1 s0 ts os nx x w hz hD hDb hDs h h16 hS hT
  | multi b1 s0 n ts os f h => exact at_multi S o dv D top b1 s0 n ts os f w hz hD hDs h h16 hS
theorem keepC {w w' : World} {a : Addr} {v : Value} (hb : Below w.heap.size w w') (h : w.cell? a = some v) : w'.cell? a = some v := (Mod.of_below (F := fun _ => False) hb).cell h (fun h => h)
theorem zs_new (w : World) : Cs (w.alloc (.cells zs.toArray 142)) w.heap.size 0 zs := by
  intro j u hj
  have hb : (w.alloc (.cells zs.toArray 142)).heap[w.heap.size]? = some (.cells zs.toArray 142 (0, 0)) := heap_alloc_new _ _
  rw [Nat.zero_add]
  exact ⟨block_cell hb (by rw [List.getElem?_toArray]; exact hj), block_free hb⟩
theorem stateAt_nil (dp : Nat) (dv : Value) (D : List Nat) (top : Nat) (d : Desc) (w : World) (hd : w.cell? ⟨dp, 0, none⟩ = some dv) (hD : Reads w dv D.length 1 (D.map bN)) (hDb : ∀ y ∈ D, y < 256) (hDs : D.length ≤ 4294967296) (hD1 : 0 < D.length) (h : DecOk D top d) (h16 : 16 ≤ top)
    (hT : TabAt w 3 T1) :
    Calls Tryd.prog 46 #[.pointer (some ⟨dp, 0, none⟩), .int .i64 (top : Int), .nilIface] w fun e w' => e = .returned (.tuple #[.iface 139 (.pointer (some ⟨w.heap.size, 0, none⟩)), .nilIface]) ∧ Cs w' w.heap.size 0 (d.cells dv) ∧ Below w.heap.size w w' := by
  have hal : Below w.heap.size w (w.alloc (.cells zs.toArray 142)) := (Below.refl _ _).alloc (Nat.le_refl _) _
  have hq := at_any w.heap.size 0 dv D top d (w.alloc (.cells zs.toArray 142)) (zs_new w) (hD.below hal) hDb hDs h h16 (fun a c e => by
    obtain ⟨b, off, _, _, e2, _, hc⟩ := Reads.one bN hD hD1
    rw [e] at e2
    cases e2
    have := World.block_lt_of_cell? w _ hc
    simp only at this ⊢
    omega) (fun w' hm => hT.same (by rw [T1_len]; omega) (hal.trans (hm.toBelow (by simp) (fun k _ hk => by omega))))
  have HQ := Lib.hid hq
  have hdd := fun o => keepC ((Below.refl w.heap.size w).alloc (Nat.le_refl _) o) hd
  clear hq hD hDb h hT hal hd
  have hta : ∀ W : World, (Instr.typeAssert .nilIface 61 139 true).run Tryd.prog W = .ok (.tuple #[.pointer none, .bool false]) W := fun W => by kernel_rfl
  go_enter Tryd.func46, Tryd.ntmps46
  go_wp2_with fail
  refine HQ.out.mono ?_
  rintro e w3 ⟨rfl, h3⟩
  have H3 := Lib.hid h3
  clear h3 HQ
  go_wp2_with fail
  go_ret2
  refine ⟨rfl, H3.out.cells, ?_⟩
  exact ((Below.refl w.heap.size w).alloc (Nat.le_refl _) _).trans (H3.out.mod.toBelow (by simp) (fun k _ hk => by omega))
theorem zzStateAt_any (dp : Nat) (dv : Value) (D : List Nat) (top : Nat) (d : Desc) (w : World) (hd : w.cell? ⟨dp, 0, none⟩ = some dv) (hD : Reads w dv D.length 1 (D.map bN)) (hDb : ∀ y ∈ D, y < 256) (hDs : D.length ≤ 4294967296) (hD1 : 0 < D.length) (h : DecOk D top d) (h16 : 16 ≤ top)
    (hT : TabAt w 3 T1) :
    Calls Tryd.prog 24 #[.pointer (some ⟨dp, 0, none⟩), .int .i64 (top : Int)] w fun e w' => e = .returned (.tuple #[.iface 139 (.pointer (some ⟨w.heap.size, 0, none⟩)), .nilIface]) ∧ Cs w' w.heap.size 0 (d.cells dv) ∧ Below w.heap.size w w' := by
  have HQ := Lib.hid (stateAt_nil dp dv D top d w hd hD hDb hDs hD1 h h16 hT)
  clear hd hD hDb h hT
  go_enter Tryd.func24, Tryd.ntmps24
  go_wp2_with fail
  refine HQ.out.mono ?_
  rintro e w3 ⟨rfl, h3⟩
  have H3 := Lib.hid h3
  clear h3 HQ
  go_wp2_with fail
  go_ret2
  exact ⟨rfl, H3.out⟩
theorem newDec_any (ao : Option Addr) (n c : Nat) (w : World) :
    Calls Tryd.prog 45 #[.slice ao n c] w fun e w' => e = .returned (.pointer (some ⟨w.heap.size, 0, none⟩)) ∧ w' = w.alloc (.cells #[.slice ao n c] 138) := by
  go_enter Tryd.func45, Tryd.ntmps45
  go_wp2_with fail
  go_ret
  exact ⟨rfl, rfl⟩
theorem zzDecoder_any (ao : Option Addr) (n c : Nat) (w : World) :
    Calls Tryd.prog 23 #[.slice ao n c] w fun e w' => e = .returned (.pointer (some ⟨w.heap.size, 0, none⟩)) ∧ w' = w.alloc (.cells #[.slice ao n c] 138) := by
  go_enter Tryd.func23, Tryd.ntmps23
  go_wp2_with fail
  refine (newDec_any ao n c w).mono ?_
  rintro e w3 ⟨rfl, rfl⟩
  go_wp2_with fail
  go_ret
  exact ⟨rfl, rfl⟩
end Go.Proofs.YtkbonmjbfpdchaaDoor.Dec
