/- FnCommonMany: the walk and the plain law. -/
import Derived.Test.YtjnfhcagfgbmnaaDoorRows
import Derived.Test.YtjnfhcagfgbmnaaDoorLib
import Derived.Test.YtjnfhcagfgbmnaaDoorFLib
import Derived.Deep.QuietTactic
import Derived.BigQuiet
import Derived.WalkLawsBesides
import Derived.WalkSpells
import Derived.Lib.QuietBelow
import Derived.LaidMore
import Derived.ChangeBears2
import Derived.Deep.Slices
namespace Go.Proofs.YtjnfhcagfgbmnaaDoor.Common
open Go.ChangeShapes Go.WideShapes Go.ChangeAt Go.RowKit Go.Trav
set_option linter.unusedVariables false
set_option maxRecDepth 100000

def intsOf : DataW Unit → List Int
  | .slice l _ => l.map fun | .lit (.int _ n) => n | _ => 0
  | _ => []
def T0 : List Int := intsOf Rows.laid_pub_traverser_pub_vellum_commonInputs
def T1 : List Int := intsOf Rows.laid_pub_traverser_pub_vellum_commonInputsInv
/-- A listed slice of bytes. -/
def TabAt (w : World) (g : Nat) (T : List Int) : Prop := ∃ a cap, w.cell? ⟨g, 0, none⟩ = some (.slice (some a) T.length cap) ∧ ∀ i, i < T.length → w.cell? (a.add i) = some (.int .u8 (T[i]?.getD 0))
theorem tab_of {w : World} {g : Nat} {T : List Int} {f : Nat} {l : List (DataW Unit)} {cs : Array Value} {p : List MemPlace} {name : String} {enc : TypeId × Value → Unit} {spare : Nat → Bool} {held : Bool} (hT : T ≠ []) (hl : l = T.map fun n => .lit (.int .u8 n))
    (hg : Tryd.prog.globalNamed name = some g) (hv : w.var? Tryd.prog name = some cs) (hd : DataW.trod enc Tryd.prog w 0 spare held f 48 cs.toList = some (.slice l [], p)) : TabAt w g T := by
  rcases Deep.open_slice1 Tryd.underlying48 (by kernel_rfl) hd with ⟨_, hx⟩ | ⟨a, len, cap, m, n, V, D, Pl, hc, _, hle, _, hm, hx, hel⟩
  · simp at hx
  simp only [Prod.mk.injEq, DataW.slice.injEq] at hx
  obtain ⟨⟨h1, h2⟩, _⟩ := hx
  have hlen : len = T.length := by
    have := congrArg List.length h1
    rw [hl] at this
    simpa using this.symm
  subst hlen
  have hmm : T.length ≤ m := by rw [hm]; split <;> omega
  refine ⟨a, cap, ?_, fun i hi => ?_⟩
  · have := World.var?_cell hg hv 0
    rw [Array.eq_one_of_toList hc] at this
    simpa using this
  · obtain ⟨e1, e2⟩ := hel i (by omega)
    obtain ⟨z, e3, e4, _⟩ := DataW.trod_int Tryd.underlying5 e2
    simp only [List.cons.injEq, and_true] at e3
    simp only [Prod.mk.injEq] at e4
    have e5 : (List.range T.length |>.map D)[i]? = some (D i) := by simp [hi]
    rw [← h1, hl] at e5
    simp only [List.getElem?_map, List.getElem?_eq_getElem hi, Option.map_some, Option.some.injEq] at e5
    rw [e4.1] at e5
    simp only [DataW.lit.injEq, Lit.int.injEq, true_and] at e5
    rw [e1, e3, List.getElem?_eq_getElem hi, Option.getD_some, e5]
theorem of_laid {W : World} (h : laidMetH Tryd.prog Rows.fnCommonManyRow.laid W) : TabAt W 0 T0 ∧ TabAt W 1 T1 := by
  rw [MakeChecks.laidMetH_plain _ _ _ (by kernel_rfl)] at h
  obtain ⟨ps, ⟨g0, t0, cs0, f0, p0, q0, hg0, ht0, hv0, hd0, ⟨g1, t1, cs1, f1, p1, q1, hg1, ht1, hv1, hd1, _, _⟩, _⟩, _, _⟩ := h
  have G0 : Tryd.prog.globalNamed "pub-traverser/pub/vellum.commonInputs" = some 0 := by kernel_rfl
  have G1 : Tryd.prog.globalNamed "pub-traverser/pub/vellum.commonInputsInv" = some 1 := by kernel_rfl
  have R0 : (Tryd.prog.globals[0]?).map (·.type) = some 48 := by kernel_rfl
  have R1 : (Tryd.prog.globals[1]?).map (·.type) = some 48 := by kernel_rfl
  obtain rfl := Option.some.inj (G0.symm.trans hg0)
  obtain rfl := Option.some.inj (G1.symm.trans hg1)
  obtain rfl := Option.some.inj (R0.symm.trans ht0)
  obtain rfl := Option.some.inj (R1.symm.trans ht1)
  exact ⟨tab_of (T := T0) (by unfold T0; decide +kernel) (by kernel_rfl) G0 hv0 hd0, tab_of (T := T1) (by decide +kernel) (by kernel_rfl) G1 hv1 hd1⟩
def code (x : Int) : Int := if 63 < (T0[x.toNat]?.getD 0 + 1) % 256 then 0 else (T0[x.toNat]?.getD 0 + 1) % 256
theorem T0_len : T0.length = 256 := by decide +kernel
theorem T1_len : T1.length = 256 := by decide +kernel
theorem T0_all : ((List.range 256).all fun x => decide (0 ≤ T0[x]?.getD 0 ∧ T0[x]?.getD 0 ≤ 255)) = true := by decide +kernel
theorem T0_bound (x : Nat) (hx : x < 256) : 0 ≤ T0[x]?.getD 0 ∧ T0[x]?.getD 0 ≤ 255 := by
  have := List.all_eq_true.1 T0_all x (List.mem_range.2 hx)
  simpa using this
theorem code_bound (x : Nat) (hx : x < 256) : 0 ≤ code x ∧ code x ≤ 63 := by
  unfold code
  split <;> omega
theorem enc_any (x : Nat) (w : World) (h : TabAt w 0 T0) (hx : x < 256) :
    Calls Tryd.prog 23 #[.int .u8 (x : Int)] w fun e w' => e = .returned (.int .u8 (code x)) ∧ w = w' := by
  obtain ⟨a, cap, h0, h1⟩ := h
  rw [T0_len] at h0 h1
  have c0 := h1 x hx
  have hb := T0_bound x hx
  have hcode : code x = if 63 < ((T0[x]?.getD 0) + 1) % 256 then 0 else ((T0[x]?.getD 0) + 1) % 256 := by unfold code; simp
  generalize T0[x]?.getD 0 = z at c0 hb hcode
  have HC := Lib.hid hcode
  clear hcode h1
  have ht : (z + 1).tmod 256 = (z + 1) % 256 := Int.tmod_eq_emod_of_nonneg (by omega)
  by_cases hc : 63 < (z + 1) % 256
  · go_enter Tryd.func23, Tryd.ntmps23
    go_wp2
    go_ret
    exact ⟨by simp [HC.out, hc], rfl⟩
  · go_enter Tryd.func23, Tryd.ntmps23
    go_wp2
    go_ret
    refine ⟨?_, rfl⟩
    rw [HC.out, if_neg (by omega)]
    simp
theorem dec_any (x : Int) (w : World) (h : TabAt w 1 T1) (h0 : 0 ≤ x) (hx : x ≤ 255) :
    Calls Tryd.prog 24 #[.int .u8 x] w fun e w' => (∃ y, e = .returned (.int .u8 y)) ∧ w = w' := by
  obtain ⟨a, cap, h2, h1⟩ := h
  rw [T1_len] at h2 h1
  by_cases hz : x = 0
  · subst hz
    have c0 : w.cell? { block := a.block, off := a.off + 255 } = some _ := h1 255 (by omega)
    clear h1
    go_enter Tryd.func24, Tryd.ntmps24
    go_wp2
    go_ret
    exact ⟨⟨_, rfl⟩, rfl⟩
  · have c0 := h1 (x - 1).toNat (by omega)
    clear h1
    obtain ⟨k, hk⟩ : ∃ k : Nat, x = (k : Int) + 1 := ⟨(x - 1).toNat, by omega⟩
    subst hk
    have e : ((k : Int) + 1 - 1).toNat = k := by omega
    rw [e] at c0
    go_enter Tryd.func24, Tryd.ntmps24
    go_wp2
    go_ret
    exact ⟨⟨_, rfl⟩, rfl⟩
theorem zzenc_any (x : Nat) (w : World) (h : TabAt w 0 T0) (hx : x < 256) :
    Calls Tryd.prog 17 #[.int .u8 (x : Int)] w fun e w' => e = .returned (.int .u8 (code x)) ∧ w = w' := by
  go_enter Tryd.func17, Tryd.ntmps17
  go_wp2_with fail
  refine (enc_any x _ h hx).mono ?_
  rintro e w' ⟨rfl, rfl⟩
  go_wp2
  go_ret
  exact ⟨rfl, rfl⟩
theorem zzdec_any (x : Int) (w : World) (h : TabAt w 1 T1) (h0 : 0 ≤ x) (hx : x ≤ 255) :
    Calls Tryd.prog 18 #[.int .u8 x] w fun e w' => (∃ y, e = .returned (.int .u8 y)) ∧ w = w' := by
  go_enter Tryd.func18, Tryd.ntmps18
  go_wp2_with fail
  refine (dec_any x _ h h0 hx).mono ?_
  rintro e w' ⟨⟨y, rfl⟩, rfl⟩
  go_wp2
  go_ret
  exact ⟨⟨_, rfl⟩, rfl⟩
theorem impl_any (x : Nat) (w : World) (h : TabAt w 0 T0) (h' : TabAt w 1 T1) (hx : x < 256) :
    Calls Tryd.prog 7 #[.int .u8 (x : Int)] w fun e w' => (∃ y, e = .returned (.tuple #[.int .u8 (code x), .int .u8 y])) ∧ w = w' := by
  have hb := code_bound x hx
  go_enter Tryd.func7, Tryd.ntmps7
  go_wp2_with fail
  refine (zzenc_any x _ h hx).mono ?_
  rintro e w' ⟨rfl, rfl⟩
  go_wp2_with fail
  refine (zzdec_any (code x) _ h' (by omega) (by omega)).mono ?_
  rintro e w' ⟨⟨y, rfl⟩, rfl⟩
  go_wp2
  go_ret2
  exact ⟨⟨_, rfl⟩, rfl⟩
def cnt : Nat → Nat
  | 0 => 0
  | k + 1 => if code k = 0 then cnt k else cnt k + 1
def top : Nat → Int
  | 0 => 0
  | k + 1 => if code k = 0 then top k else if top k < code k then code k else top k
theorem cnt_le (k : Nat) : cnt k ≤ k := by
  induction k with
  | zero => simp [cnt]
  | succ k ih => simp only [cnt]; split <;> omega
theorem top_le (k : Nat) (hk : k ≤ 256) : 0 ≤ top k ∧ top k ≤ 63 := by
  induction k with
  | zero => simp [top]
  | succ k ih =>
    have := ih (by omega)
    have := code_bound k (by omega)
    simp only [top]; split <;> omega
theorem cnt_end : cnt 256 = 63 := by decide +kernel
theorem top_end : top 256 = 63 := by decide +kernel
set_option maxHeartbeats 2000000 in
theorem law_any (x : Nat) (w : World) (h : TabAt w 0 T0) (h' : TabAt w 1 T1) (hx : x < 256) :
    Calls Tryd.prog 3 #[.int .u8 (x : Int)] w fun e w' => e = .returned (.bool true) ∧ Below w.heap.size w w' := by
  have H := Lib.hid h
  have H' := Lib.hid h'
  clear h h'
  go_enter Tryd.func3, Tryd.ntmps3
  go_wp2
  go_loop [3, 4, 5] (fun n t i => ∃ k : Nat, i = .int .i64 k ∧ k ≤ 256 ∧ n = .int .i64 (cnt k : Int) ∧ t = .int .i64 (top k)) (fun _ _ i => 256 - (intOf i).toNat)
  case atStart => exact ⟨0, rfl, by omega, rfl, rfl⟩
  case round =>
    obtain ⟨k, rfl, hk, rfl, rfl⟩ := hrel
    have hc := cnt_le k
    have ht := top_le k hk
    by_cases hlt : k < 256
    · have hb := code_bound k hlt
      by_cases hz : code k = 0
      · have hz1 : (code k != 0) = false := by simp [hz]
        go_wp2_with fail
        refine (impl_any k _ H.out H'.out hlt).mono ?_
        rintro e w' ⟨⟨y, rfl⟩, rfl⟩
        go_wp2
        go_round
        case rel => exact ⟨k + 1, by go_num, by omega, by simp [cnt, hz], by simp [top, hz]⟩
        case measure => simp [intOf]; omega
      · have hz1 : (code k != 0) = true := by simpa using hz
        go_wp2_with fail
        refine (impl_any k _ H.out H'.out hlt).mono ?_
        rintro e w' ⟨⟨y, rfl⟩, rfl⟩
        go_wp2
        go_round
        case rel => exact ⟨k + 1, by go_num, by omega, by simp [cnt, hz], by simp [top, hz]⟩
        case measure => simp [intOf]; omega
    · obtain rfl : k = 256 := by omega
      have hb := code_bound x hx
      rw [cnt_end, top_end]
      go_wp2_with fail
      refine (impl_any x _ H.out H'.out hx).mono ?_
      rintro e w' ⟨⟨y, rfl⟩, rfl⟩
      go_wp2
      go_ret
      exact ⟨by simp, Below.refl _ _⟩
end Go.Proofs.YtjnfhcagfgbmnaaDoor.Common
