/- impl.table: the methods of an automaton as data. -/
import Derived.Test.YtanimdajohpggaaTold2
namespace Go.Proofs.Ytanimdajohpggaa.Table
open Go.ChangeShapes Go.WideShapes Go.ChangeAt Go.RowKit Go.Trav
set_option linter.unusedVariables false
set_option maxRecDepth 100000
theorem iat_any (v : Value) (n i : Nat) (bs : List Bool) (b : Bool) (w : World) (h : Reads w v n 1 (bs.map Value.bool)) (hi : bs[i]? = some b) (hn : n ≤ 1000) :
    Calls Try.prog 114 #[v, .int .i64 (i : Int)] w fun e w' => e = .returned (.bool b) ∧ w = w' := by
  have hl : bs.length = n := by have := h.len; simpa using this
  have hin : i < n := by have := (List.getElem?_eq_some_iff.1 hi).1; omega
  obtain ⟨bo, off, _, b', hx, eb, cb⟩ := Reads.one Value.bool h hin
  subst hx
  obtain rfl := Option.some.inj (hi.symm.trans eb)
  have hI1 : (0 : Int) ≤ (i : Int) := by omega
  have hI2 : (i : Int) < (n : Int) := by omega
  clear h hi hl eb
  go_enter Try.func114, Try.ntmps114
  go_wp2_with fail
  go_ret
  exact ⟨rfl, rfl⟩
theorem start_any {st : Int} {co no mo ao bo : Option Addr} {cl cc nl nc ml mc al ac bl bc : Nat} (w : World) (h1 : 0 ≤ st) (h2 : st ≤ 1000) :
    Calls Try.prog 112 #[RVal st (.slice co cl cc) (.slice no nl nc) (.slice mo ml mc) (.slice ao al ac) (.slice bo bl bc)] w fun e w' => e = .returned (.int .i64 (st + 2)) ∧ Below w.heap.size w w' := by
  unfold RVal
  have hw : IntKind.i64.wrap (st + 2) = st + 2 := IntWalk.i64_in _ (by omega)
  go_enter Try.func112, Try.ntmps112
  go_wp2_with fail
  go_ret
  exact ⟨rfl, (Below.refl _ _).alloc (Nat.le_refl _) _⟩
theorem can_any {st : Int} {co no mo ao bo : Option Addr} {cl cc nl nc ml mc al ac bl bc s : Nat} {bs : List Bool} {b : Bool} (w : World) (h : Reads w (.slice ao al ac) al 1 (bs.map Value.bool)) (hs : bs[s]? = some b) (hn : al ≤ 1000) :
    Calls Try.prog 110 #[RVal st (.slice co cl cc) (.slice no nl nc) (.slice mo ml mc) (.slice ao al ac) (.slice bo bl bc), .int .i64 ((s : Int) + 2)] w fun e w' => e = .returned (.bool b) ∧ Below w.heap.size w w' := by
  unfold RVal
  have hl : bs.length = al := by have := h.len; simpa using this
  have hsl := (List.getElem?_eq_some_iff.1 hs).1
  have hc := fun (w' : World) (hb : Below w.heap.size w w') => iat_any _ al s bs b w' (h.below hb) hs hn
  have hw : IntKind.i64.wrap ((s : Int) + 2 - 2) = (s : Int) := (congrArg IntKind.i64.wrap (by omega)).trans (IntWalk.i64_in _ (by omega))
  have hw2 : IntKind.i64.wrap (s : Int) = (s : Int) := IntWalk.i64_in _ (by omega)
  have HC := Lib.hid hc
  clear h hs hc hl
  go_enter Try.func110, Try.ntmps110
  go_wp2_with fail
  refine (HC.out _ ((Below.refl _ _).alloc (Nat.le_refl _) _)).mono ?_
  rintro e w' ⟨rfl, rfl⟩
  go_wp2_with fail
  go_ret
  exact ⟨rfl, (Below.refl _ _).alloc (Nat.le_refl _) _⟩
theorem is_any {st : Int} {co no mo ao bo : Option Addr} {cl cc nl nc ml mc al ac bl bc s : Nat} {bs : List Bool} {b : Bool} (w : World) (h : Reads w (.slice mo ml mc) ml 1 (bs.map Value.bool)) (hs : bs[s]? = some b) (hn : ml ≤ 1000) :
    Calls Try.prog 111 #[RVal st (.slice co cl cc) (.slice no nl nc) (.slice mo ml mc) (.slice ao al ac) (.slice bo bl bc), .int .i64 ((s : Int) + 2)] w fun e w' => e = .returned (.bool b) ∧ Below w.heap.size w w' := by
  unfold RVal
  have hl : bs.length = ml := by have := h.len; simpa using this
  have hsl := (List.getElem?_eq_some_iff.1 hs).1
  have hc := fun (w' : World) (hb : Below w.heap.size w w') => iat_any _ ml s bs b w' (h.below hb) hs hn
  have hw : IntKind.i64.wrap ((s : Int) + 2 - 2) = (s : Int) := (congrArg IntKind.i64.wrap (by omega)).trans (IntWalk.i64_in _ (by omega))
  have hw2 : IntKind.i64.wrap (s : Int) = (s : Int) := IntWalk.i64_in _ (by omega)
  have HC := Lib.hid hc
  clear h hs hc hl
  go_enter Try.func111, Try.ntmps111
  go_wp2_with fail
  refine (HC.out _ ((Below.refl _ _).alloc (Nat.le_refl _) _)).mono ?_
  rintro e w' ⟨rfl, rfl⟩
  go_wp2_with fail
  go_ret
  exact ⟨rfl, (Below.refl _ _).alloc (Nat.le_refl _) _⟩
theorem accept_any {st : Int} {cv nv mv : Value} {ao bo : Option Addr} {al ac bl bc n : Nat} {cls : List Nat} {nxs : List (List Nat)} {rvs : List Value} {mts : List Bool} {s b c u : Nat} {r : List Nat} (w : World) (h : TabR w cv nv mv n 256 cls nxs rvs mts)
    (hb : cls[b]? = some c) (hr : nxs[s]? = some r) (hu : r[c]? = some u) :
    Calls Try.prog 109 #[RVal st cv nv mv (.slice ao al ac) (.slice bo bl bc), .int .i64 ((s : Int) + 2), .int .u8 (b : Int)] w fun e w' => e = .returned (.int .i64 ((u : Int) + 2)) ∧ Below w.heap.size w w' := by
  have hn := h.small
  have hnl := h.nl
  have hsl : s < n := by have := (List.getElem?_eq_some_iff.1 hr).1; omega
  have hcl : cls.length = 256 := by have := h.cls.len; simpa using this
  have hbl : b < 256 := by have := (List.getElem?_eq_some_iff.1 hb).1; omega
  have hun := h.lt s r hr u (List.mem_of_getElem? hu)
  obtain ⟨mo, mc, rfl⟩ := h.mts.form
  obtain ⟨b1, o1, _, c', hx, e1, c1⟩ := Reads.one iN h.cls hbl
  subst hx
  obtain rfl := Option.some.inj (hb.symm.trans e1)
  obtain ⟨b2, o2, _, rv, hx, e2, c2⟩ := Reads.one id (l := rvs) (by simpa using h.nxt) hsl
  subst hx
  have hrr := h.rows s rv r e2 hr
  have hrl : r.length = 5 := by have := hrr.len; simpa using this
  have hc5 : c < 5 := by have := (List.getElem?_eq_some_iff.1 hu).1; omega
  obtain ⟨b3, o3, _, u', hx, e3, c3⟩ := Reads.one iN hrr hc5
  subst hx
  obtain rfl := Option.some.inj (hu.symm.trans e3)
  simp only [id] at c2
  unfold iN at c1 c3
  have a1 := fun o => keep_cell ((Below.refl w.heap.size w).alloc (Nat.le_refl _) o) c1
  have a2 := fun o => keep_cell ((Below.refl w.heap.size w).alloc (Nat.le_refl _) o) c2
  have a3 := fun o => keep_cell ((Below.refl w.heap.size w).alloc (Nat.le_refl _) o) c3
  unfold RVal
  have hw : IntKind.i64.wrap ((s : Int) + 2 - 2) = (s : Int) := (congrArg IntKind.i64.wrap (by omega)).trans (IntWalk.i64_in _ (by omega))
  have hw2 : IntKind.i64.wrap (s : Int) = (s : Int) := IntWalk.i64_in _ (by omega)
  have hw3 : IntKind.i64.wrap ((u : Int) + 2) = (u : Int) + 2 := IntWalk.i64_in _ (by omega)
  have hw4 : IntKind.i64.wrap (b : Int) = (b : Int) := IntWalk.i64_in _ (by omega)
  have i1 : (0 : Int) ≤ (s : Int) := by omega
  have i2 : (s : Int) < (n : Int) := by omega
  have i3 : (0 : Int) ≤ (c : Int) := by omega
  have i4 : (c : Int) < 5 := by omega
  have i5 : (0 : Int) ≤ (b : Int) := by omega
  have i6 : (b : Int) < 256 := by omega
  have t1 : decide ((s : Int) + 2 < 2) = false := by rw [decide_eq_false_iff_not]; omega
  have t2 : decide ((n : Int) ≤ (s : Int)) = false := by rw [decide_eq_false_iff_not]; omega
  have t3 : decide (n ≤ s) = false := by rw [decide_eq_false_iff_not]; omega
  have t4 : decide ((c : Int) < 0) = false := by rw [decide_eq_false_iff_not]; omega
  have t5 : decide ((5 : Int) ≤ (c : Int)) = false := by rw [decide_eq_false_iff_not]; omega
  have t6 : decide (5 ≤ c) = false := by rw [decide_eq_false_iff_not]; omega
  have t7 : decide ((b : Int) < 256) = true := by rw [decide_eq_true_eq]; omega
  have t8 : decide (b < 256) = true := by rw [decide_eq_true_eq]; omega
  clear h hb hr hu hnl hcl hrl hrr e1 e2 e3
  go_enter Try.func109, Try.ntmps109
  go_wp2_with fail
  go_ret
  exact ⟨rfl, (Below.refl _ _).alloc (Nat.le_refl _) _⟩
end Go.Proofs.Ytanimdajohpggaa.Table
