/- impl.TableContains: an automaton as data, as a whole. -/
import Derived.Test.YtanimdajohpggaaAcc2
import Derived.Laws.IdiomStrings
namespace Go.Proofs.Ytanimdajohpggaa.Table
open Go.ChangeShapes Go.WideShapes Go.ChangeAt Go.RowKit Go.Trav
set_option linter.unusedVariables false
set_option maxRecDepth 100000
theorem will_any {st : Int} {co no mo ao bo : Option Addr} {cl cc nl nc ml mc al ac bl bc s : Nat} {bs : List Bool} {b : Bool} (w : World) (h : Reads w (.slice bo bl bc) bl 1 (bs.map Value.bool)) (hs : bs[s]? = some b) (hn : bl ≤ 1000) :
    Calls Try.prog 113 #[RVal st (.slice co cl cc) (.slice no nl nc) (.slice mo ml mc) (.slice ao al ac) (.slice bo bl bc), .int .i64 ((s : Int) + 2)] w fun e w' => e = .returned (.bool b) ∧ Below w.heap.size w w' := by
  unfold RVal
  have hl : bs.length = bl := by have := h.len; simpa using this
  have hsl := (List.getElem?_eq_some_iff.1 hs).1
  have hc := fun (w' : World) (hb : Below w.heap.size w w') => iat_any _ bl s bs b w' (h.below hb) hs hn
  have hw : IntKind.i64.wrap ((s : Int) + 2 - 2) = (s : Int) := (congrArg IntKind.i64.wrap (by omega)).trans (IntWalk.i64_in _ (by omega))
  have hw2 : IntKind.i64.wrap (s : Int) = (s : Int) := IntWalk.i64_in _ (by omega)
  have HC := Lib.hid hc
  clear h hs hc hl
  go_enter Try.func113, Try.ntmps113
  go_wp2_with fail
  refine (HC.out _ ((Below.refl _ _).alloc (Nat.le_refl _) _)).mono ?_
  rintro e w' ⟨rfl, rfl⟩
  go_wp2_with fail
  go_ret
  exact ⟨rfl, (Below.refl _ _).alloc (Nat.le_refl _) _⟩
/-- The table as an automaton. -/
def autOf {cv nv mv av bv : Value} {n s0 : Nat} {cls : List Nat} {nxs : List (List Nat)} {rvs : List Value} {mts cans als : List Bool} (w0 : World) (h : TabR w0 cv nv mv n 256 cls nxs rvs mts) (hf : Fit n cls nxs) (hs0 : s0 < n) (hc : Reads w0 av n 1 (cans.map Value.bool)) (ha : Reads w0 bv n 1 (als.map Value.bool)) :
    Path.Aut 76 (RVal (s0 : Int) cv nv mv av bv) (RVal (s0 : Int) cv nv mv av bv) (fun s => ∃ k : Nat, k < n ∧ s = (k : Int) + 2) ((s0 : Int) + 2) (fun s => mts[(s - 2).toNat]?.getD false) (fun s => cans[(s - 2).toNat]?.getD false) (fun s => als[(s - 2).toNat]?.getD false) (fun s b => ((nx cls nxs (s - 2).toNat b.toNat : Nat) : Int) + 2) w0 where
  fS := 112
  fI := 111
  fC := 110
  fW := 113
  fA := 109
  mS := fun w => by kernel_rfl
  mI := fun w => by kernel_rfl
  mC := fun w => by kernel_rfl
  mW := fun w => by kernel_rfl
  mA := fun w => by kernel_rfl
  nA := fun w => by kernel_rfl
  eS := Try.call112
  eI := Try.call111
  eC := Try.call110
  eW := Try.call113
  eA := Try.call109
  cS := fun w hb => by
    obtain ⟨co, cc, rfl⟩ := h.cls.form
    obtain ⟨no, nc, rfl⟩ := h.nxt.form
    obtain ⟨mo, mc, rfl⟩ := h.mts.form
    obtain ⟨ao, ac, rfl⟩ := hc.form
    obtain ⟨bo, bc, rfl⟩ := ha.form
    have := h.small
    exact start_any w (by omega) (by omega)
  cI := fun w s hb hk => by
    obtain ⟨co, cc, rfl⟩ := h.cls.form
    obtain ⟨no, nc, rfl⟩ := h.nxt.form
    obtain ⟨mo, mc, rfl⟩ := h.mts.form
    obtain ⟨ao, ac, rfl⟩ := hc.form
    obtain ⟨bo, bc, rfl⟩ := ha.form
    obtain ⟨k, hk, rfl⟩ := hk
    have hsm := h.small
    have hl : mts.length = n := by have := h.mts.len; simpa using this
    have e : ((k : Int) + 2 - 2).toNat = k := by omega
    have e2 : mts[k]? = some mts[k] := List.getElem?_eq_getElem (by omega)
    have := is_any (st := (s0 : Int)) (co := co) (cl := 256) (cc := cc) (no := no) (nl := n) (nc := nc) (ao := ao) (al := n) (ac := ac) (bo := bo) (bl := n) (bc := bc) w (h.mts.below hb) e2 (by omega)
    rw [e, e2]
    exact this
  cC := fun w s hb hk => by
    obtain ⟨co, cc, rfl⟩ := h.cls.form
    obtain ⟨no, nc, rfl⟩ := h.nxt.form
    obtain ⟨mo, mc, rfl⟩ := h.mts.form
    obtain ⟨ao, ac, rfl⟩ := hc.form
    obtain ⟨bo, bc, rfl⟩ := ha.form
    obtain ⟨k, hk, rfl⟩ := hk
    have hsm := h.small
    have hl : cans.length = n := by have := hc.len; simpa using this
    have e : ((k : Int) + 2 - 2).toNat = k := by omega
    have e2 : cans[k]? = some cans[k] := List.getElem?_eq_getElem (by omega)
    have := can_any (st := (s0 : Int)) (co := co) (cl := 256) (cc := cc) (no := no) (nl := n) (nc := nc) (mo := mo) (ml := n) (mc := mc) (bo := bo) (bl := n) (bc := bc) w (hc.below hb) e2 (by omega)
    rw [e, e2]
    exact this
  cW := fun w s hb hk => by
    obtain ⟨co, cc, rfl⟩ := h.cls.form
    obtain ⟨no, nc, rfl⟩ := h.nxt.form
    obtain ⟨mo, mc, rfl⟩ := h.mts.form
    obtain ⟨ao, ac, rfl⟩ := hc.form
    obtain ⟨bo, bc, rfl⟩ := ha.form
    obtain ⟨k, hk, rfl⟩ := hk
    have hsm := h.small
    have hl : als.length = n := by have := ha.len; simpa using this
    have e : ((k : Int) + 2 - 2).toNat = k := by omega
    have e2 : als[k]? = some als[k] := List.getElem?_eq_getElem (by omega)
    have := will_any (st := (s0 : Int)) (co := co) (cl := 256) (cc := cc) (no := no) (nl := n) (nc := nc) (mo := mo) (ml := n) (mc := mc) (ao := ao) (al := n) (ac := ac) w (ha.below hb) e2 (by omega)
    rw [e, e2]
    exact this
  cA := fun w s b hb hk h0 h9 => by
    obtain ⟨ao, ac, rfl⟩ := hc.form
    obtain ⟨bo, bc, rfl⟩ := ha.form
    obtain ⟨k, hk, rfl⟩ := hk
    obtain ⟨b, rfl⟩ := Int.eq_ofNat_of_zero_le h0
    have e : ((k : Int) + 2 - 2).toNat = k := by omega
    obtain ⟨c, r, u, e1, e2, e3, e4, _, _⟩ := hf.step hk (show b < 256 by omega)
    have := accept_any (st := (s0 : Int)) (ao := ao) (al := n) (ac := ac) (bo := bo) (bl := n) (bc := bc) w (h.below hb) e1 e2 e3
    rw [e, Int.toNat_natCast, e4]
    exact this
  ok0 := ⟨s0, hs0, rfl⟩
  okA := fun s b hk h0 h9 => by
    obtain ⟨k, hk, rfl⟩ := hk
    have e : ((k : Int) + 2 - 2).toNat = k := by omega
    obtain ⟨c, r, u, e1, e2, e3, e4, hu, _⟩ := hf.step hk (show b.toNat < 256 by omega)
    exact ⟨u, hu, by rw [e, e4]⟩
end Go.Proofs.Ytanimdajohpggaa.Table
