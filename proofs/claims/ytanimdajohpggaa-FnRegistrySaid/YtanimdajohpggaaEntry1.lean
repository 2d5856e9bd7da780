/- registryCache.entry at one cell a row. -/
import Derived.Test.YtanimdajohpggaaEntry
namespace Go.Proofs.Ytanimdajohpggaa.Node
open Go.ChangeShapes Go.WideShapes Go.ChangeAt Go.RowKit Go.Trav Go.Sort
set_option linter.unusedVariables false
set_option maxRecDepth 100000
theorem centry1_hit (T st cap B Pb : Nat) (tab : List RC) (nd : Nat → ND) (f : Bool) (o : Int) (l : List Arc) (v : Value) (a : Int) (p : Option Addr) (w : World) (h : TableAt w T tab) (hrow : RowNodes w nd tab st 1)
    (hB : NodeAt w B v f o l) (hx : tab[st]? = some (a, p)) (hhit : hit nd f o l (a, p) = true) :
    Calls Try.prog 61 #[.slice (some ⟨T, st * 2, none⟩) 1 cap, .pointer (some ⟨B, 0, none⟩), .pointer (some ⟨Pb, 0, none⟩)] w fun e w' => e = .returned (.tuple #[.bool true, .int .i64 a, .pointer none]) ∧ Below w.heap.size w w' := by
  obtain ⟨c0, c1, _, _⟩ := h.at hx
  cases p with
  | none => simp [hit] at hhit
  | some q =>
    obtain ⟨hq, hN⟩ := hrow 0 (by omega) a q hx
    have hS : sameB (nd q.block).f f (nd q.block).o o (nd q.block).l l = true := hhit
    have HS := Lib.hid hS
    have HN := Lib.hid hN
    have HT := Lib.hid h
    have HX := Lib.hid hx
    have HB := Lib.hid hB
    rw [hq] at c1
    clear hS hN hq hhit hrow h hx hB
    go_enter Try.func61, Try.ntmps61
    go_wp2_with fail
    refine (equiv_any q.block B _ v _ f _ o _ l _ HN.out HB.out).mono ?_
    rintro e w2 ⟨rfl, hb2⟩
    rw [HS.out]
    have hT2 : TableAt w2 T tab := block_below HT.out hb2 (block_lt HT.out)
    obtain ⟨d0, d1, _, _⟩ := hT2.at HX.out
    clear hT2
    go_wp2
    go_quiet (fail)
    go_wp2
    go_ret3
    exact ⟨rfl, below_drewN hb2 _⟩
theorem centry1_miss (T st cap B Pb : Nat) (tab : List RC) (nd : Nat → ND) (f : Bool) (o : Int) (l : List Arc) (v : Value) (aL : Int) (pL : Option Addr) (hd : Option Addr) (w : World) (h : TableAt w T tab) (hrow : RowNodes w nd tab st 1)
    (hB : NodeAt w B v f o l) (hp : w.heap[Pb]? = some (.cells #[.pointer hd] 102 (0, 0))) (hx : tab[st]? = some (aL, pL))
    (hTP : T ≠ Pb) (hTB : ∀ q, pL = some q → q.block ≠ T) (hmiss : hit nd f o l (aL, pL) = false) :
    Calls Try.prog 61 #[.slice (some ⟨T, st * 2, none⟩) 1 cap, .pointer (some ⟨B, 0, none⟩), .pointer (some ⟨Pb, 0, none⟩)] w fun e w' => e = .returned (.tuple #[.bool false, .int .i64 0, .pointer (some ⟨T, st * 2, none⟩)]) ∧ TableAt w' T (tab.set st (aL, some ⟨B, 0, none⟩)) ∧ (∃ hd', w'.heap[Pb]? = some (.cells #[.pointer hd'] 102 (0, 0))) ∧ Mod (fun k => k = T ∨ k = Pb ∨ ∃ q, pL = some q ∧ k = q.block) w w' := by
  obtain ⟨c0, c1, c2, c3⟩ := h.at hx
  have HT := Lib.hid h
  have HX := Lib.hid hx
  have HB := Lib.hid hB
  have HP := Lib.hid hp
  have HTB := Lib.hid hTB
  cases pL with
  | none =>
    clear h hx hB hp hTB hrow hmiss
    go_enter Try.func61, Try.ntmps61
    go_wp2_with fail
    refine (put_nil Pb _).mono ?_
    rintro e w2 ⟨rfl, rfl⟩
    go_wp2
    go_quiet (fail)
    go_wp2
    go_ret3
    refine ⟨rfl, set_ptr (m := 0) HT.out HX.out _ rfl, ⟨hd, block_set_ne HP.out hTP⟩, ?_⟩
    exact ((Mod.refl (fun k => k = T ∨ k = Pb ∨ ∃ q, (none : Option Addr) = some q ∧ k = q.block) w).setCell (p := ⟨T, st * 2 + 1, none⟩) (fun _ => Or.inl rfl) _).drewN _
  | some q =>
    obtain ⟨hq, hN⟩ := hrow 0 (by omega) aL q hx
    have hS : sameB (nd q.block).f f (nd q.block).o o (nd q.block).l l = false := hmiss
    have HS := Lib.hid hS
    have HN := Lib.hid hN
    have HQ := Lib.hid hq
    rw [hq] at c1
    clear hS hN hq hmiss hrow h hx hB hp hTB
    go_enter Try.func61, Try.ntmps61
    go_wp2_with fail
    refine (equiv_any q.block B _ v _ f _ o _ l _ HN.out HB.out).mono ?_
    rintro e w1 ⟨rfl, hb⟩
    rw [HS.out]
    have hT1 : TableAt w1 T tab := block_below HT.out hb (block_lt HT.out)
    have hP1 : w1.heap[Pb]? = some (.cells #[.pointer hd] 102 (0, 0)) := block_below HP.out hb (block_lt HP.out)
    obtain ⟨d0, d1, d2, d3⟩ := hT1.at HX.out
    have e1 := HQ.out
    clear HQ
    have HT1 := Lib.hid hT1
    have HP1 := Lib.hid hP1
    clear hT1 hP1
    rw [e1] at d1
    clear e1
    go_wp2_with fail
    refine (put_any q.block Pb _ _ _ _ _ _ (NodeAt.below HN.out hb) HP1.out).mono ?_
    rintro e w2 ⟨rfl, ⟨hd', hP2⟩, hm2⟩
    have hqT : q.block ≠ T := HTB.out q rfl
    have hT' : TableAt w2 T tab := hm2.heap HT1.out (by rintro (h | h); exact hqT h.symm; exact hTP h)
    obtain ⟨g0, g1, g2, g3⟩ := hT'.at HX.out
    have HT' := Lib.hid hT'
    have HP2 := Lib.hid hP2
    clear hT' hP2
    go_wp2
    go_quiet (fail)
    go_wp2
    go_ret3
    refine ⟨rfl, set_ptr (m := 0) HT'.out HX.out _ rfl, ⟨hd', block_set_ne HP2.out hTP⟩, ?_⟩
    have m1 : Mod (fun k => k = T ∨ k = Pb ∨ ∃ q', some q = some q' ∧ k = q'.block) w w1 := Mod.of_below hb
    have m2 := m1.step hm2 (fun k _ h => by rcases h with h | h; exact Or.inr (Or.inr ⟨q, rfl, h⟩); exact Or.inr (Or.inl h))
    exact ((m2.setCell (p := ⟨T, st * 2 + 1, none⟩) (fun _ => Or.inl rfl) _).drewN _)
end Go.Proofs.Ytanimdajohpggaa.Node
