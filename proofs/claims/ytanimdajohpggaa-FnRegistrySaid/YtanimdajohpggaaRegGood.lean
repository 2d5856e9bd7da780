/- What a hit and a miss of the registry mean. -/
import Derived.Test.YtanimdajohpggaaRegistry
namespace Go.Proofs.Ytanimdajohpggaa.Node
open Go.ChangeShapes Go.WideShapes Go.ChangeAt Go.RowKit Go.Trav Go.Sort
set_option linter.unusedVariables false
theorem first_of {S : List St} {j : Nat} {s : St} (hj : S[j]? = some s) : ∃ k, k ≤ j ∧ S[k]? = some s ∧ First S k := by
  induction j using Nat.strongRecOn with
  | _ j ih =>
    by_cases hF : First S j
    · exact ⟨j, Nat.le_refl _, hj, hF⟩
    · have hF' : ∃ k s' t, k < j ∧ S[k]? = some s' ∧ S[j]? = some t ∧ s' = t := by
        apply Classical.byContradiction
        intro hno
        exact hF fun k hk s' t h1 h2 e => hno ⟨k, s', t, hk, h1, h2, e⟩
      obtain ⟨k, s', t, hk, h1, h2, e⟩ := hF'
      obtain rfl : t = s := Option.some.inj (h2.symm.trans hj)
      subst e
      obtain ⟨k', hk', h3⟩ := ih k hk h1
      exact ⟨k', by omega, h3⟩
theorem RegSt.hit_at {w wr : World} {R Pb T rows mru i : Nat} {S : List St} {bn : Nat → Nat} {nv : Nat → Value} {tab : List RC} (h : RegSt w wr R Pb T rows mru i S bn nv tab) {j : Nat} {a : Int} {p : Option Addr} {s0 : St} (hx : tab[j]? = some (a, p)) (hh : Node.hit (ndOf S bn nv i) s0.1 s0.2.1 s0.2.2 (a, p) = true) :
    ∃ k, k < i ∧ a = (k : Int) ∧ p = some ⟨bn k, 0, none⟩ ∧ S[k]? = some s0 := by
  cases p with
  | none => simp [Node.hit] at hh
  | some q =>
    obtain ⟨k, hk, ea, rfl⟩ := h.inv.ptr _ _ _ hx
    obtain ⟨s, hs, _⟩ := h.node _ _ k hk hx
    rw [hit_some] at hh
    have e := h.nd hk hs
    simp only [e] at hh
    have : s = s0 := (sameSt_iff s s0).1 hh
    exact ⟨k, hk, ea, rfl, by rw [hs, this]⟩
theorem RegSt.good_hit {w wr : World} {R Pb T rows mru i : Nat} {S : List St} {bn : Nat → Nat} {nv : Nat → Value} {tab : List RC} (h : RegSt w wr R Pb T rows mru i S bn nv tab) {s0 : St} (hs0 : S[i]? = some s0) (hr : rowOf rows s0 < rows) {m : Nat} {a : Int} (hh : HitAt (ndOf S bn nv i) s0.1 s0.2.1 s0.2.2 tab (rowOf rows s0 * mru) mru m a) :
    Good S mru i a ∧ ¬ First S i ∧ ∃ p, tab[rowOf rows s0 * mru + m]? = some (a, some p) := by
  obtain ⟨hlt, ⟨p, hx, hhit⟩, _⟩ := hh
  obtain ⟨k, hk, rfl, rfl, hsk⟩ := h.hit_at hx hhit
  refine ⟨⟨fun _ => ⟨k, hk, rfl, by rw [hsk, hs0]⟩, fun hl => ⟨fun e => by omega, fun k' e => ?_⟩⟩, fun hF => hF k hk _ _ hsk hs0 rfl, _, hx⟩
  obtain rfl : k = k' := by omega
  exact ((h.big hl).own _ _ k _ hr hlt hk hx).1
theorem RegSt.good_miss {w wr : World} {R Pb T rows mru i : Nat} {S : List St} {bn : Nat → Nat} {nv : Nat → Value} {tab : List RC} (h : RegSt w wr R Pb T rows mru i S bn nv tab) {s0 : St} (hs0 : S[i]? = some s0) (hmiss : ∀ k, k < mru → ∀ x, tab[rowOf rows s0 * mru + k]? = some x → Node.hit (ndOf S bn nv i) s0.1 s0.2.1 s0.2.2 x = false) :
    Good S mru i (-1) ∧ (S.length ≤ mru → First S i) := by
  have key : S.length ≤ mru → First S i := by
    intro hl j hj s t h1 h2 e
    subst e
    obtain rfl : s = s0 := Option.some.inj (h2.symm.trans hs0)
    obtain ⟨k, hk, h3, hF⟩ := first_of h1
    obtain ⟨c, hc, hx⟩ := (h.big hl).all k s (by omega) h3 hF
    have := hmiss c hc _ hx
    rw [hit_some] at this
    have e := h.nd (show k < i by omega) h3
    simp only [e] at this
    have h4 : sameSt s s = true := (sameSt_iff s s).2 rfl
    unfold sameSt at h4
    rw [h4] at this
    cases this
  exact ⟨⟨fun e => absurd rfl e, fun hl => ⟨fun _ => key hl, fun k e => by omega⟩⟩, key⟩
theorem RegSt.mod {w wr w1 : World} {R Pb T rows mru i : Nat} {S : List St} {bn : Nat → Nat} {nv : Nat → Value} {tab : List RC} (h : RegSt w wr R Pb T rows mru i S bn nv tab) {F : Nat → Prop} (hm : Mod F wr w1)
    (hF : ∀ g, g < wr.heap.size → F g → w.heap.size ≤ g ∧ g ≠ R ∧ g ≠ Pb ∧ g ≠ T ∧ ∀ k, k < i → ¬ fp (bn k) (nv k) g) : RegSt w w1 R Pb T rows mru i S bn nv tab := by
  obtain ⟨hd, hp⟩ := h.reg.pool
  refine ⟨h.bel.trans (hm.toBelow h.bel.size fun k hk hf => (hF k hk hf).1), ⟨hm.heap h.reg.blk fun hf => (hF R (block_lt h.reg.blk) hf).2.1 rfl, ⟨hd, hm.heap hp fun hf => (hF Pb (block_lt hp) hf).2.2.1 rfl⟩, hm.heap h.reg.tbl fun hf => (hF T (block_lt h.reg.tbl) hf).2.2.2.1 rfl, h.reg.len⟩, h.inv, h.big, h.lo, fun k hk g hg => ?_, h.sep, fun j a k hk hx => ?_⟩
  · obtain ⟨h1, h2, h3⟩ := h.own k hk g hg
    exact ⟨h1, Nat.lt_of_lt_of_le h2 hm.size, h3⟩
  · obtain ⟨s, hs, hN⟩ := h.node j a k hk hx
    exact ⟨s, hs, hN.mod hm fun g hg hf => (hF g (h.own k hk g hg).2.1 hf).2.2.2.2 k hk hg⟩
end Go.Proofs.Ytanimdajohpggaa.Node
