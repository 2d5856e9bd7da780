/- Plain: one step of fromNfa leads from a normal set to a normal set. -/
import Derived.Test.YtnfagjemhbgfkaaDoorMxP
namespace Go.Nor
set_option linter.unusedVariables false
set_option linter.unusedSimpArgs false
theorem Norm.small {m : Nat} (hm : m ≤ 2) {S : List Plc} (h : Norm m S) : ∀ s ∈ S, s.o ≤ 4 ∧ s.d ≤ m := by
  intro s hs
  obtain ⟨c, hc⟩ := h.dia
  obtain ⟨z, hz, hz0⟩ := h.zero (fun e => by rw [e] at hs; cases hs)
  obtain ⟨a1, a2, a3⟩ := hc z hz
  obtain ⟨b1, b2, b3⟩ := hc s hs
  refine ⟨?_, b1⟩
  split at b3 <;> omega
theorem apart_of_perm {S T : List Plc} (hp : S.Perm T) (h : T.Pairwise Apart) : S.Pairwise Apart := (hp.symm.pairwise_iff (fun {a b} (h : Apart a b) => h.symm)).1 h
theorem apart_back {n : Nat} {S : List Plc} (h : S.Pairwise Apart) (hn : ∀ s ∈ S, n ≤ s.o) : (S.map (back n)).Pairwise Apart := by
  rw [List.pairwise_map]
  refine h.imp_of_mem fun {a b} ha hb hab => ?_
  unfold Apart
  rw [imp_back (hn a ha) (hn b hb), imp_back (hn b hb) (hn a ha)]
  exact hab
theorem says_apart {l S : List Plc} (h : Says l S) : S.Pairwise Apart := h.ap
/-- What normalize makes of places that lie in a diamond, none needless. -/
theorem norm_made {m : Nat} {c : Int} {P S' : List Plc} (hA : P.Pairwise Apart) (hD : Dia m c P) (hl : ∀ x ∈ P, x.o ≤ 1000) (hp : S'.Perm (P.map (back (least P)))) (hU : Upto S' S'.length) : Norm m S' := by
  obtain ⟨l1, l2⟩ := least_says P
  have hD2 := hD.back l1
  have hA2 := apart_of_perm hp (apart_back hA l1)
  refine ⟨sorted_of hU hA2, ?_, ⟨c - least P, fun s hs => hD2 s (hp.mem_iff.1 hs)⟩⟩
  intro hne
  rcases l2 with l2 | ⟨x, hx, hxe⟩
  · exfalso
    cases P with
    | nil => exact hne (by simpa using hp.eq_nil)
    | cons a P' =>
      have := l1 a (by simp)
      have := hl a (by simp)
      omega
  · refine ⟨back (least P) x, hp.mem_iff.2 (List.mem_map.2 ⟨x, hx, rfl⟩), ?_⟩
    show x.o - least P = 0
    omega
/-- One step: moved, put in order, begun at 0. -/
theorem norm_step {m : Nat} (hm : m ≤ 2) {sw : Bool} {bit : Nat → Nat → Bool} {S P : List Plc} (hS : Norm m S) (hP : P.Perm (all (moves m sw bit S))) :
    P.Pairwise Apart ∧ (∃ c, Dia m c P) ∧ (∀ x ∈ P, x.o ≤ 60 ∧ x.d ≤ m) ∧ P.length ≤ 10 := by
  have hsay := says_all (moves m sw bit S)
  obtain ⟨c, hc⟩ := hS.dia
  have hsub : ∀ g ∈ P, g ∈ moves m sw bit S := fun g hg => hsay.of g (hP.mem_iff.1 hg)
  have hA := apart_of_perm hP (says_apart hsay)
  have hD : Dia m (c + 1) P := hc.step hsub
  refine ⟨hA, ⟨_, hD⟩, ?_, apart_few hm hA hD⟩
  intro x hx
  obtain ⟨h1, h2, h3⟩ := hD x hx
  have hc4 : c ≤ m := by
    obtain ⟨s, hs, -⟩ := mem_moves.mp (hsub x hx)
    obtain ⟨z, hz, hz0⟩ := hS.zero (fun e => by rw [e] at hs; cases hs)
    obtain ⟨a1, a2, a3⟩ := hc z hz
    omega
  refine ⟨?_, h1⟩
  split at h3 <;> omega
theorem norm_nil (m : Nat) : Norm m [] := ⟨List.Pairwise.nil, fun h => absurd rfl h, ⟨0, Dia.nil m 0⟩⟩
theorem norm_start (m : Nat) : Norm m [⟨0, 0, false⟩] := ⟨List.pairwise_singleton _ _, fun _ => ⟨_, List.mem_singleton.2 rfl, rfl⟩, ⟨0, Dia.start m⟩⟩
theorem norm_len {m : Nat} (hm : m ≤ 2) {S : List Plc} (h : Norm m S) (hA : S.Pairwise Apart) : S.length ≤ 10 := by
  obtain ⟨c, hc⟩ := h.dia
  exact apart_few hm hA hc
end Go.Nor
