/- Each state of the bytes that impl.encoded makes: plain. -/
import Derived.Test.YtkbonmjbfpdchaaDoorDec7
import Derived.Test.YtkbonmjbfpdchaaDoorEncRun
import Derived.Test.YtkbonmjbfpdchaaDoorRight1
namespace Go.Proofs.YtkbonmjbfpdchaaDoor.Buf
open Go.Pk Go.Trav Go.Proofs.YtkbonmjbfpdchaaDoor.Common Go.Proofs.YtkbonmjbfpdchaaDoor.Node
set_option linter.unusedVariables false
set_option linter.unusedSimpArgs false
/-- Where an arc leads, by the addresses. -/
def Leads (ads : List Nat) (t : Int) (a : Nat) : Prop := (t = -1 ∧ a = 0) ∨ (∃ k : Nat, t = (k : Int) ∧ ads[k]? = some a ∧ a ≠ 0 ∧ ∀ j, j < k → ads[j]? ≠ some a)
/-- State i, as its bytes are read. -/
structure OneSt (S : List StV) (i : Nat) (x : StV) (a : Nat) (d : Go.Dec.Desc) (l : List NA) : Prop where
  ad : (encAll S).2[i]? = some a
  lo : 16 ≤ a
  dec : Go.Proofs.YtkbonmjbfpdchaaDoor.Dec.DecOk (outB S) a d
  says : Go.Dec.Says (outB S) d x.f x.o.toNat l
  len : l.length = x.l.length
  arc : ∀ (k : Nat) (y : Arc), x.l[k]? = some y → ∃ b o t : Nat, l[k]? = some (b, o, t) ∧ y.1 = (b : Int) ∧ y.2.1 = (o : Int) ∧ Leads (encAll S).2 y.2.2 t ∧ t ≤ 4294967296
theorem EInv.mono {p : List Nat × List Nat} {n : Nat} (h : EInv p n) : ∀ (k j a b : Nat), p.2[j]? = some a → p.2[j + k + 1]? = some b → a < b := by
  intro k
  induction k with
  | zero => intro j a b h1 h2; exact h.up j a b h1 h2
  | succ k ih =>
    intro j a b h1 h2
    have hlt : j + k + 1 < p.2.length := by have := (List.getElem?_eq_some_iff.1 h2).1; omega
    have h3 : p.2[j + k + 1]? = some (p.2[j + k + 1]) := List.getElem?_eq_getElem hlt
    have h4 := ih j a _ h1 h3
    have h5 := h.up (j + k + 1) _ b h3 (by rw [show j + k + 1 + 1 = j + (k + 1) + 1 by omega]; exact h2)
    omega
theorem one_st {S : List StV} (hr : RightL S) (ho : ∀ x ∈ S, StOk x) (hs : ∀ x ∈ S, RiseL x.l) (hn : S.length ≤ 2000) {i : Nat} {x : StV} (hx : S[i]? = some x) : ∃ a d l, OneSt S i x a d l := by
  have hi := (List.getElem?_eq_some_iff.1 hx).1
  have hin := EInv.all hr ho i (by omega)
  have hall := EInv.all hr ho S.length (Nat.le_refl _)
  rw [List.take_length] at hall
  obtain ⟨⟨r1, e1⟩, ⟨r2, e2⟩⟩ := encAll_pre S (i + 1) (S.length - (i + 1))
  rw [show i + 1 + (S.length - (i + 1)) = S.length by omega, List.take_length] at e1 e2
  rw [encAll_take hx] at e1 e2
  obtain ⟨⟨r3, e3⟩, ⟨r4, e4⟩⟩ := encAll_pre S i (S.length - i)
  rw [show i + (S.length - i) = S.length by omega, List.take_length] at e3 e4
  have hst := hr i x hx
  have hok := ho x (List.mem_of_getElem? hx)
  have hri := hs x (List.mem_of_getElem? hx)
  obtain ⟨hstep, a, ha1, ha2, ha3⟩ := hin.step hst hok.1.1
  generalize hp : encAll (S.take i) = p at *
  have hlo := hin.lo
  have hhi := hin.hi
  have hl1 : 1 ≤ (encX p x).length := (encX_len hst hok.1.1).1
  have hA : a = p.1.length + (encB p.1.length (lastOf p.2) x.f x.o.toNat (x.l.map (naOf p.2))).length - 1 := by
    rw [ha2]
    simp [encStep, encX]
  have hD : outB S = p.1 ++ (encB p.1.length (lastOf p.2) x.f x.o.toNat (x.l.map (naOf p.2)) ++ (r1 ++ (packed S.length 8 ++ packed (lastOf (encAll S).2) 8))) := by
    unfold outB
    rw [e1]
    simp [encStep, encX]
  have hadr : ∀ t : Int, adr p.2 t = 0 ∨ (16 ≤ adr p.2 t ∧ adr p.2 t < p.1.length) := fun t => by
    unfold adr
    split
    · exact Or.inl rfl
    · cases e : p.2[t.toNat]? with
      | none => exact Or.inl rfl
      | some b => exact Or.inr (hin.ad _ b e)
  have hlast : (p.2 = [] ∧ lastOf p.2 = 1) ∨ lastOf p.2 + 1 = p.1.length := by
    cases i with
    | zero =>
      left
      have : p.2.length = 0 := hin.n
      have h0 : p.2 = [] := List.eq_nil_of_length_eq_zero this
      exact ⟨h0, by rw [h0]; rfl⟩
    | succ j =>
      right
      have hj : S[j]? = some (S[j]'(by omega)) := List.getElem?_eq_getElem (by omega)
      have hq := encAll_take hj
      rw [hp] at hq
      obtain ⟨_, a', h1, h2, h3⟩ := (EInv.all hr ho j (by omega)).step (hr j _ hj) (ho _ (List.mem_of_getElem? hj)).1.1
      rw [← hq] at h1 h2
      unfold lastOf
      rw [h1]
      simp
      omega
  have hlen256 : (x.l.map (naOf p.2)).length ≤ 256 := by simpa using hst.1
  have hmem : ∀ b ∈ x.l.map (naOf p.2), ∃ y ∈ x.l, b = naOf p.2 y := fun b hb => by
    obtain ⟨y, hy, e⟩ := List.mem_map.1 hb
    exact ⟨y, hy, e.symm⟩
  have hLay := lay_of p.1 (r1 ++ (packed S.length 8 ++ packed (lastOf (encAll S).2) 8)) (lastOf p.2) x.f x.o.toNat (x.l.map (naOf p.2)) hlen256 (by omega) (by have := hok.1.2; omega) (fun b hb => by
    obtain ⟨y, hy, rfl⟩ := hmem b hb
    have := (hok.2 y hy).2
    simp only [naOf]
    omega) (fun hz hf => hst.2.1 (by simpa using hz) (by have := hok.1.1; omega)) (fun hf => by rw [hst.2.2.1 hf]; rfl) (fun b hb he => by
    obtain ⟨y, hy, rfl⟩ := hmem b hb
    rcases hlast with ⟨h1, h2⟩ | h1
    · rcases hadr y.2.2 with h3 | h3
      · simp only [naOf] at he; omega
      · simp only [naOf] at he; omega
    · exact h1)
  rw [← hD, ← hA] at hLay
  have hup : (x.l.map (naOf p.2)).Pairwise fun u v => u.1 < v.1 := by
    rw [List.pairwise_map]
    have hc : ∀ (k j : Nat) (u v : Arc), x.l[j]? = some u → x.l[j + k + 1]? = some v → u.1 < v.1 := by
      intro k
      induction k with
      | zero => intro j u v h1 h2; exact hri j u v h1 h2
      | succ k ih =>
        intro j u v h1 h2
        have hlt : j + k + 1 < x.l.length := by have := (List.getElem?_eq_some_iff.1 h2).1; omega
        have h3 : x.l[j + k + 1]? = some (x.l[j + k + 1]) := List.getElem?_eq_getElem hlt
        have h4 := ih j u _ h1 h3
        have h5 := hri (j + k + 1) _ v h3 (by rw [show j + k + 1 + 1 = j + (k + 1) + 1 by omega]; exact h2)
        omega
    rw [List.pairwise_iff_getElem]
    intro j k hj hk hjk
    have h1 := hc (k - j - 1) j _ _ (List.getElem?_eq_getElem hj) (by rw [show j + (k - j - 1) + 1 = k by omega]; exact List.getElem?_eq_getElem hk)
    have h2 := (hok.2 _ (List.getElem_mem hj)).1
    have h3 := (hok.2 _ (List.getElem_mem hk)).1
    simp only [naOf]
    omega
  obtain ⟨d, hd1, hd2⟩ := dec_of_lay hLay hlen256 (fun b hb => by
    obtain ⟨y, hy, rfl⟩ := hmem b hb
    have := (hok.2 y hy).1
    simp only [naOf]
    omega) (fun b hb => by
    obtain ⟨y, hy, rfl⟩ := hmem b hb
    rcases hadr y.2.2 with h | h
    · exact Or.inl h
    · exact Or.inr h.2) (fun hf => by rw [hst.2.2.1 hf]; rfl) hup
  refine ⟨a, d, x.l.map (naOf p.2), ?_, by omega, hd1, hd2, by simp, fun k y hy => ?_⟩
  · rw [e2, ha1, List.getElem?_append_left (by simp [hin.n]), List.getElem?_append_right (by rw [hin.n]; exact Nat.le_refl _), hin.n]
    simp
  · have hym := List.mem_of_getElem? hy
    have h1 := hok.2 y hym
    refine ⟨y.1.toNat, y.2.1.toNat, adr p.2 y.2.2, by rw [List.getElem?_map, hy]; rfl, by have := h1.1; omega, by have := h1.2; omega, ?_, ?_⟩
    · obtain ⟨h2, h3⟩ := hst.2.2.2 k y hy
      by_cases hneg : y.2.2 < 0
      · left
        exact ⟨by omega, by unfold adr; rw [if_pos hneg]⟩
      · right
        obtain ⟨t, ht⟩ := Int.eq_ofNat_of_zero_le (show 0 ≤ y.2.2 by omega)
        have htn : t < p.2.length := by rw [hin.n]; omega
        have hpt : p.2[t]? = some (p.2[t]) := List.getElem?_eq_getElem htn
        have hadt : adr p.2 y.2.2 = p.2[t] := by
          unfold adr
          rw [if_neg hneg, ht]
          simp [hpt]
        have hat : (encAll S).2[t]? = some (p.2[t]) := by rw [e4, List.getElem?_append_left htn]; exact hpt
        refine ⟨t, ht, by rw [hadt]; exact hat, by rw [hadt]; have := (hin.ad t _ hpt).1; omega, fun j hj he => ?_⟩
        rw [hadt] at he
        have := hall.mono (t - j - 1) j _ _ he (by rw [show j + (t - j - 1) + 1 = t by omega]; exact hat)
        omega
    · rcases hadr y.2.2 with h | h <;> omega
end Go.Proofs.YtkbonmjbfpdchaaDoor.Buf
