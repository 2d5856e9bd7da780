/- What impl.encoded writes: plain. -/
import Derived.Test.YtkbonmjbfpdchaaDoorEnc5
import Derived.Test.YtkbonmjbfpdchaaDoorRight0
import Derived.Test.YtkbonmjbfpdchaaDoorPackL
namespace Go.Proofs.YtkbonmjbfpdchaaDoor.Buf
open Go.ChangeShapes Go.WideShapes Go.ChangeAt Go.RowKit Go.Trav Go.Pk Go.Proofs.YtkbonmjbfpdchaaDoor.Node
set_option linter.unusedVariables false
set_option linter.unusedSimpArgs false
/-- Where an arc leads. -/
def adr (ads : List Nat) (t : Int) : Nat := if t < 0 then 0 else ads[t.toNat]?.getD 0
def naOf (ads : List Nat) (a : Arc) : NA := (a.1.toNat, a.2.1.toNat, adr ads a.2.2)
def lastOf (ads : List Nat) : Nat := ads.getLast?.getD 1
def encX (p : List Nat × List Nat) (x : StV) : List Nat := encB p.1.length (lastOf p.2) x.f x.o.toNat (x.l.map (naOf p.2))
def encStep (p : List Nat × List Nat) (x : StV) : List Nat × List Nat :=
  (p.1 ++ encX p x, p.2 ++ [encA p.1.length (lastOf p.2) x.f x.o.toNat (x.l.map (naOf p.2))])
def encAll (S : List StV) : List Nat × List Nat := S.foldl encStep (packed 1 8 ++ packed 0 8, [])
def outB (S : List StV) : List Nat := (encAll S).1 ++ (packed S.length 8 ++ packed (lastOf (encAll S).2) 8)
theorem encAll_snoc (S : List StV) (x : StV) : encAll (S ++ [x]) = encStep (encAll S) x := by
  unfold encAll; rw [List.foldl_append]; rfl
theorem encAll_take {S : List StV} {i : Nat} {x : StV} (h : S[i]? = some x) : encAll (S.take (i + 1)) = encStep (encAll (S.take i)) x := by
  rw [take_snoc' _ _ _ h, encAll_snoc]
theorem finB_len (nx b : Nat) : (finB nx b).length ≤ 2 := by unfold finB; split <;> simp
theorem oneB_len (s : Nat) (a : NA) : (oneB s a).length ≤ 5000 := by
  unfold oneB
  have h1 := size_bd a.2.1
  have h2 := size_bd (delta s a.2.2)
  have h3 := finB_len 0 a.1
  split <;> simp only [List.length_append, packed_len, List.length_nil, List.length_cons] <;> omega
theorem encB_len (start last : Nat) (f : Bool) (fo : Nat) (l : List NA) (hl : l.length ≤ 256) (hne : l.length = 0 → fo ≠ 0) : 1 ≤ (encB start last f fo l).length ∧ (encB start last f fo l).length ≤ 5000 := by
  have pos : ∀ x : List Nat, x ≠ [] → 1 ≤ x.length := fun x hx => by
    cases x
    · exact absurd rfl hx
    · simp
  match l, hl, hne with
  | [], hl, hne =>
    unfold encB
    rw [if_neg (fun h => hne rfl h.2)]
    exact manyB_len start f fo [] hl
  | [a], hl, hne =>
    unfold encB
    cases f
    · simp only [Bool.false_eq_true, if_false]
      split
      · exact ⟨pos _ (finB_ne _ _), by have := finB_len 64 a.1; omega⟩
      · exact ⟨pos _ (oneB_ne _ _), oneB_len _ _⟩
    · simp only [if_true]
      exact manyB_len start true fo [a] hl
  | a :: b :: r, hl, hne =>
    unfold encB
    exact manyB_len start f fo _ hl
theorem encA_len {start last : Nat} {f : Bool} {fo : Nat} {l : List NA} (h : 1 ≤ (encB start last f fo l).length) : encA start last f fo l = start + (encB start last f fo l).length - 1 := by
  unfold encA
  rw [if_neg (fun e => by rw [e] at h; simp at h)]
/-- What holds after i states. -/
structure EInv (p : List Nat × List Nat) (i : Nat) : Prop where
  n : p.2.length = i
  lo : 16 ≤ p.1.length
  hi : p.1.length ≤ 16 + 5000 * i
  ad : ∀ (j a : Nat), p.2[j]? = some a → 16 ≤ a ∧ a < p.1.length
  up : ∀ (j a b : Nat), p.2[j]? = some a → p.2[j + 1]? = some b → a < b
theorem EInv.adr {p : List Nat × List Nat} {i : Nat} (h : EInv p i) (t : Int) : adr p.2 t ≤ p.1.length := by
  unfold Buf.adr
  split
  · omega
  · cases e : p.2[t.toNat]? with
    | none => simp
    | some a => simpa using Nat.le_of_lt (h.ad _ _ e).2
theorem EInv.last {p : List Nat × List Nat} {i : Nat} (h : EInv p i) : lastOf p.2 ≤ p.1.length := by
  unfold lastOf
  have := h.lo
  cases e : p.2.getLast? with
  | none => simp; omega
  | some a =>
    rw [List.getLast?_eq_getElem?] at e
    simpa using Nat.le_of_lt (h.ad _ _ e).2
theorem EInv.start : EInv (encAll []) 0 := by
  refine ⟨rfl, ?_, ?_, fun j a h => ?_, fun j a b h => ?_⟩
  · show 16 ≤ (packed 1 8 ++ packed 0 8).length
    simp [packed_len]
  · show (packed 1 8 ++ packed 0 8).length ≤ _
    simp [packed_len]
  · simp [encAll] at h
  · simp [encAll] at h
theorem encX_len {p : List Nat × List Nat} {i : Nat} {x : StV} (hr : RightSt i x) (ho : 0 ≤ x.o) : 1 ≤ (encX p x).length ∧ (encX p x).length ≤ 5000 :=
  encB_len _ _ _ _ _ (by simpa using hr.1) (fun h => by have := hr.2.1 (by simpa using h); omega)
theorem EInv.step {p : List Nat × List Nat} {i : Nat} {x : StV} (h : EInv p i) (hr : RightSt i x) (ho : 0 ≤ x.o) : EInv (encStep p x) (i + 1) ∧ ∃ a, (encStep p x).2 = p.2 ++ [a] ∧ a = (encStep p x).1.length - 1 ∧ p.1.length ≤ a := by
  obtain ⟨h1, h2⟩ := encX_len (p := p) hr ho
  have hA : encA p.1.length (lastOf p.2) x.f x.o.toNat (x.l.map (naOf p.2)) = p.1.length + (encX p x).length - 1 := encA_len h1
  have hl : (encStep p x).1.length = p.1.length + (encX p x).length := by simp [encStep]
  have ha : (encStep p x).2 = p.2 ++ [p.1.length + (encX p x).length - 1] := by rw [← hA]; rfl
  have hlo := h.lo
  have hhi := h.hi
  have hn := h.n
  refine ⟨⟨by rw [ha]; simp [hn], by omega, by omega, fun j a hj => ?_, fun j a b hj hk => ?_⟩, _, ha, by omega, by omega⟩
  · rw [ha] at hj
    rcases Nat.lt_or_ge j p.2.length with hlt | hge
    · rw [List.getElem?_append_left hlt] at hj
      have := h.ad j a hj
      omega
    · have h3 := (List.getElem?_eq_some_iff.1 hj).1
      simp at h3
      obtain rfl : j = p.2.length := by omega
      simp at hj
      omega
  · rw [ha] at hj hk
    have h3 := (List.getElem?_eq_some_iff.1 hk).1
    simp at h3
    rw [List.getElem?_append_left (by omega)] at hj
    have h4 := h.ad j a hj
    rcases Nat.lt_or_ge (j + 1) p.2.length with hlt | hge
    · rw [List.getElem?_append_left hlt] at hk
      exact h.up j a b hj hk
    · obtain e : j + 1 = p.2.length := by omega
      rw [e] at hk
      simp at hk
      omega
theorem EInv.all {S : List StV} (hr : RightL S) (ho : ∀ x ∈ S, StOk x) : ∀ i, i ≤ S.length → EInv (encAll (S.take i)) i := by
  intro i
  induction i with
  | zero => intro _; simpa using EInv.start
  | succ i ih =>
    intro hi
    have hx : S[i]? = some S[i] := List.getElem?_eq_getElem (by omega)
    rw [encAll_take hx]
    exact ((ih (by omega)).step (hr i _ hx) (ho _ (List.mem_of_getElem? hx)).1.1).1
/-- The bytes and addresses of the first states are the beginning of those of all. -/
theorem encAll_pre (S : List StV) (i : Nat) : ∀ k, (∃ r, (encAll (S.take (i + k))).1 = (encAll (S.take i)).1 ++ r) ∧ ∃ r, (encAll (S.take (i + k))).2 = (encAll (S.take i)).2 ++ r := by
  intro k
  induction k with
  | zero => exact ⟨⟨[], by simp⟩, ⟨[], by simp⟩⟩
  | succ k ih =>
    obtain ⟨⟨r1, e1⟩, ⟨r2, e2⟩⟩ := ih
    rcases Nat.lt_or_ge (i + k) S.length with h | h
    · have hx : S[i + k]? = some S[i + k] := List.getElem?_eq_getElem h
      rw [show i + (k + 1) = i + k + 1 from rfl, encAll_take hx]
      exact ⟨⟨r1 ++ encX (encAll (S.take (i + k))) S[i + k], by rw [encStep, e1, List.append_assoc]⟩, ⟨r2 ++ [_], by rw [encStep, e2, List.append_assoc]⟩⟩
    · have e : S.take (i + (k + 1)) = S.take (i + k) := by rw [List.take_of_length_le (by omega : S.length ≤ i + (k + 1)), List.take_of_length_le h]
      rw [e]
      exact ⟨⟨r1, e1⟩, ⟨r2, e2⟩⟩
end Go.Proofs.YtkbonmjbfpdchaaDoor.Buf
