/- The spec's own sets of instructions (plain): closing a row pass by pass, the rows along a text. -/
import Derived.Test.YtnpchkohfomagaaDoorRgS
namespace Go.Rg
set_option linter.unusedVariables false
theorem roots_snoc {l : List In} {K : List Nat} {c k x : Nat} (h : K[k]? = some x) : rootsOf l (K.take (k + 1)) c = rootsOf l (K.take k) c ++ (if into l c x then [x + 1] else []) := by
  have e : K.take (k + 1) = K.take k ++ [x] := by
    obtain ⟨h1, h2⟩ := List.getElem?_eq_some_iff.mp h
    rw [List.take_succ_eq_append_getElem h1, h2]
  unfold rootsOf
  rw [e, List.filter_append, List.map_append]
  by_cases hi : into l c x = true
  · simp [hi]
  · simp [hi]
theorem key_snoc {l : List In} {R : List Nat} {k x : Nat} (h : R[k]? = some x) : key l (R.take (k + 1)) = key l (R.take k) ++ (if takes l x then [x] else []) := by
  have e : R.take (k + 1) = R.take k ++ [x] := by
    obtain ⟨h1, h2⟩ := List.getElem?_eq_some_iff.mp h
    rw [List.take_succ_eq_append_getElem h1, h2]
  unfold key
  rw [e, List.filter_append]
  by_cases hi : takes l x = true
  · simp [hi]
  · simp [hi]
theorem isM_snoc {l : List In} (A : List Nat) (x : Nat) : isM l (A ++ [x]) = (isM l A || matchAt l x) := by simp [isM]
/-- One pass under way: at instruction i, k of its ways done; c0: how many were not there when the pass began. -/
structure RI (l : List In) (r : List Nat) (bs : List Bool) (i k : Nat) (again : Bool) (c0 : Nat) : Prop where
  len : bs.length = l.length
  has : ∀ x ∈ r, bs[x]? = some true
  least : ∀ P : Nat → Prop, (∀ x ∈ r, P x) → (∀ x i, P x → l[x]? = some i → ∀ y ∈ i.succ, P y) → ∀ x : Nat, bs[x]? = some true → P x
  cl : again = false → ∀ x : Nat, x < i → bs[x]? = some true → ∀ n, l[x]? = some n → ∀ y ∈ n.succ, bs[y]? = some true
  cur : ∀ n, l[i]? = some n → ∀ y ∈ n.succ.take k, bs[y]? = some true
  cnt : (again = false → bs.count false = c0) ∧ (again = true → bs.count false < c0)
theorem RI.start {l : List In} {r : List Nat} {bs : List Bool} (hl : bs.length = l.length) (h : ∀ x : Nat, bs[x]? = some true ↔ x ∈ r) : RI l r bs 0 0 false (bs.count false) :=
  ⟨hl, fun x hx => (h x).mpr hx, fun P h1 _ x hx => h1 x ((h x).mp hx), fun _ x hx => by omega, by simp, fun _ => rfl, fun e => by cases e⟩
theorem RI.pass {l : List In} {r : List Nat} {bs : List Bool} {i k : Nat} {a : Bool} {c0 : Nat} (h : RI l r bs i k a c0) : RI l r bs 0 0 false (bs.count false) :=
  ⟨h.len, h.has, h.least, fun _ x hx => by omega, by simp, fun _ => rfl, fun e => by cases e⟩
theorem RI.skip {l : List In} {r : List Nat} {bs : List Bool} {i : Nat} {a : Bool} {c0 : Nat} (h : RI l r bs i 0 a c0) (hb : bs[i]? = some false) : RI l r bs (i + 1) 0 a c0 :=
  ⟨h.len, h.has, h.least, fun e x hx ht => by
    by_cases hxi : x = i
    · subst hxi; rw [hb] at ht; cases ht
    · exact h.cl e x (by omega) ht, by simp, h.cnt⟩
theorem RI.next {l : List In} {r : List Nat} {bs : List Bool} {i k : Nat} {a : Bool} {c0 : Nat} {n : In} (h : RI l r bs i k a c0) (hn : l[i]? = some n) (hk : k = n.succ.length) : RI l r bs (i + 1) 0 a c0 :=
  ⟨h.len, h.has, h.least, fun e x hx ht m hm y hy => by
    by_cases hxi : x = i
    · subst hxi
      rw [hn] at hm; cases hm
      exact h.cur n hn y (by rw [hk, List.take_length]; exact hy)
    · exact h.cl e x (by omega) ht m hm y hy, by simp, h.cnt⟩
theorem take_succ_get {α : Type} {l : List α} {k : Nat} {x : α} (h : l[k]? = some x) : l.take (k + 1) = l.take k ++ [x] := by
  obtain ⟨h1, h2⟩ := List.getElem?_eq_some_iff.mp h
  rw [List.take_succ_eq_append_getElem h1, h2]
theorem RI.old {l : List In} {r : List Nat} {bs : List Bool} {i k y : Nat} {a : Bool} {c0 : Nat} {n : In} (h : RI l r bs i k a c0) (hn : l[i]? = some n) (hy : n.succ[k]? = some y) (hb : bs[y]? = some true) : RI l r bs i (k + 1) a c0 :=
  ⟨h.len, h.has, h.least, h.cl, fun m hm z hz => by
    rw [hn] at hm; cases hm
    rw [take_succ_get hy] at hz
    rcases List.mem_append.mp hz with p | p
    · exact h.cur n hn z p
    · simp at p; subst p; exact hb, h.cnt⟩
theorem set_true {bs : List Bool} {x y : Nat} (h : bs[x]? = some true) : (bs.set y true)[x]? = some true := by
  by_cases e : y = x
  · subst e; rw [List.getElem?_set_self (List.getElem?_eq_some_iff.mp h).1]
  · rw [List.getElem?_set_ne e]; exact h
theorem RI.new {l : List In} {r : List Nat} {bs : List Bool} {i k y : Nat} {a : Bool} {c0 : Nat} {n : In} (h : RI l r bs i k a c0) (hn : l[i]? = some n) (hi : bs[i]? = some true) (hy : n.succ[k]? = some y) (hb : bs[y]? = some false) : RI l r (bs.set y true) i (k + 1) true c0 := by
  have hyl := (List.getElem?_eq_some_iff.mp hb).1
  have hc : (bs.set y true).count false < bs.count false := by
    have h0 : 0 < bs.count false := List.count_pos_iff.mpr (List.mem_of_getElem? hb)
    have he : bs[y] = false := (List.getElem?_eq_some_iff.mp hb).2
    rw [List.count_set hyl, he]
    simp
    omega
  refine ⟨by rw [List.length_set]; exact h.len, fun x hx => set_true (h.has x hx), fun P h1 h2 x hx => ?_, fun e => (by cases e), fun m hm z hz => ?_, fun e => (by cases e), fun _ => ?_⟩
  · by_cases e : y = x
    · subst e
      exact h2 i n (h.least P h1 h2 i hi) hn y (List.mem_of_getElem? hy)
    · rw [List.getElem?_set_ne e] at hx
      exact h.least P h1 h2 x hx
  · rw [hn] at hm; cases hm
    rw [take_succ_get hy] at hz
    rcases List.mem_append.mp hz with p | p
    · exact set_true (h.cur n hn z p)
    · simp at p; subst p; rw [List.getElem?_set_self hyl]
  · have := h.cnt
    cases a
    · have := this.1 rfl; omega
    · have := this.2 rfl; omega
theorem RI.fin {l : List In} {r : List Nat} {bs : List Bool} {k : Nat} {c0 : Nat} (h : RI l r bs l.length k false c0) : ClosB l r bs :=
  ⟨h.len, h.has, fun x hx i hi y hy => h.cl rfl x (by have := (List.getElem?_eq_some_iff.mp hx).1; rw [h.len] at this; exact this) hx i hi y hy, h.least⟩
/-- The instructions with which the sets along a text begin. -/
def rAt (l : List In) (s : List Nat) : Nat → List Nat
  | 0 => [0]
  | i + 1 => rootsOf l (kAt l s i) (s[i]?.getD 0)
theorem kAt_eq (l : List In) (s : List Nat) (i : Nat) : kAt l s i = key l (addAll l [] (rAt l s i)) := by cases i <;> rfl
theorem rAt_lt {l : List In} (hs : Sound l) (h0 : 0 < l.length) (s : List Nat) (i : Nat) : ∀ x ∈ rAt l s i, x < l.length := by
  cases i with
  | zero => intro x hx; simp only [rAt, List.mem_singleton] at hx; omega
  | succ i => exact roots_lt hs
/-- Whether one of the first k instructions that are there is of a kind. -/
def anyTo (p : Nat → Bool) (bs : List Bool) (k : Nat) : Bool := (List.range k).any fun k => bs[k]?.getD false && p k
theorem anyTo_zero (p : Nat → Bool) (bs : List Bool) : anyTo p bs 0 = false := rfl
theorem anyTo_succ (p : Nat → Bool) (bs : List Bool) (k : Nat) : anyTo p bs (k + 1) = (anyTo p bs k || (bs[k]?.getD false && p k)) := by simp [anyTo, List.range_succ]
theorem anyTo_all (l : List In) (p : Nat → Bool) (bs : List Bool) : anyTo p bs l.length = anyB l p bs := rfl
/-- The next set, as far as the first k instructions. -/
def NextTo (l : List In) (bs nx : List Bool) (c k : Nat) : Prop := nx.length = l.length ∧ ∀ j : Nat, nx[j]? = some true ↔ ∃ x, x < k ∧ j = x + 1 ∧ bs[x]? = some true ∧ into l c x = true
theorem next_zero (l : List In) (bs : List Bool) (c : Nat) : NextTo l bs (List.replicate l.length false) c 0 := by
  refine ⟨by simp, fun j => ⟨fun h => ?_, fun ⟨x, hx, _⟩ => by omega⟩⟩
  have := List.mem_of_getElem? h
  simp at this
theorem NextTo.skip {l : List In} {bs nx : List Bool} {c k : Nat} (h : NextTo l bs nx c k) (hn : ¬ (bs[k]? = some true ∧ into l c k = true)) : NextTo l bs nx c (k + 1) := by
  refine ⟨h.1, fun j => (h.2 j).trans ⟨fun ⟨x, hx, e⟩ => ⟨x, by omega, e⟩, fun ⟨x, hx, e, p, q⟩ => ⟨x, ?_, e, p, q⟩⟩⟩
  by_cases hk : x = k
  · subst hk; exact absurd ⟨p, q⟩ hn
  · omega
theorem NextTo.put {l : List In} {bs nx : List Bool} {c k : Nat} (h : NextTo l bs nx c k) (hk : k + 1 < l.length) (h1 : bs[k]? = some true) (h2 : into l c k = true) : NextTo l bs (nx.set (k + 1) true) c (k + 1) := by
  refine ⟨by rw [List.length_set]; exact h.1, fun j => ?_⟩
  by_cases e : k + 1 = j
  · subst e
    rw [List.getElem?_set_self (by rw [h.1]; exact hk)]
    exact ⟨fun _ => ⟨k, by omega, rfl, h1, h2⟩, fun _ => rfl⟩
  · rw [List.getElem?_set_ne e]
    refine (h.2 j).trans ⟨fun ⟨x, hx, e⟩ => ⟨x, by omega, e⟩, fun ⟨x, hx, e', p, q⟩ => ⟨x, by omega, e', p, q⟩⟩
/-- The row at the head of a step. -/
def HeadIs (l : List In) (s : List Nat) (i : Nat) (bs : List Bool) : Prop := bs.length = l.length ∧ ∀ x : Nat, bs[x]? = some true ↔ x ∈ rAt l s i
theorem head_zero {l : List In} (s : List Nat) (h0 : 0 < l.length) : HeadIs l s 0 ((List.replicate l.length false).set 0 true) := by
  refine ⟨by simp, fun x => ?_⟩
  simp only [rAt, List.mem_singleton]
  by_cases e : 0 = x
  · subst e; simp [h0]
  · rw [List.getElem?_set_ne e]
    refine ⟨fun h => ?_, fun h => absurd h.symm e⟩
    have := List.mem_of_getElem? h
    simp at this
theorem closed_says {l : List In} (hs : Sound l) (h0 : 0 < l.length) {s : List Nat} {i : Nat} {bs : List Bool} (h : ClosB l (rAt l s i) bs) :
    anyTo (matchAt l) bs l.length = isM l (kAt l s i) ∧ anyTo (takes l) bs l.length = !(kAt l s i).isEmpty := by
  have hc := h.setIs (addAll_closure l hs (rAt l s i) (rAt_lt hs h0 s i))
  rw [kAt_eq]
  exact ⟨any_match hc, any_can hc⟩
theorem head_next {l : List In} (hs : Sound l) (h0 : 0 < l.length) {s : List Nat} {i : Nat} {bs nx : List Bool} (h : ClosB l (rAt l s i) bs) (hn : NextTo l bs nx (s[i]?.getD 0) l.length) : HeadIs l s (i + 1) nx := by
  have hc := h.setIs (addAll_closure l hs (rAt l s i) (rAt_lt hs h0 s i))
  refine ⟨hn.1, fun j => (hn.2 j).trans ?_⟩
  show _ ↔ j ∈ rootsOf l (kAt l s i) (s[i]?.getD 0)
  rw [kAt_eq, mem_roots]
  refine ⟨fun ⟨x, _, e, p, q⟩ => ⟨x, e, (hc.2 x).mp p, q⟩, fun ⟨x, e, p, q⟩ => ⟨x, ?_, e, (hc.2 x).mpr p, q⟩⟩
  have := (List.getElem?_eq_some_iff.mp ((hc.2 x).mpr p)).1
  rw [hc.1] at this; exact this
end Go.Rg
