/- Places (plain): sets that are bounded; what a place is moved on to, part by part. -/
import Derived.Test.YtnfagjemhbgfkaaDoorPlcP
namespace Go.Nor
set_option linter.unusedVariables false
theorem add_apart {S : List Plc} (h : S.Pairwise Apart) (x : Plc) : (add S x).Pairwise Apart := by
  unfold add
  by_cases ha : S.any (fun s => imp s x) = true
  · rw [if_pos ha]; exact h
  · rw [if_neg ha]
    have hn : ∀ s ∈ S, imp s x = false := fun s hs => by
      cases e : imp s x with
      | false => rfl
      | true => exact absurd (List.any_eq_true.mpr ⟨s, hs, e⟩) ha
    rw [List.pairwise_append]
    refine ⟨h.filter _, List.pairwise_singleton _ _, fun a ha b hb => ?_⟩
    rw [List.mem_singleton.mp hb]
    obtain ⟨h1, h2⟩ := List.mem_filter.mp ha
    exact ⟨hn a h1, by simpa using h2⟩
theorem mem_add {S : List Plc} {x y : Plc} (h : y ∈ add S x) : y ∈ S ∨ y = x := by
  unfold add at h
  split at h
  · exact Or.inl h
  · rcases List.mem_append.mp h with m | m
    · exact Or.inl (List.mem_filter.mp m).1
    · exact Or.inr (List.mem_singleton.mp m)
/-- A bounded set. -/
def Bnd (K : Nat) (G : List Plc) : Prop := G.Pairwise Apart ∧ ∀ s ∈ G, s.o ≤ K ∧ s.d ≤ 8
theorem Bnd.nil (K : Nat) : Bnd K [] := ⟨List.Pairwise.nil, fun _ h => by cases h⟩
theorem Bnd.add {K : Nat} {G : List Plc} {x : Plc} (h : Bnd K G) (hx : x.o ≤ K ∧ x.d ≤ 8) : Bnd K (add G x) :=
  ⟨add_apart h.1 x, fun s hs => (mem_add hs).elim (h.2 s) (fun e => e ▸ hx)⟩
theorem nodup_le' {n : Nat} {l : List Nat} (h : l.Nodup) (hl : ∀ x ∈ l, x < n) : l.length ≤ n := by
  induction n generalizing l with
  | zero =>
    cases l with
    | nil => simp
    | cons a r => exact absurd (hl a (by simp)) (by omega)
  | succ n ih =>
    by_cases hm : n ∈ l
    · have h1 := ih (l := l.erase n) (h.erase n) (fun x hx => by
        have h2 := (List.Nodup.mem_erase_iff h).mp hx
        have := hl x h2.2
        omega)
      rw [List.length_erase_of_mem hm] at h1
      omega
    · have := ih h (fun x hx => by
        have h2 := hl x hx
        have h3 : x ≠ n := fun e => hm (e ▸ hx)
        omega)
      omega
def code (x : Plc) : Nat := (x.o * 9 + x.d) * 2 + (if x.t then 1 else 0)
theorem Bnd.len {K : Nat} {G : List Plc} (h : Bnd K G) (hK : K ≤ 1000) : G.length ≤ 20000 := by
  have hn : (G.map code).Nodup := by
    rw [List.Nodup, List.pairwise_map]
    refine h.1.imp_of_mem fun {a b} ha hb hab he => ?_
    have h1 := h.2 a ha
    have h2 := h.2 b hb
    have : a = b := by
      obtain ⟨ao, ad, at'⟩ := a
      obtain ⟨bo, bd, bt⟩ := b
      simp only [code] at he h1 h2
      simp only [Plc.mk.injEq]
      cases at' <;> cases bt <;> simp at he <;> (refine ⟨by omega, by omega, ?_⟩) <;> first | rfl | omega
    rw [this] at hab
    have := hab.1
    rw [imp_refl] at this
    cases this
  have := nodup_le' (n := 20000) hn (fun x hx => by
    obtain ⟨s, hs, rfl⟩ := List.mem_map.mp hx
    have := h.2 s hs
    unfold code
    split <;> omega)
  simpa using this
/-- One after the other. -/
def adds (G l : List Plc) : List Plc := l.foldl add G
theorem adds_nil (G : List Plc) : adds G [] = G := rfl
theorem adds_append (G l l' : List Plc) : adds G (l ++ l') = adds (adds G l) l' := by unfold adds; rw [List.foldl_append]
theorem adds_one (G : List Plc) (x : Plc) : adds G [x] = add G x := rfl
theorem all_adds (l : List Plc) : all l = adds [] l := rfl
theorem Bnd.adds {K : Nat} {G l : List Plc} (h : Bnd K G) (hl : ∀ x ∈ l, x.o ≤ K ∧ x.d ≤ 8) : Bnd K (adds G l) := by
  induction l generalizing G with
  | nil => exact h
  | cons x r ih =>
    show Bnd K (Nor.adds (Nor.add G x) r)
    exact ih (h.add (hl x (by simp))) (fun y hy => hl y (by simp [hy]))
/-- The places by letters left out: the first j of them. -/
def dels (bit : Nat → Bool) (s : Plc) (j : Nat) : List Plc := (List.range j).filterMap fun d => if bit (d + 1) then some ⟨s.o + 1 + (d + 1), s.d + (d + 1), false⟩ else none
theorem dels_yes {bit : Nat → Bool} {s : Plc} {j : Nat} (h : bit (j + 1) = true) : dels bit s (j + 1) = dels bit s j ++ [⟨s.o + 1 + (j + 1), s.d + (j + 1), false⟩] := by
  unfold dels; rw [List.range_succ, List.filterMap_append]; simp [h]
theorem dels_no {bit : Nat → Bool} {s : Plc} {j : Nat} (h : bit (j + 1) = false) : dels bit s (j + 1) = dels bit s j := by
  unfold dels; rw [List.range_succ, List.filterMap_append]; simp [h]
def outs1 (m : Nat) (sw : Bool) (bit : Nat → Bool) (s : Plc) : List Plc :=
  if s.d < m then [⟨s.o, s.d + 1, false⟩, ⟨s.o + 1, s.d + 1, false⟩] ++ dels bit s (m - s.d) ++ (if sw && bit 1 then [⟨s.o, s.d + 1, true⟩] else []) else []
def outs2 (bit : Nat → Bool) (s : Plc) : List Plc := if bit 0 then [⟨s.o + 1, s.d, false⟩] else []
def outs3 (bit : Nat → Bool) (s : Plc) : List Plc := if s.t && bit 0 then [⟨s.o + 2, s.d, false⟩] else []
theorem outs_eq (m : Nat) (sw : Bool) (bit : Nat → Bool) (s : Plc) : outs m sw bit s = outs1 m sw bit s ++ outs2 bit s ++ outs3 bit s := rfl
theorem outs_bnd {m K : Nat} {sw : Bool} {bit : Nat → Bool} {s x : Plc} (hs : s.o + 10 ≤ K ∧ s.d ≤ m) (hm : m ≤ 8) (h : x ∈ outs m sw bit s) : x.o ≤ K ∧ x.d ≤ 8 := by
  rcases mem_outs.mp h with ⟨hd, rfl | rfl | ⟨d, hd2, hbit, rfl⟩ | ⟨g1, g2, rfl⟩⟩ | ⟨g1, rfl⟩ | ⟨g1, g2, rfl⟩ <;> simp only <;> omega
theorem Says.perm {l S G : List Plc} (h : Says l S) (hp : G.Perm S) : Says l G :=
  ⟨fun s hs => h.of s (hp.mem_iff.mp hs), fun x hx => by
    obtain ⟨s, hs, hi⟩ := h.cov x hx
    exact ⟨s, hp.mem_iff.mpr hs, hi⟩, (hp.pairwise_iff (fun h => h.symm)).mpr h.ap⟩
/-- No place is farther than letters were read and edits were made. -/
def Off (k : Nat) (S : List Plc) : Prop := ∀ s ∈ S, s.o + (if s.t then 2 else 0) ≤ k + s.d
theorem Off.step {m k : Nat} {sw : Bool} {bit : Nat → Nat → Bool} {S G : List Plc} (h : Off k S) (hG : ∀ g ∈ G, g ∈ moves m sw bit S) : Off (k + 1) G := by
  intro g hg
  obtain ⟨s, hs, ho⟩ := mem_moves.mp (hG g hg)
  have h1 := h s hs
  rcases mem_outs.mp ho with ⟨hd, rfl | rfl | ⟨d, hd2, hbit, rfl⟩ | ⟨g1, g2, rfl⟩⟩ | ⟨g1, rfl⟩ | ⟨g1, g2, rfl⟩
  · simp only [Bool.false_eq_true, if_false]; split at h1 <;> omega
  · simp only [Bool.false_eq_true, if_false]; split at h1 <;> omega
  · simp only [Bool.false_eq_true, if_false]; split at h1 <;> omega
  · simp only [if_true]; split at h1 <;> omega
  · simp only [Bool.false_eq_true, if_false]; split at h1 <;> omega
  · simp only [Bool.false_eq_true, if_false]
    rw [if_pos g1] at h1
    omega
end Go.Nor
