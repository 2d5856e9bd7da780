/- The model's own decoder at a letter. -/
import Derived.Test.YtanimdajohpggaaDoorUtf2
namespace Go.Proofs.YtanimdajohpggaaDoor.Utf0
open Go.ChangeShapes Go.WideShapes Go.ChangeAt Go.RowKit Go.Trav Go.Utf
set_option linter.unusedVariables false
set_option maxRecDepth 100000
theorem get_of {s : ByteArray} {i : Nat} {z : Int} (h : (bytesL s)[i]? = some z) : i < s.size ∧ ((s.get! i).toNat : Int) = z := by
  unfold bytesL at h
  rw [List.getElem?_map, Option.map_eq_some_iff] at h
  obtain ⟨b, hb, rfl⟩ := h
  rw [Array.getElem?_toList] at hb
  obtain ⟨hi, e⟩ := Array.getElem?_eq_some_iff.1 hb
  refine ⟨hi, ?_⟩
  show (((s.data)[i]!).toNat : Int) = _
  rw [getElem!_pos s.data i hi, e]
theorem decode_letter {s : ByteArray} {i : Nat} {r : Int} (hr : Let r) (h : ubytes r <+: (bytesL s).drop i) : Utf8.decode s i = (r.toNat, wid r) := by
  obtain ⟨t, ht⟩ := h
  have key : ∀ (j : Nat) (z : Int), (ubytes r)[j]? = some z → i + j < s.size ∧ ((s.get! (i + j)).toNat : Int) = z := fun j z hz => by
    apply get_of
    rw [← List.getElem?_drop, ← ht, List.getElem?_append_left (List.getElem?_eq_some_iff.1 hz).1]
    exact hz
  obtain ⟨h0, h9, hs⟩ := hr
  unfold Utf8.decode
  dsimp only
  rcases wid_cases r with ⟨e1, a1⟩ | ⟨e1, a1, a2⟩ | ⟨e1, a1, a2, a3⟩ | ⟨e1, a1, a2, a3⟩
  · rw [bytes1 a1] at key
    obtain ⟨l0, g0⟩ := key 0 _ rfl
    rw [if_pos (by omega), e1]
    congr 1
    omega
  · rw [bytes2 a1 a2] at key
    obtain ⟨l0, g0⟩ := key 0 _ rfl
    obtain ⟨l1, g1⟩ := key 1 _ rfl
    rw [if_neg (by omega), if_pos (by simp only [Bool.and_eq_true, beq_iff_eq, decide_eq_true_eq]; omega), if_pos (by omega), e1]
    congr 1
    omega
  · rw [bytes3 a1 a2 a3] at key
    obtain ⟨l0, g0⟩ := key 0 _ rfl
    obtain ⟨l1, g1⟩ := key 1 _ rfl
    obtain ⟨l2, g2⟩ := key 2 _ rfl
    rw [if_neg (by omega), if_neg (by simp only [Bool.and_eq_true, beq_iff_eq, decide_eq_true_eq]; omega), if_pos (by simp only [Bool.and_eq_true, beq_iff_eq, decide_eq_true_eq]; omega), if_pos (by simp only [Utf8.valid, Bool.and_eq_true, Bool.or_eq_true, decide_eq_true_eq]; omega), e1]
    congr 1
    omega
  · rw [bytes4 a1 a2 a3] at key
    obtain ⟨l0, g0⟩ := key 0 _ rfl
    obtain ⟨l1, g1⟩ := key 1 _ rfl
    obtain ⟨l2, g2⟩ := key 2 _ rfl
    obtain ⟨l3, g3⟩ := key 3 _ rfl
    rw [if_neg (by omega), if_neg (by simp only [Bool.and_eq_true, beq_iff_eq, decide_eq_true_eq]; omega), if_neg (by simp only [Bool.and_eq_true, beq_iff_eq, decide_eq_true_eq]; omega), if_pos (by simp only [Bool.and_eq_true, beq_iff_eq, decide_eq_true_eq]; omega), if_pos (by simp only [Utf8.valid, Bool.and_eq_true, Bool.or_eq_true, decide_eq_true_eq]; omega), e1]
    congr 1
    omega
/-- Where letter k of a text begins. -/
def place (qs : List Int) (k : Nat) : Nat := ((qs.take k).flatMap ubytes).length
theorem place_zero (qs : List Int) : place qs 0 = 0 := rfl
theorem place_succ {qs : List Int} {k : Nat} {r : Int} (hk : qs[k]? = some r) : place qs (k + 1) = place qs k + wid r := by
  unfold place
  rw [take_snoc' _ _ _ hk, List.flatMap_append, List.length_append]
  simp [wid_len]
theorem text_drop {l qs : List Int} (h : IsText l qs) (k : Nat) : l.drop (place qs k) = (qs.drop k).flatMap ubytes := by
  have e : l = (qs.take k).flatMap ubytes ++ (qs.drop k).flatMap ubytes := by
    rw [← List.flatMap_append, List.take_append_drop]
    exact h.2
  rw [e]
  unfold place
  exact List.drop_left
theorem place_end {s : ByteArray} {qs : List Int} (h : IsText (bytesL s) qs) : place qs qs.length = s.size := by
  unfold place
  rw [List.take_length, ← h.2]
  unfold bytesL
  rw [List.length_map, Array.length_toList]
  rfl
theorem decode_at {s : ByteArray} {qs : List Int} {k : Nat} {r : Int} (h : IsText (bytesL s) qs) (hk : qs[k]? = some r) : Utf8.decode s (place qs k) = (r.toNat, wid r) ∧ place qs k < s.size := by
  have hr := h.1 r (List.mem_of_getElem? hk)
  have hl := (List.getElem?_eq_some_iff.1 hk).1
  have hd : (bytesL s).drop (place qs k) = ubytes r ++ (qs.drop (k + 1)).flatMap ubytes := by
    rw [text_drop h, List.drop_eq_getElem_cons hl, List.flatMap_cons]
    rw [List.getElem?_eq_getElem hl] at hk
    rw [Option.some.inj hk]
  refine ⟨decode_letter hr ⟨_, hd.symm⟩, ?_⟩
  have h1 := congrArg List.length hd
  rw [List.length_drop, List.length_append, wid_len] at h1
  have h2 := wid_pos r
  have h3 : (bytesL s).length = s.size := by
    unfold bytesL
    rw [List.length_map, Array.length_toList]
    rfl
  omega
/-- The text behind the first letters. -/
theorem text_tail {l qs : List Int} (h : IsText l qs) (k : Nat) : IsText (l.drop (place qs k)) (qs.drop k) :=
  ⟨fun q hq => h.1 q (List.mem_of_mem_drop hq), text_drop h k⟩
end Go.Proofs.YtanimdajohpggaaDoor.Utf0
