/- Each letter of a text once; the bytes of a letter by the model's own encoder: plain. -/
import Derived.Test.YtanimdajohpggaaDoorUtf5
namespace Go.Proofs.YtanimdajohpggaaDoor.Utf0
open Go.Utf
set_option linter.unusedVariables false
theorem bytesL_append (a b : ByteArray) : bytesL (a ++ b) = bytesL a ++ bytesL b := by
  unfold bytesL
  rw [show (a ++ b).data = a.data ++ b.data from ByteArray.data_append, Array.toList_append, List.map_append]
theorem bytesL_size (a : ByteArray) : (bytesL a).length = a.size := by
  unfold bytesL
  rw [List.length_map, Array.length_toList]
  rfl
theorem ofNat_int (n : Nat) (h : n < 256) : ((UInt8.ofNat n).toNat : Int) = (n : Int) := by
  rw [UInt8.toNat_ofNat', Nat.mod_eq_of_lt (by simpa using h)]
theorem let_valid {x : Int} (h : Let x) : Utf8.valid x = true := by
  unfold Let at h
  unfold Utf8.valid
  simp only [Bool.or_eq_true, Bool.and_eq_true, decide_eq_true_eq]
  omega
theorem bytesL_encode {x : Int} (h : Let x) : bytesL (Utf8.encode x) = ubytes x := by
  have hv := let_valid h
  unfold Let at h
  obtain ⟨n, rfl⟩ : ∃ n : Nat, x = n := ⟨x.toNat, by omega⟩
  unfold Utf8.encode
  simp only [hv, if_true, Int.toNat_natCast]
  unfold ubytes bytesL
  by_cases h1 : n < 128
  · rw [if_pos h1, if_pos (show (n : Int) ≤ 127 by omega)]
    simp only [List.map_cons, List.map_nil]
    rw [ofNat_int _ (by omega)]
  · rw [if_neg h1, if_neg (show ¬ (n : Int) ≤ 127 by omega)]
    by_cases h2 : n < 2048
    · rw [if_pos h2, if_pos (show (n : Int) ≤ 2047 by omega)]
      simp only [List.map_cons, List.map_nil]
      rw [ofNat_int _ (by omega), ofNat_int _ (by omega)]
      simp
    · rw [if_neg h2, if_neg (show ¬ (n : Int) ≤ 2047 by omega)]
      by_cases h3 : n < 65536
      · rw [if_pos h3, if_pos (show (n : Int) ≤ 65535 by omega)]
        simp only [List.map_cons, List.map_nil]
        rw [ofNat_int _ (by omega), ofNat_int _ (by omega), ofNat_int _ (by omega)]
        simp
      · rw [if_neg h3, if_neg (show ¬ (n : Int) ≤ 65535 by omega)]
        simp only [List.map_cons, List.map_nil]
        rw [ofNat_int _ (by omega), ofNat_int _ (by omega), ofNat_int _ (by omega), ofNat_int _ (by omega)]
        simp
/-- Each letter once, in the order of their first places. -/
def once (l : List Int) : List Int := l.foldl (fun a x => if a.contains x then a else a ++ [x]) []
theorem once_snoc (l : List Int) (x : Int) : once (l ++ [x]) = if (once l).contains x then once l else once l ++ [x] := by
  unfold once
  rw [List.foldl_append]
  rfl
theorem take_snoc1 {α : Type} (l : List α) (k : Nat) (x : α) (h : l[k]? = some x) : l.take (k + 1) = l.take k ++ [x] := by
  rw [List.take_add_one, h]
  rfl
theorem once_old {l : List Int} {k : Nat} {x : Int} (h : l[k]? = some x) (hc : (once (l.take k)).contains x = true) : once (l.take (k + 1)) = once (l.take k) := by
  rw [take_snoc1 l k x h, once_snoc, if_pos hc]
theorem once_new {l : List Int} {k : Nat} {x : Int} (h : l[k]? = some x) (hc : (once (l.take k)).contains x = false) : once (l.take (k + 1)) = once (l.take k) ++ [x] := by
  rw [take_snoc1 l k x h, once_snoc, if_neg (by rw [hc]; exact Bool.false_ne_true)]
theorem once_mem (l : List Int) : ∀ x, x ∈ once l ↔ x ∈ l := by
  suffices h : ∀ (l a : List Int) x, x ∈ l.foldl (fun a x => if a.contains x then a else a ++ [x]) a ↔ x ∈ a ∨ x ∈ l by
    intro x
    unfold once
    rw [h]
    simp
  intro l
  induction l with
  | nil => simp
  | cons y r ih =>
    intro a x
    rw [List.foldl_cons, ih]
    split
    · rename_i hc
      rw [List.contains_iff_mem] at hc
      constructor
      · rintro (h | h)
        · exact Or.inl h
        · exact Or.inr (List.mem_cons_of_mem _ h)
      · rintro (h | h)
        · exact Or.inl h
        · rcases List.mem_cons.1 h with rfl | h
          · exact Or.inl hc
          · exact Or.inr h
    · simp only [List.mem_append, List.mem_cons, List.not_mem_nil, or_false]
      constructor
      · rintro ((h | h) | h)
        · exact Or.inl h
        · exact Or.inr (Or.inl h)
        · exact Or.inr (Or.inr h)
      · rintro (h | h | h)
        · exact Or.inl (Or.inl h)
        · exact Or.inl (Or.inr h)
        · exact Or.inr h
theorem once_nodup (l : List Int) : (once l).Nodup := by
  suffices h : ∀ (l a : List Int), a.Nodup → (l.foldl (fun a x => if a.contains x then a else a ++ [x]) a).Nodup from h l [] List.nodup_nil
  intro l
  induction l with
  | nil => exact fun a h => h
  | cons y r ih =>
    intro a h
    rw [List.foldl_cons]
    refine ih _ ?_
    split
    · exact h
    · rename_i hc
      have hn : y ∉ a := fun hm => hc (List.contains_iff_mem.2 hm)
      refine List.nodup_append.2 ⟨h, by simp, fun u hu v hv => ?_⟩
      rw [List.mem_singleton] at hv
      rintro rfl
      exact hn (hv ▸ hu)
theorem once_len (l : List Int) (k : Nat) : (once (l.take k)).length ≤ k := by
  suffices h : ∀ (l a : List Int), (l.foldl (fun a x => if a.contains x then a else a ++ [x]) a).length ≤ a.length + l.length by
    have := h (l.take k) []
    unfold once
    simp only [List.length_nil, List.length_take] at this
    omega
  intro l
  induction l with
  | nil => intro a; simp
  | cons y r ih =>
    intro a
    rw [List.foldl_cons]
    refine Nat.le_trans (ih _) ?_
    split
    · simp only [List.length_cons]; omega
    · simp only [List.length_append, List.length_cons, List.length_nil]; omega
theorem text_snoc {r : ByteArray} {a : List Int} {x : Int} (h : IsText (bytesL r) a) (hx : Let x) : IsText (bytesL (r ++ Utf8.encode x)) (a ++ [x]) := by
  refine ⟨fun q hq => ?_, ?_⟩
  · rcases List.mem_append.1 hq with hq | hq
    · exact h.1 q hq
    · rw [List.mem_singleton] at hq
      exact hq ▸ hx
  · rw [bytesL_append, h.2, bytesL_encode hx]
    simp
end Go.Proofs.YtanimdajohpggaaDoor.Utf0
