/- A text in runes, and in chunks of 32 letters: plain. -/
import Derived.Test.YtanimdajohpggaaDoorUtf6
import Derived.Test.YtanimdajohpggaaDoorUtf3
import Derived.Laws.IdiomStrings
import Derived.Laws.RangeAny
namespace Go.Proofs.YtanimdajohpggaaDoor.Utf0
open Go.Utf
set_option linter.unusedVariables false
theorem bytesL_upto (t : ByteArray) (n : Nat) : bytesL (t.extract 0 n) = (bytesL t).take n := by
  unfold bytesL
  rw [ByteArray.data_extract, Array.toList_extract, ← List.map_take]
  congr 1
theorem bytesL_from' (t : ByteArray) (n : Nat) : bytesL (t.extract n t.size) = (bytesL t).drop n := by
  unfold bytesL
  rw [ByteArray.data_extract, Array.toList_extract, ← List.map_drop]
  congr 1
  rw [List.extract_eq_take_drop, List.take_of_length_le]
  rw [List.length_drop, Array.length_toList]
  exact Nat.le_refl _
theorem text_len {t : ByteArray} {qs : List Int} (h : IsText (bytesL t) qs) : qs.length ≤ t.size := by
  have := len_text qs
  rwa [← h.2, bytesL_size] at this
theorem runesFrom_text {s : ByteArray} {qs : List Int} (h : IsText (bytesL s) qs) : ∀ (bound k : Nat) (acc : Array Value), k ≤ qs.length → qs.length ≤ k + bound →
    Conv.runesFrom s bound (place qs k) acc = acc ++ ((qs.drop k).map rV).toArray
  | 0, k, acc, h1, h2 => by
    rw [List.drop_eq_nil_of_le (by omega)]
    simp [Conv.runesFrom]
  | bound + 1, k, acc, h1, h2 => by
    unfold Conv.runesFrom
    by_cases hk : k < qs.length
    · have ex : qs[k]? = some qs[k] := List.getElem?_eq_getElem hk
      obtain ⟨e1, e2⟩ := decode_at h ex
      have hx := h.1 _ (List.mem_of_getElem? ex)
      rw [if_pos e2, e1]
      simp only
      rw [← place_succ ex, runesFrom_text h bound (k + 1) _ (by omega) (by omega), List.drop_eq_getElem_cons hk]
      have : (Int.ofNat qs[k].toNat) = qs[k] := by have := hx.1; simp; omega
      rw [this]
      apply Array.ext'
      simp only [Array.toList_append, Array.toList_push, List.map_cons, List.append_assoc]
      rfl
    · obtain rfl : k = qs.length := by omega
      rw [if_neg (by rw [place_end h]; omega), List.drop_eq_nil_of_le (Nat.le_refl _)]
      simp
theorem runes_text {s : ByteArray} {qs : List Int} (h : IsText (bytesL s) qs) : Conv.runesFrom s s.size 0 #[] = (qs.map rV).toArray := by
  have := runesFrom_text h s.size 0 #[] (Nat.zero_le _) (by have := text_len h; omega)
  rw [place_zero] at this
  rw [this]
  simp
theorem place_ascii {qs : List Int} (h : (qs.flatMap ubytes).length = qs.length) : ∀ k, k ≤ qs.length → place qs k = k := by
  have hw : ∀ q ∈ qs, wid q = 1 := by
    induction qs with
    | nil => simp
    | cons a r ih =>
      have h1 := len_text r
      have h2 := wid_pos a
      rw [List.flatMap_cons, List.length_append, wid_len, List.length_cons] at h
      intro q hq
      rcases List.mem_cons.1 hq with rfl | hq
      · omega
      · exact ih (by omega) q hq
  intro k
  induction k with
  | zero => intro _; rfl
  | succ k ih =>
    intro hk
    have ex : qs[k]? = some qs[k] := List.getElem?_eq_getElem (by omega)
    rw [place_succ ex, ih (by omega), hw _ (List.mem_of_getElem? ex)]
/-- One byte a letter, or few bytes. -/
def Narrow (n m : Nat) : Prop := n = m ∨ m ≤ 24
theorem chunk_one {t : ByteArray} {ls : List Int} (h : IsText (bytesL t) ls) (hn : Narrow ls.length t.size) (hz : 32 < t.size) :
    IsText (bytesL (t.extract 0 32)) (ls.take 32) ∧ IsText (bytesL (t.extract 32 t.size)) (ls.drop 32) ∧ Narrow (ls.drop 32).length (t.extract 32 t.size).size := by
  have hl : ls.length = t.size := by rcases hn with h | h <;> omega
  have hf : (ls.flatMap ubytes).length = ls.length := by rw [← h.2, bytesL_size]; exact hl.symm
  have hp := place_ascii hf 32 (by omega)
  have h1 := text_tail h 32
  rw [hp] at h1
  refine ⟨⟨fun q hq => h.1 q (List.mem_of_mem_take hq), ?_⟩, by rw [bytesL_from']; exact h1, Or.inl ?_⟩
  · rw [bytesL_upto, h.2]
    conv => lhs; rw [← List.take_append_drop 32 ls, List.flatMap_append]
    have : ((ls.take 32).flatMap ubytes).length = 32 := hp
    rw [List.take_left' this]
  · rw [List.length_drop, hl, ByteArray.size_extract]
    omega
theorem chunk_all {t : ByteArray} {ls : List Int} (h : IsText (bytesL t) ls) (hz : t.size ≤ 32) :
    IsText (bytesL t) (ls.take 32) ∧ IsText (bytesL ByteArray.empty) (ls.drop 32) ∧ Narrow (ls.drop 32).length ByteArray.empty.size := by
  have h1 := text_len h
  rw [List.take_of_length_le (by omega), List.drop_eq_nil_of_le (by omega)]
  exact ⟨h, ⟨by simp, rfl⟩, Or.inr (by decide)⟩
/-- The bits of a letter, 32 places a word, so many words. -/
def wordsTo (qs : List Int) (c : Int) (m : Nat) : List Int := (List.range m).map fun k => (bitsOf c ((qs.drop (32 * k)).take 32) : Int)
theorem wordsTo_len (qs : List Int) (c : Int) (m : Nat) : (wordsTo qs c m).length = m := by simp [wordsTo]
theorem wordsTo_succ (qs : List Int) (c : Int) (m : Nat) : wordsTo qs c (m + 1) = wordsTo qs c m ++ [(bitsOf c ((qs.drop (32 * m)).take 32) : Int)] := by
  simp [wordsTo, List.range_succ]
theorem wordsTo_end {qs : List Int} {m : Nat} (c : Int) (h : qs.length ≤ 32 * m) : wordsTo qs c (m + 1) = wordsTo qs c m ++ [0] := by
  rw [wordsTo_succ, List.drop_eq_nil_of_le h]
  simp [bitsOf]
theorem wordsTo_at {qs : List Int} {c : Int} {m k : Nat} (h : k < m) : (wordsTo qs c m)[k]? = some (bitsOf c ((qs.drop (32 * k)).take 32) : Int) := by
  simp [wordsTo, h]
theorem word_bit (qs : List Int) (c : Int) (k j : Nat) (hj : j < 32) : (bitsOf c ((qs.drop (32 * k)).take 32)).testBit j = decide (qs[32 * k + j]? = some c) := by
  rw [bitsOf_test, List.getElem?_take_of_lt hj, List.getElem?_drop]
theorem word_lt (qs : List Int) (c : Int) (k : Nat) : bitsOf c ((qs.drop (32 * k)).take 32) < 4294967296 := by
  refine Nat.lt_of_lt_of_le (bitsOf_lt c _) ?_
  calc 2 ^ ((qs.drop (32 * k)).take 32).length ≤ 2 ^ 32 := Nat.pow_le_pow_right (by omega) (by rw [List.length_take]; omega)
    _ = 4294967296 := by decide
theorem ofInt_u32 (a : Nat) (ha : a < 4294967296) : (BitVec.ofInt 32 (a : Int)).toNat = a := by
  rw [BitVec.toNat_ofInt]; omega
theorem wrap_u32_in {n : Int} (h1 : 0 ≤ n) (h2 : n < 4294967296) : IntKind.u32.wrap n = n := by
  simp [IntKind.wrap, IntKind.bits, IntKind.signed]; omega
theorem u32_or (x y : Nat) (hx : x < 4294967296) (hy : y < 4294967296) : bits .or .u32 (x : Int) (y : Int) = ((x ||| y : Nat) : Int) := by
  show IntKind.u32.wrap ((BitVec.ofInt 32 (x : Int) ||| BitVec.ofInt 32 (y : Int)).toNat : Int) = _
  rw [BitVec.toNat_or, ofInt_u32 x hx, ofInt_u32 y hy]
  have : x ||| y < 2 ^ 32 := Nat.or_lt_two_pow hx hy
  exact wrap_u32_in (by omega) (by omega)
end Go.Proofs.YtanimdajohpggaaDoor.Utf0
