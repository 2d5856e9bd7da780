/- spec.Letter: the letter with which bytes begin. -/
import Derived.Test.YtnpchkohfomagaaDoorRows
import Derived.Test.YtnpchkohfomagaaDoorLib
import Derived.Test.YtnpchkohfomagaaDoorSeqMath
import Derived.Deep.QuietTactic
import Derived.BigQuiet
import Derived.WalkLawsBesides
import Derived.WalkSpells
import Derived.Lib.QuietBelow
import Derived.Deep.RegionWith
namespace Go.Proofs.YtnpchkohfomagaaDoor.Utf0
open Go.ChangeShapes Go.WideShapes Go.ChangeAt Go.RowKit Go.Trav Go.Utf
set_option linter.unusedVariables false
set_option maxRecDepth 100000
def bI (x : Int) : Value := .int .u8 x
/-- How many bytes a letter has that begins with c, and what c says of it. -/
def wideP (c : Int) : Nat × Int := if c ≤ 127 then (1, c) else if 194 ≤ c ∧ c ≤ 223 then (2, c - 192) else if 224 ≤ c ∧ c ≤ 239 then (3, c - 224) else if 240 ≤ c ∧ c ≤ 244 then (4, c - 240) else (0, 0)
def tl (c : Int) : Prop := 128 ≤ c ∧ c ≤ 191
instance (c : Int) : Decidable (tl c) := inferInstanceAs (Decidable (_ ∧ _))
def acc (l : List Int) (r : Int) : Nat → Int
  | 0 => r
  | k + 1 => 64 * acc l r k + l[k + 1]?.getD 0 - 128
/-- l begins with the letter r, of k bytes; or with none. -/
def Begins (l : List Int) (r : Int) (k : Nat) : Prop := (k = 0 ∧ r = 0 ∧ ∀ x, Let x → ¬ ubytes x <+: l) ∨ (Let r ∧ k = wid r ∧ ubytes r <+: l)
theorem begins_acc {l : List Int} {x : Int} (hx : Let x) (h : ubytes x <+: l) : ∃ c, l[0]? = some c ∧ (wideP c).1 = wid x ∧ wid x ≤ l.length ∧ acc l (wideP c).2 (wid x - 1) = x ∧ ∀ j, 1 ≤ j → j < wid x → tl (l[j]?.getD 0) := by
  obtain ⟨t, rfl⟩ := h
  obtain ⟨h0, h9, hs⟩ := hx
  rcases wid_cases x with ⟨e1, a1⟩ | ⟨e1, a1, a2⟩ | ⟨e1, a1, a2, a3⟩ | ⟨e1, a1, a2, a3⟩
  · rw [bytes1 a1, e1]
    refine ⟨x, rfl, ?_, by simp, ?_, fun j h1 h2 => by omega⟩
    · unfold wideP; rw [if_pos a1]
    · unfold wideP; rw [if_pos a1]; rfl
  · rw [bytes2 a1 a2, e1]
    have e : wideP (192 + x / 64) = (2, x / 64) := by
      unfold wideP
      rw [if_neg (by omega), if_pos (by omega)]
      congr 1; omega
    refine ⟨192 + x / 64, rfl, by rw [e], by simp, ?_, fun j h1 h2 => ?_⟩
    · rw [e]
      show 64 * (x / 64) + (128 + x % 64) - 128 = x
      omega
    · obtain rfl : j = 1 := by omega
      show 128 ≤ 128 + x % 64 ∧ 128 + x % 64 ≤ 191
      omega
  · rw [bytes3 a1 a2 a3, e1]
    have e : wideP (224 + x / 4096) = (3, x / 4096) := by
      unfold wideP
      rw [if_neg (by omega), if_neg (by omega), if_pos (by omega)]
      congr 1; omega
    refine ⟨224 + x / 4096, rfl, by rw [e], by simp, ?_, fun j h1 h2 => ?_⟩
    · rw [e]
      show 64 * (64 * (x / 4096) + (128 + x / 64 % 64) - 128) + (128 + x % 64) - 128 = x
      omega
    · rcases (by omega : j = 1 ∨ j = 2) with rfl | rfl
      · show 128 ≤ 128 + x / 64 % 64 ∧ 128 + x / 64 % 64 ≤ 191
        omega
      · show 128 ≤ 128 + x % 64 ∧ 128 + x % 64 ≤ 191
        omega
  · rw [bytes4 a1 a2 a3, e1]
    have e : wideP (240 + x / 262144) = (4, x / 262144) := by
      unfold wideP
      rw [if_neg (by omega), if_neg (by omega), if_neg (by omega), if_pos (by omega)]
      congr 1; omega
    refine ⟨240 + x / 262144, rfl, by rw [e], by simp, ?_, fun j h1 h2 => ?_⟩
    · rw [e]
      show 64 * (64 * (64 * (x / 262144) + (128 + x / 4096 % 64) - 128) + (128 + x / 64 % 64) - 128) + (128 + x % 64) - 128 = x
      omega
    · rcases (by omega : j = 1 ∨ j = 2 ∨ j = 3) with rfl | rfl | rfl
      · show 128 ≤ 128 + x / 4096 % 64 ∧ 128 + x / 4096 % 64 ≤ 191
        omega
      · show 128 ≤ 128 + x / 64 % 64 ∧ 128 + x / 64 % 64 ≤ 191
        omega
      · show 128 ≤ 128 + x % 64 ∧ 128 + x % 64 ≤ 191
        omega
theorem acc_begins {l : List Int} {c r : Int} (hc : l[0]? = some c) (h0 : 0 ≤ c) (hn : (wideP c).1 ≤ l.length) (hr : r = acc l (wideP c).2 ((wideP c).1 - 1)) (hw : wid r = (wideP c).1) (ht : ∀ j, 1 ≤ j → j < (wideP c).1 → tl (l[j]?.getD 0)) : ubytes r <+: l := by
  have key : ∀ j, 1 ≤ j → j < (wideP c).1 → ∃ y, l[j]? = some y ∧ 128 ≤ y ∧ y ≤ 191 := fun j h1 h2 => by
    have h3 := ht j h1 h2
    have h4 : l[j]? = some l[j] := List.getElem?_eq_getElem (by omega)
    rw [h4] at h3
    exact ⟨_, h4, h3.1, h3.2⟩
  rcases wid_cases r with ⟨e1, a1⟩ | ⟨e1, a1, a2⟩ | ⟨e1, a1, a2, a3⟩ | ⟨e1, a1, a2, a3⟩
  all_goals
    rw [e1] at hw
    rw [← hw] at hr key
  · match l, hc with
    | c' :: t, hc =>
      obtain rfl : c' = c := by simpa using hc
      have : r = c' := by
        rw [hr]
        show (wideP c').2 = c'
        unfold wideP at hw ⊢
        split at hw
        · rw [if_pos (by assumption)]
        · split at hw
          · simp at hw
          · split at hw
            · simp at hw
            · split at hw <;> simp at hw
      rw [bytes1 a1, this]
      exact ⟨t, rfl⟩
  · obtain ⟨y1, l1, b1⟩ := key 1 (by omega) (by omega)
    match l, hc, l1 with
    | c' :: y :: t, hc, l1 =>
      obtain rfl : c' = c := by simpa using hc
      obtain rfl : y = y1 := by simpa using l1
      have hr' : r = 64 * (wideP c').2 + y - 128 := hr
      have : (wideP c').2 = c' - 192 := by
        unfold wideP at hw ⊢
        split at hw
        · simp at hw
        · split at hw
          · rw [if_neg (by assumption), if_pos (by assumption)]
          · split at hw
            · simp at hw
            · split at hw <;> simp at hw
      rw [bytes2 a1 a2]
      refine ⟨t, ?_⟩
      simp only [List.cons_append, List.nil_append, List.cons.injEq, and_true]
      omega
  · obtain ⟨y1, l1, b1⟩ := key 1 (by omega) (by omega)
    obtain ⟨y2, l2, b2⟩ := key 2 (by omega) (by omega)
    match l, hc, l1, l2 with
    | c' :: y :: z :: t, hc, l1, l2 =>
      obtain rfl : c' = c := by simpa using hc
      obtain rfl : y = y1 := by simpa using l1
      obtain rfl : z = y2 := by simpa using l2
      have hr' : r = 64 * (64 * (wideP c').2 + y - 128) + z - 128 := hr
      have : (wideP c').2 = c' - 224 := by
        unfold wideP at hw ⊢
        split at hw
        · simp at hw
        · split at hw
          · simp at hw
          · split at hw
            · rw [if_neg (by assumption), if_neg (by assumption), if_pos (by assumption)]
            · split at hw <;> simp at hw
      rw [bytes3 a1 a2 a3]
      refine ⟨t, ?_⟩
      simp only [List.cons_append, List.nil_append, List.cons.injEq, and_true]
      omega
  · obtain ⟨y1, l1, b1⟩ := key 1 (by omega) (by omega)
    obtain ⟨y2, l2, b2⟩ := key 2 (by omega) (by omega)
    obtain ⟨y3, l3, b3⟩ := key 3 (by omega) (by omega)
    match l, hc, l1, l2, l3 with
    | c' :: y :: z :: u :: t, hc, l1, l2, l3 =>
      obtain rfl : c' = c := by simpa using hc
      obtain rfl : y = y1 := by simpa using l1
      obtain rfl : z = y2 := by simpa using l2
      obtain rfl : u = y3 := by simpa using l3
      have hr' : r = 64 * (64 * (64 * (wideP c').2 + y - 128) + z - 128) + u - 128 := hr
      have : (wideP c').2 = c' - 240 := by
        unfold wideP at hw ⊢
        split at hw
        · simp at hw
        · split at hw
          · simp at hw
          · split at hw
            · simp at hw
            · split at hw
              · rw [if_neg (by assumption), if_neg (by assumption), if_neg (by assumption), if_pos (by assumption)]
              · simp at hw
      rw [bytes4 a1 a2 a3]
      refine ⟨t, ?_⟩
      simp only [List.cons_append, List.nil_append, List.cons.injEq, and_true]
      omega
end Go.Proofs.YtnpchkohfomagaaDoor.Utf0
