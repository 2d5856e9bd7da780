/- What promote does to a table, by indices. -/
import Derived.Test.YtanimdajohpggaaZzEntry
namespace Go.Proofs.Ytanimdajohpggaa.Node
open Go.ChangeShapes Go.WideShapes Go.ChangeAt Go.RowKit Go.Trav Go.Sort
set_option linter.unusedVariables false
/-- Which old place a place holds after the cell m behind st has been moved to st. -/
def rotIx (st m j : Nat) : Nat := if j < st then j else if j = st then st + m else if j ≤ st + m then j - 1 else j
theorem rotIx_inj {st m j j' : Nat} (h : rotIx st m j = rotIx st m j') : j = j' := by
  unfold rotIx at h
  split at h <;> split at h <;> (try split at h) <;> (try split at h) <;> (try split at h) <;> (try split at h) <;> omega
theorem swapL_at (tab : List RC) (a b j : Nat) (ha : a < tab.length) (hb : b < tab.length) (hab : a ≠ b) :
    (swapL tab a b)[j]? = tab[if j = b then a else if j = a then b else j]? := by
  unfold swapL
  by_cases h1 : j = b
  · subst h1
    rw [List.getElem?_set_self (by simpa using hb), if_pos rfl]
    simp [List.getElem?_eq_getElem ha]
  · rw [List.getElem?_set_ne (fun e => h1 e.symm), if_neg h1]
    by_cases h2 : j = a
    · subst h2
      rw [List.getElem?_set_self ha, if_pos rfl]
      simp [List.getElem?_eq_getElem hb]
    · rw [List.getElem?_set_ne (fun e => h2 e.symm), if_neg h2]
theorem bub_at (tab : List RC) (st m j : Nat) (h : st + m < tab.length) : (bub tab st m)[j]? = tab[rotIx st m j]? := by
  induction m generalizing tab with
  | zero =>
    have : rotIx st 0 j = j := by unfold rotIx; split <;> (try split) <;> (try split) <;> omega
    rw [this]; rfl
  | succ m ih =>
    rw [bub, ih _ (by rw [swapL_len]; omega), swapL_at _ _ _ _ (by omega) (by omega) (by omega)]
    congr 1
    unfold rotIx
    repeat' split
    all_goals omega
end Go.Proofs.Ytanimdajohpggaa.Node
