/- What can be reached in a table: plain. -/
import Derived.Test.YtanimdajohpggaaTable1
namespace Go.Proofs.Ytanimdajohpggaa.Table
open Go.ChangeShapes Go.WideShapes Go.ChangeAt Go.RowKit Go.Trav
set_option linter.unusedVariables false
/-- What can be reached from s. -/
inductive Reach (nxs : List (List Nat)) (s : Nat) : Nat → Prop
  | refl : Reach nxs s s
  | step (t u : Nat) (r : List Nat) : Reach nxs s t → nxs[t]? = some r → u ∈ r → Reach nxs s u
/-- What was seen so far, and the list of it. -/
structure Bfs (n s : Nat) (sn : List Bool) (ls : List Nat) : Prop where
  len : sn.length = n
  mem : s ∈ ls
  lt : ∀ x ∈ ls, x < n
  seen : ∀ x : Nat, sn[x]? = some true → x ∈ ls
  cnt : ls.length + sn.count false = n
theorem Bfs.put {n s u : Nat} {sn : List Bool} {ls : List Nat} (h : Bfs n s sn ls) (hu : sn[u]? = some false) : Bfs n s (sn.set u true) (ls ++ [u]) := by
  have hul := (List.getElem?_eq_some_iff.1 hu).1
  have hn := h.len
  refine ⟨by rw [List.length_set]; exact hn, List.mem_append_left _ h.mem, fun x hx => ?_, fun x hx => ?_, ?_⟩
  · rcases List.mem_append.1 hx with hx | hx
    · exact h.lt x hx
    · rw [List.mem_singleton] at hx
      omega
  · by_cases e : u = x
    · subst e
      simp
    · rw [List.getElem?_set_ne e] at hx
      exact List.mem_append_left _ (h.seen x hx)
  · have hc := h.cnt
    have hp : 0 < sn.count false := List.count_pos_iff.2 (List.mem_of_getElem? hu)
    have he : sn[u] = false := (List.getElem?_eq_some_iff.1 hu).2
    rw [List.length_append, List.count_set hul, he]
    simp
    omega
theorem Bfs.start {n s : Nat} (hs : s < n) : Bfs n s ((List.replicate n false).set s true) [s] := by
  refine ⟨by simp, by simp, fun x hx => by rw [List.mem_singleton.1 hx]; exact hs, fun x hx => ?_, ?_⟩
  · by_cases e : s = x
    · subst e
      simp
    · rw [List.getElem?_set_ne e] at hx
      have := List.mem_of_getElem? hx
      simp at this
  · rw [List.count_set (by simpa using hs)]
    simp
    omega
/-- The first i of the list, and the first c arcs of number i, are gone through. -/
def Through (nxs : List (List Nat)) (ls : List Nat) (i c : Nat) : Prop :=
  (∀ (j x : Nat) r u, j < i → ls[j]? = some x → nxs[x]? = some r → u ∈ r → u ∈ ls) ∧ ∀ (x : Nat) r u, ls[i]? = some x → nxs[x]? = some r → u ∈ r.take c → u ∈ ls
theorem Through.start (nxs : List (List Nat)) (ls : List Nat) : Through nxs ls 0 0 := ⟨fun j x r u h => by omega, fun x r u _ _ h => by simp at h⟩
theorem Through.next {nxs : List (List Nat)} {ls : List Nat} {i x : Nat} {r : List Nat} (h : Through nxs ls i r.length) (hx : ls[i]? = some x) (hr : nxs[x]? = some r) : Through nxs ls (i + 1) 0 := by
  refine ⟨fun j y r' u hj hy hr' hu => ?_, fun x r u _ _ h => by simp at h⟩
  by_cases e : j = i
  · subst e
    obtain rfl := Option.some.inj (hx.symm.trans hy)
    obtain rfl := Option.some.inj (hr.symm.trans hr')
    exact h.2 x r u hx hr (by rw [List.take_length]; exact hu)
  · exact h.1 j y r' u (by omega) hy hr' hu
theorem Through.arc {nxs : List (List Nat)} {ls : List Nat} {i x c u : Nat} {r : List Nat} (h : Through nxs ls i c) (hx : ls[i]? = some x) (hr : nxs[x]? = some r) (hu : r[c]? = some u) (hm : u ∈ ls) : Through nxs ls i (c + 1) := by
  refine ⟨h.1, fun y r' v hy hr' hv => ?_⟩
  obtain rfl := Option.some.inj (hx.symm.trans hy)
  obtain rfl := Option.some.inj (hr.symm.trans hr')
  rw [take_snoc' _ _ _ hu] at hv
  rcases List.mem_append.1 hv with hv | hv
  · exact h.2 x r v hx hr hv
  · rw [List.mem_singleton.1 hv]
    exact hm
theorem Through.more {nxs : List (List Nat)} {ls : List Nat} {i c u : Nat} (h : Through nxs ls i c) (hi : i < ls.length) : Through nxs (ls ++ [u]) i c := by
  refine ⟨fun j x r v hj hx hr hv => ?_, fun x r v hx hr hv => ?_⟩
  · rw [List.getElem?_append_left (by omega)] at hx
    exact List.mem_append_left _ (h.1 j x r v hj hx hr hv)
  · rw [List.getElem?_append_left hi] at hx
    exact List.mem_append_left _ (h.2 x r v hx hr hv)
/-- A No of the list 'can' is right. -/
def CanOk (nxs : List (List Nat)) (mts cans : List Bool) : Prop := ∀ s, cans[s]? = some false → ∀ t, Reach nxs s t → mts[t]? ≠ some true
theorem canOk_snoc {nxs : List (List Nat)} {mts cans : List Bool} {n : Nat} {sn : List Bool} {ls : List Nat} {b : Bool} (h : CanOk nxs mts cans) (hb : Bfs n cans.length sn ls) (ht : Through nxs ls ls.length 0) (hs : ∀ x ∈ ls.take ls.length, mts[x]? = some true → b = true) : CanOk nxs mts (cans ++ [b]) := by
  intro s hc t hr
  by_cases e : s < cans.length
  · rw [List.getElem?_append_left e] at hc
    exact h s hc t hr
  · obtain rfl : s = cans.length := by have := (List.getElem?_eq_some_iff.1 hc).1; simp at this; omega
    rw [List.getElem?_append_right (Nat.le_refl _), Nat.sub_self] at hc
    obtain rfl : b = false := Option.some.inj hc
    have hm : t ∈ ls := by
      induction hr with
      | refl => exact hb.mem
      | step t u r _ h2 h3 ih =>
        obtain ⟨j, hj, e⟩ := List.getElem_of_mem ih
        exact ht.1 j t r u hj (by rw [List.getElem?_eq_getElem hj, e]) h2 h3
    intro h4
    have := hs t (by rw [List.take_length]; exact hm) h4
    cases this
end Go.Proofs.Ytanimdajohpggaa.Table
