/- What the encoder writes is what the decoder reads: plain. -/
import Derived.Test.YtkbonmjbfpdchaaDoorDec0
import Derived.Test.YtkbonmjbfpdchaaDoorDec4
import Derived.Test.YtkbonmjbfpdchaaDoorDec5
namespace Go.Proofs.YtkbonmjbfpdchaaDoor.Buf
open Go.Pk Go.Proofs.YtkbonmjbfpdchaaDoor.Common Go.Dec Go.Proofs.YtkbonmjbfpdchaaDoor.Dec
set_option linter.unusedVariables false
set_option linter.unusedSimpArgs false
theorem far_eq (s t : Nat) : far s t = delta s t := rfl
theorem slc_in {D : List Nat} {a m b n : Nat} (h : b + n ≤ m) : slc (slc D a m) b n = slc D (a + b) n := by
  apply List.ext_getElem?
  intro k
  by_cases hk : k < n
  · rw [slc_at hk, slc_at (by omega), slc_at hk, Nat.add_assoc]
  · simp only [slc, List.getElem?_take, hk, if_false]
theorem rev_at {α : Type} {l : List α} {i : Nat} {x : α} (h : l[i]? = some x) : l.reverse[l.length - 1 - i]? = some x := by
  have hl := (List.getElem?_eq_some_iff.1 h).1
  rw [List.getElem?_reverse (by omega)]
  rw [show l.length - 1 - (l.length - 1 - i) = i by omega]
  exact h
theorem says_many {D : List Nat} {top start ts os tt e : Nat} {f : Bool} {fo : Nat} {l : List (Nat × Nat × Nat)} (h : ML D top start ts os tt e f fo l) (hn : l.length ≤ 256) (hin : ∀ a ∈ l, a.1 < 256) (hlo : ∀ a ∈ l, a.2.2 = 0 ∨ a.2.2 < start) (hf : f = false → fo = 0) (hup : l.Pairwise fun x y => x.1 < y.1) :
    SaysM D start l.length ts os f fo l := by
  have eob : obOf start os f = start + (if f then os else 0) := rfl
  have edb : dbOf start l.length os f = start + (if f then os else 0) + l.length * os := rfl
  have etb : tbOf start l.length ts os f = start + (if f then os else 0) + l.length * os + l.length * ts := rfl
  refine ⟨rfl, hn, fun i x hx => ?_, fun i x hx => ?_, fun i x hx => ?_, h.fins, h.ts8, h.os8, fun x hx => ⟨h.dl x hx, h.ol x hx, hin x hx, hlo x hx⟩, h.fl, hf, hup⟩
  · have hl := (List.getElem?_eq_some_iff.1 hx).1
    rw [etb, ← slc_at (n := l.length) (k := l.length - 1 - i) (by omega), h.keys]
    simp only [keysB, List.getElem?_map, rev_at hx]
    rfl
  · have hl := (List.getElem?_eq_some_iff.1 hx).1
    have h1 := flat_slc (fun a : Nat × Nat × Nat => packed (delta start a.2.2) ts) ts l.reverse (fun a _ => packed_len _ _) _ _ (rev_at hx)
    rw [← h.dests, slc_in (by have := Nat.mul_le_mul_right ts (show l.length - 1 - i + 1 ≤ l.length by omega); rw [Nat.add_mul, Nat.one_mul] at this; exact this)] at h1
    rw [edb]
    exact h1
  · have hl := (List.getElem?_eq_some_iff.1 hx).1
    have h1 := flat_slc (fun a : Nat × Nat × Nat => packed a.2.1 os) os l.reverse (fun a _ => packed_len _ _) _ _ (rev_at hx)
    rw [← h.outs, slc_in (by have := Nat.mul_le_mul_right os (show l.length - 1 - i + 1 ≤ l.length by omega); rw [Nat.add_mul, Nat.one_mul] at this; exact this)] at h1
    rw [eob]
    exact h1
theorem mb_many {D : List Nat} {top start ts os tt e : Nat} {f : Bool} {fo : Nat} {l : List (Nat × Nat × Nat)} (h : ML D top start ts os tt e f fo l) (hn : l.length ≤ 256) : MB D top (tt + 1) start l.length ts os f := by
  have etb : tbOf start l.length ts os f = start + (if f then os else 0) + l.length * os + l.length * ts := rfl
  refine ⟨h.topv, fun hz => ?_, fun hz h63 => ?_, by rw [etb, h.ttEq], ?_, hn, h.ts8, h.os8⟩
  · have hnb : numB l.length = 0 := by unfold numB; split <;> omega
    rcases h.e01 with ⟨e1, _⟩ | ⟨e1, e2, e3⟩
    · exact ⟨by rw [h.topEq, e1], h.exv e1⟩
    · omega
  · have hnb : numB l.length = l.length := by unfold numB; rw [if_pos h63]
    rcases h.e01 with ⟨e1, e2⟩ | ⟨e1, e2, e3⟩
    · omega
    · rw [h.topEq, e1]
  · have := h.szv
    rwa [h.ttEq, ← etb] at this
theorem sb_one {D : List Nat} {top start b1 : Nat} {nx : Bool} {ts os : Nat} {x : Nat × Nat × Nat} (h : SL D top start b1 nx ts os x) (hin : x.1 < 256) (hlo : x.2.2 = 0 ∨ x.2.2 < start) : SB D top start b1 nx ts os x :=
  ⟨h.topEq, h.topv, h.unc, h.nxt, h.oth, h.ts8, h.os8, h.dl, h.ol, hin, hlo⟩
/-- A state that lies so is decoded, and says what it is. -/
theorem dec_of_lay {D : List Nat} {top start : Nat} {f : Bool} {fo : Nat} {l : List (Nat × Nat × Nat)} (h : Lay D top start f fo l) (hn : l.length ≤ 256) (hin : ∀ a ∈ l, a.1 < 256) (hlo : ∀ a ∈ l, a.2.2 = 0 ∨ a.2.2 < start) (hf : f = false → fo = 0) (hup : l.Pairwise fun x y => x.1 < y.1) :
    ∃ d, DecOk D top d ∧ Says D d f fo l := by
  cases h with
  | one b1 nx ts os x h =>
    have h1 := sb_one h (hin x (by simp)) (hlo x (by simp))
    have hc := code_le x.1
    exact ⟨_, .single b1 start ts os nx x h1, .single _ _ _ _ _ _ x h.topv (by omega) (by cases nx <;> simp <;> omega) (hin x (by simp))⟩
  | many ts os tt e f fo l h =>
    have h1 := mb_many h hn
    have h2 := says_many h hn hin hlo hf hup
    have hnb : numB l.length ≤ 63 := by unfold numB; split <;> omega
    refine ⟨_, .multi (tt + 1) start l.length ts os _ h1, .multi _ _ _ _ _ _ _ _ _ _ h.topv (by split <;> omega) (fun _ => rfl) h2 ?_⟩
    have := (List.getElem?_eq_some_iff.1 h1.szs).1
    omega
end Go.Proofs.YtkbonmjbfpdchaaDoor.Buf
