/- Where the parts of an encoded state lie: plain. -/
import Derived.Test.YtkbonmjbfpdchaaDoorEncAll
import Derived.Test.YtkbonmjbfpdchaaDoorDecP
namespace Go.Proofs.YtkbonmjbfpdchaaDoor.Buf
open Go.Pk Go.Proofs.YtkbonmjbfpdchaaDoor.Common
open Go.Dec (slc)
set_option linter.unusedVariables false
set_option linter.unusedSimpArgs false
theorem slc_of {D p x q : List Nat} {a n : Nat} (h : D = p ++ (x ++ q)) (ha : p.length = a) (hn : x.length = n) : slc D a n = x := by
  subst ha hn
  rw [slc, h, List.drop_left, List.take_left]
theorem at_of {D p q : List Nat} {x a : Nat} (h : D = p ++ (x :: q)) (ha : p.length = a) : D[a]? = some x := by
  subst ha
  rw [h]
  simp
theorem flat_len {α : Type} (g : α → List Nat) (s : Nat) (L : List α) (h : ∀ a ∈ L, (g a).length = s) : (L.flatMap g).length = L.length * s := by
  induction L with
  | nil => simp
  | cons a r ih =>
    rw [List.flatMap_cons, List.length_append, h a (by simp), ih (fun b hb => h b (by simp [hb])), List.length_cons, Nat.succ_mul, Nat.add_comm]
theorem flat_slc {α : Type} (g : α → List Nat) (s : Nat) : ∀ (L : List α) (h : ∀ a ∈ L, (g a).length = s) (i : Nat) (x : α), L[i]? = some x → slc (L.flatMap g) (i * s) s = g x
  | [], _, i, x, hx => by simp at hx
  | a :: r, h, 0, x, hx => by
    simp only [List.getElem?_cons_zero, Option.some.injEq] at hx
    subst hx
    refine slc_of (p := []) (q := r.flatMap g) (by simp) (by simp) (h a (by simp))
  | a :: r, h, i + 1, x, hx => by
    rw [List.getElem?_cons_succ] at hx
    have ih := flat_slc g s r (fun b hb => h b (by simp [hb])) i x hx
    have e : (g a ++ r.flatMap g).drop ((i + 1) * s) = (r.flatMap g).drop (i * s) := by
      rw [List.drop_append, List.drop_of_length_le (by rw [h a (by simp), Nat.succ_mul]; omega), List.nil_append, h a (by simp), Nat.succ_mul, Nat.add_sub_cancel]
    rw [slc, List.flatMap_cons, e]
    exact ih
theorem packed_zero (v : Nat) : packed v 0 = [] := rfl
/-- Where the parts of a state lie that is written as one of many transitions. -/
structure ML (D : List Nat) (top start ts os tt e : Nat) (f : Bool) (fo : Nat) (l : List NA) : Prop where
  topEq : top = tt + 1 + e
  e01 : (e = 1 ∧ numB l.length = 0) ∨ (e = 0 ∧ numB l.length = l.length ∧ 0 < l.length)
  ttEq : tt = start + (if f then os else 0) + l.length * os + l.length * ts + l.length
  topv : D[top]? = some (numB l.length + (if f then 64 else 0))
  exv : e = 1 → D[tt + 1]? = some (if l.length = 256 then 1 else l.length)
  szv : D[tt]? = some (ts * 16 + os)
  keys : slc D (start + (if f then os else 0) + l.length * os + l.length * ts) l.length = keysB l
  dests : slc D (start + (if f then os else 0) + l.length * os) (l.length * ts) = l.reverse.flatMap fun a => packed (delta start a.2.2) ts
  outs : slc D (start + (if f then os else 0)) (l.length * os) = l.reverse.flatMap fun a => packed a.2.1 os
  fins : f = true → slc D start os = packed fo os
  ts8 : ts ≤ 8
  os8 : os ≤ 8
  dl : ∀ a ∈ l, delta start a.2.2 < 256 ^ ts
  ol : ∀ a ∈ l, a.2.1 < 256 ^ os
  fl : fo < 256 ^ os
theorem foldl_maxN_ge {g : NA → Nat} : ∀ (l : List NA) (m : Nat), m ≤ l.foldl (fun m a => maxN m (g a)) m ∧ ∀ a ∈ l, g a ≤ l.foldl (fun m a => maxN m (g a)) m
  | [], m => ⟨Nat.le_refl _, fun a h => by simp at h⟩
  | b :: r, m => by
    obtain ⟨h1, h2⟩ := foldl_maxN_ge (g := g) r (maxN m (g b))
    have h3 : m ≤ maxN m (g b) ∧ g b ≤ maxN m (g b) := by unfold maxN; split <;> omega
    rw [List.foldl_cons]
    refine ⟨by omega, fun a ha => ?_⟩
    rcases List.mem_cons.1 ha with rfl | ha
    · omega
    · exact h2 a ha
theorem far_of {start : Nat} {l : List NA} {a : NA} (ha : a ∈ l) (hs : start < 18446744073709551616) : delta start a.2.2 < 256 ^ farL start l := by
  have h1 : delta start a.2.2 < 18446744073709551616 := by unfold delta; split <;> omega
  exact Nat.lt_of_lt_of_le (lt_size h1) (Nat.pow_le_pow_right (by omega) ((foldl_maxN_ge (g := fun a => size (delta start a.2.2)) l 0).2 a ha))
theorem anyL_false {fo : Nat} {l : List NA} (h : anyL fo l = false) : fo = 0 ∧ ∀ a ∈ l, a.2.1 = 0 := by
  unfold anyL at h
  simp at h
  refine ⟨h.1, fun a ha => ?_⟩
  obtain ⟨x, y, z⟩ := a
  exact h.2 x y z ha
theorem out_of {fo : Nat} {l : List NA} {a : NA} (ha : a ∈ l) (hs : a.2.1 < 18446744073709551616) : a.2.1 < 256 ^ outP fo l := by
  unfold outP
  cases h : anyL fo l with
  | true => exact Nat.lt_of_lt_of_le (lt_size hs) (Nat.pow_le_pow_right (by omega) ((foldl_maxN_ge (g := fun a => size a.2.1) l (size fo)).2 a ha))
  | false => rw [(anyL_false h).2 a ha]; simp
theorem fo_of {fo : Nat} {l : List NA} (hs : fo < 18446744073709551616) : fo < 256 ^ outP fo l := by
  unfold outP
  cases h : anyL fo l with
  | true => exact Nat.lt_of_lt_of_le (lt_size hs) (Nat.pow_le_pow_right (by omega) (foldl_maxN_ge (g := fun a => size a.2.1) l (size fo)).1)
  | false => rw [(anyL_false h).1]; simp
theorem outsB_eq (f : Bool) (fo : Nat) (l : List NA) : outsB f fo l = (if f then packed fo (outP fo l) else []) ++ l.reverse.flatMap (fun a => packed a.2.1 (outP fo l)) := by
  unfold outsB outP
  cases h : anyL fo l with
  | true => rfl
  | false =>
    have e : (l.reverse.flatMap fun a : NA => packed a.2.1 0) = [] := by
      rw [List.flatMap_eq_nil_iff]
      exact fun a _ => rfl
    simp only [Bool.false_eq_true, if_false]
    rw [e]
    cases f <;> rfl
theorem outP_le (fo : Nat) (l : List NA) : outP fo l ≤ 8 := by unfold outP; split; exact outL_le fo l; omega
theorem ml_of (p q : List Nat) (f : Bool) (fo : Nat) (l : List NA) (hl : l.length ≤ 256) (hs : p.length < 18446744073709551616) (hfo : fo < 18446744073709551616) (ho : ∀ a ∈ l, a.2.1 < 18446744073709551616) :
    ∃ ts os tt e, ML (p ++ (manyB p.length f fo l ++ q)) (p.length + (manyB p.length f fo l).length - 1) p.length ts os tt e f fo l := by
  obtain ⟨ts, hts⟩ : ∃ ts, ts = farL p.length l := ⟨_, rfl⟩
  obtain ⟨os, hos⟩ : ∃ os, os = outP fo l := ⟨_, rfl⟩
  obtain ⟨A, hA⟩ : ∃ A, A = (if f then packed fo os else []) := ⟨_, rfl⟩
  obtain ⟨B, hB⟩ : ∃ B, B = l.reverse.flatMap (fun a => packed a.2.1 os) := ⟨_, rfl⟩
  obtain ⟨C, hC⟩ : ∃ C, C = l.reverse.flatMap (fun a => packed (delta p.length a.2.2) ts) := ⟨_, rfl⟩
  have lA : A.length = if f then os else 0 := by rw [hA]; cases f <;> simp [packed_len]
  have lB : B.length = l.length * os := by rw [hB, flat_len _ os _ (fun a _ => packed_len _ _), List.length_reverse]
  have lC : C.length = l.length * ts := by rw [hC, flat_len _ ts _ (fun a _ => packed_len _ _), List.length_reverse]
  have lK : (keysB l).length = l.length := by simp [keysB]
  have hM : manyB p.length f fo l = A ++ (B ++ (C ++ (keysB l ++ ((ts * 16 + os) :: (extraB l.length ++ [numB l.length + (if f then 64 else 0)]))))) := by
    unfold manyB destsB
    rw [outsB_eq, ← hos, ← hts, ← hA, ← hB, ← hC]
    simp only [List.append_assoc, List.cons_append, List.nil_append, List.singleton_append]
  obtain ⟨e, he, hE⟩ : ∃ e, ((e = 1 ∧ numB l.length = 0) ∨ (e = 0 ∧ numB l.length = l.length ∧ 0 < l.length)) ∧ (extraB l.length).length = e := by
    unfold extraB numB
    by_cases h : l.length ≤ 63
    · rw [if_pos h]
      by_cases h0 : l.length = 0
      · rw [if_pos h0]; exact ⟨1, Or.inl ⟨rfl, h0⟩, by rw [if_neg (by omega)]; rfl⟩
      · rw [if_neg h0]; exact ⟨0, Or.inr ⟨rfl, rfl, by omega⟩, rfl⟩
    · rw [if_neg h, if_pos rfl]
      exact ⟨1, Or.inl ⟨rfl, rfl⟩, by split <;> rfl⟩
  obtain ⟨tt, htt⟩ : ∃ tt, tt = p.length + (if f then os else 0) + l.length * os + l.length * ts + l.length := ⟨_, rfl⟩
  have hlen : (manyB p.length f fo l).length = (if f then os else 0) + l.length * os + l.length * ts + l.length + 1 + e + 1 := by
    rw [hM]
    simp only [List.length_append, List.length_cons, List.length_nil, lA, lB, lC, lK, hE]
    omega
  refine ⟨ts, os, tt, e, ?_⟩
  rw [hlen]
  have htop : p.length + ((if f then os else 0) + l.length * os + l.length * ts + l.length + 1 + e + 1) - 1 = tt + 1 + e := by omega
  rw [htop, hM]
  refine ⟨rfl, he, htt, ?_, fun h => ?_, ?_, ?_, ?_, ?_, fun h => ?_, by rw [hts]; exact farL_le _ _, by rw [hos]; exact outP_le _ _, fun a ha => by rw [hts]; exact far_of ha hs, fun a ha => by rw [hos]; exact out_of ha (ho a ha), by rw [hos]; exact fo_of hfo⟩
  · refine at_of (p := p ++ (A ++ (B ++ (C ++ (keysB l ++ ((ts * 16 + os) :: extraB l.length)))))) (q := q) (by simp) ?_
    simp only [List.length_append, List.length_cons, lA, lB, lC, lK, hE]
    omega
  · have h0 : numB l.length = 0 := by omega
    have hx : extraB l.length = [if l.length = 256 then 1 else l.length] := by
      unfold extraB
      rw [if_pos h0]
      split
      · rfl
      · rw [Nat.mod_eq_of_lt (by omega)]
    rw [hx]
    refine at_of (p := p ++ (A ++ (B ++ (C ++ (keysB l ++ [ts * 16 + os]))))) (q := [numB l.length + (if f then 64 else 0)] ++ q) (by simp) ?_
    simp only [List.length_append, List.length_cons, List.length_nil, lA, lB, lC, lK]
    omega
  · refine at_of (p := p ++ (A ++ (B ++ (C ++ keysB l)))) (q := extraB l.length ++ [numB l.length + (if f then 64 else 0)] ++ q) (by simp) ?_
    simp only [List.length_append, lA, lB, lC, lK]
    omega
  · refine slc_of (p := p ++ (A ++ (B ++ C))) (q := (ts * 16 + os) :: (extraB l.length ++ [numB l.length + (if f then 64 else 0)] ++ q)) (by simp) ?_ lK
    simp only [List.length_append, lA, lB, lC]
    omega
  · rw [← hC]
    refine slc_of (p := p ++ (A ++ B)) (q := keysB l ++ ((ts * 16 + os) :: (extraB l.length ++ [numB l.length + (if f then 64 else 0)] ++ q))) (by simp) ?_ lC
    simp only [List.length_append, lA, lB]
    omega
  · rw [← hB]
    refine slc_of (p := p ++ A) (q := C ++ (keysB l ++ ((ts * 16 + os) :: (extraB l.length ++ [numB l.length + (if f then 64 else 0)] ++ q)))) (by simp) ?_ lB
    simp only [List.length_append, lA]
  · subst h
    rw [if_pos rfl] at hA
    rw [← hA]
    exact slc_of (p := p) (q := B ++ (C ++ (keysB l ++ ((ts * 16 + os) :: (extraB l.length ++ [numB l.length + (if true = true then 64 else 0)] ++ q))))) (by simp) rfl (by rw [lA]; rfl)
/-- Where the parts of a state lie that is written as one of one transition. -/
structure SL (D : List Nat) (top start b1 : Nat) (nx : Bool) (ts os : Nat) (x : NA) : Prop where
  topEq : top = b1 + (if code x.1 = 0 then 1 else 0)
  topv : D[top]? = some (128 + (if nx then 64 else 0) + code x.1)
  unc : code x.1 = 0 → D[b1]? = some x.1
  nxt : nx = true → start = b1 ∧ x.2.2 + 1 = start ∧ x.2.1 = 0
  oth : nx = false → b1 = start + os + ts + 1 ∧ D[start + os + ts]? = some (ts * 16 + os) ∧ slc D (start + os) ts = packed (delta start x.2.2) ts ∧ slc D start os = packed x.2.1 os
  ts8 : ts ≤ 8
  os8 : os ≤ 8
  dl : delta start x.2.2 < 256 ^ ts
  ol : x.2.1 < 256 ^ os
theorem fin_at (P q : List Nat) (nx : Bool) (x : NA) (b1 : Nat) (h : P.length = b1) : (P ++ (finB (if nx then 64 else 0) x.1 ++ q))[b1 + (if code x.1 = 0 then 1 else 0)]? = some (128 + (if nx then 64 else 0) + code x.1) ∧ (code x.1 = 0 → (P ++ (finB (if nx then 64 else 0) x.1 ++ q))[b1]? = some x.1) := by
  unfold finB
  by_cases hc : code x.1 = 0
  · rw [if_pos hc, if_pos hc]
    exact ⟨at_of (p := P ++ [x.1]) (q := q) (by simp) (by simp [h]), fun _ => at_of (p := P) (q := [128 + (if nx then 64 else 0) + code x.1] ++ q) (by simp) h⟩
  · rw [if_neg hc, if_neg hc]
    exact ⟨at_of (p := P) (q := q) (by simp) (by simp [h]), fun h0 => absurd h0 hc⟩
theorem finB_len' (nx b : Nat) : (finB nx b).length = 1 + (if code b = 0 then 1 else 0) := by unfold finB; split <;> simp
theorem sl_next (p q : List Nat) (x : NA) (h1 : x.2.1 = 0) (h2 : x.2.2 + 1 = p.length) (hs : p.length < 18446744073709551616) :
    ∃ b1, SL (p ++ (finB 64 x.1 ++ q)) (p.length + (finB 64 x.1).length - 1) p.length b1 true 8 0 x := by
  obtain ⟨f1, f2⟩ := fin_at p q true x p.length rfl
  have e : p.length + (finB 64 x.1).length - 1 = p.length + (if code x.1 = 0 then 1 else 0) := by rw [finB_len']; omega
  rw [e]
  refine ⟨p.length, rfl, f1, f2, fun _ => ⟨rfl, h2, h1⟩, (fun h => by cases h), by omega, by omega, ?_, by rw [h1]; simp⟩
  have : delta p.length x.2.2 ≤ p.length := by unfold delta; split <;> omega
  simp only [Nat.reducePow]
  omega
theorem sl_one (p q : List Nat) (x : NA) (hs : p.length < 18446744073709551616) (ho : x.2.1 < 18446744073709551616) :
    ∃ b1 ts os, SL (p ++ (oneB p.length x ++ q)) (p.length + (oneB p.length x).length - 1) p.length b1 false ts os x := by
  obtain ⟨ts, hts⟩ : ∃ ts, ts = size (delta p.length x.2.2) := ⟨_, rfl⟩
  obtain ⟨os, hos⟩ : ∃ os, os = if x.2.1 = 0 then 0 else size x.2.1 := ⟨_, rfl⟩
  have hO : (if x.2.1 = 0 then [] else packed x.2.1 (size x.2.1)) = packed x.2.1 os := by
    rw [hos]
    split <;> rfl
  have hM : oneB p.length x = packed x.2.1 os ++ (packed (delta p.length x.2.2) ts ++ ((ts * 16 + os) :: finB 0 x.1)) := by
    unfold oneB
    rw [hO, ← hts, ← hos]
    simp only [List.append_assoc, List.singleton_append]
  have e : p.length + (oneB p.length x).length - 1 = p.length + os + ts + 1 + (if code x.1 = 0 then 1 else 0) := by
    rw [hM]
    simp only [List.length_append, List.length_cons, packed_len, finB_len']
    omega
  rw [e, hM]
  obtain ⟨f1, f2⟩ := fin_at (p ++ (packed x.2.1 os ++ (packed (delta p.length x.2.2) ts ++ [ts * 16 + os]))) q false x (p.length + os + ts + 1) (by simp only [List.length_append, List.length_cons, List.length_nil, packed_len]; omega)
  have e2 : p ++ (packed x.2.1 os ++ (packed (delta p.length x.2.2) ts ++ [ts * 16 + os])) ++ (finB (if false = true then 64 else 0) x.1 ++ q) = p ++ (packed x.2.1 os ++ (packed (delta p.length x.2.2) ts ++ ((ts * 16 + os) :: finB 0 x.1)) ++ q) := by simp
  rw [e2] at f1 f2
  refine ⟨p.length + os + ts + 1, ts, os, rfl, f1, f2, (fun h => by cases h), fun _ => ⟨rfl, ?_, ?_, ?_⟩, by rw [hts]; exact (size_bd _).2, ?_, ?_, ?_⟩
  · refine at_of (p := p ++ (packed x.2.1 os ++ packed (delta p.length x.2.2) ts)) (q := finB 0 x.1 ++ q) (by simp) ?_
    simp only [List.length_append, packed_len]
    omega
  · refine slc_of (p := p ++ packed x.2.1 os) (q := (ts * 16 + os) :: (finB 0 x.1 ++ q)) (by simp) ?_ (packed_len _ _)
    simp only [List.length_append, packed_len]
  · exact slc_of (p := p) (q := packed (delta p.length x.2.2) ts ++ ((ts * 16 + os) :: (finB 0 x.1 ++ q))) (by simp) rfl (packed_len _ _)
  · rw [hos]; split
    · omega
    · exact (size_bd _).2
  · rw [hts]
    exact lt_size (by unfold delta; split <;> omega)
  · rw [hos]
    split
    · next h => rw [h]; simp
    · exact lt_size ho
/-- A state lies in D, its last byte at top, start bytes ahead of it. -/
inductive Lay (D : List Nat) (top start : Nat) : Bool → Nat → List NA → Prop
  | one (b1 : Nat) (nx : Bool) (ts os : Nat) (x : NA) (h : SL D top start b1 nx ts os x) : Lay D top start false 0 [x]
  | many (ts os tt e : Nat) (f : Bool) (fo : Nat) (l : List NA) (h : ML D top start ts os tt e f fo l) : Lay D top start f fo l
theorem lay_of (p q : List Nat) (last : Nat) (f : Bool) (fo : Nat) (l : List NA) (hl : l.length ≤ 256) (hs : p.length < 18446744073709551616) (hfo : fo < 18446744073709551616) (ho : ∀ a ∈ l, a.2.1 < 18446744073709551616)
    (h0 : l.length = 0 → ¬ (f = true ∧ fo = 0)) (hff : f = false → fo = 0) (hla : ∀ a ∈ l, a.2.2 = last → last + 1 = p.length) :
    Lay (p ++ (encB p.length last f fo l ++ q)) (p.length + (encB p.length last f fo l).length - 1) p.length f fo l := by
  have many : Lay (p ++ (manyB p.length f fo l ++ q)) (p.length + (manyB p.length f fo l).length - 1) p.length f fo l := by
    obtain ⟨ts, os, tt, e, h⟩ := ml_of p q f fo l hl hs hfo ho
    exact .many _ _ _ _ _ _ _ h
  match l, hl, ho, h0, hla, many with
  | [], _, _, h0, _, many =>
    unfold encB
    rw [if_neg (h0 rfl)]
    exact many
  | [a], _, ho, _, hla, many =>
    unfold encB
    cases f with
    | true => simpa using many
    | false =>
      obtain rfl := hff rfl
      simp only [Bool.false_eq_true, if_false]
      split
      · next h =>
        obtain ⟨b1, hh⟩ := sl_next p q a h.1 (by have := hla a (by simp) h.2; omega) hs
        exact .one _ _ _ _ _ hh
      · obtain ⟨b1, ts, os, hh⟩ := sl_one p q a hs (ho a (by simp))
        exact .one _ _ _ _ _ hh
  | a :: b :: r, _, _, _, _, many => exact many
end Go.Proofs.YtkbonmjbfpdchaaDoor.Buf
