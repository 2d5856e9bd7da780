/- Ranges of letters, cut so that their bytes are ranges: the plain mathematics of NewSequences. No program in sight. -/
import Derived.WalkKit
namespace Go.Utf
set_option linter.unusedVariables false
/-- A number is a letter. -/
def Let (x : Int) : Prop := 0 ≤ x ∧ x ≤ 1114111 ∧ (x < 55296 ∨ 57343 < x)
/-- How many bytes a letter has. -/
def wid (x : Int) : Nat := if x ≤ 127 then 1 else if x ≤ 2047 then 2 else if x ≤ 65535 then 3 else 4
/-- The bytes of a letter. -/
def ubytes (x : Int) : List Int :=
  if x ≤ 127 then [x] else if x ≤ 2047 then [192 + x / 64, 128 + x % 64] else if x ≤ 65535 then [224 + x / 4096, 128 + x / 64 % 64, 128 + x % 64]
  else [240 + x / 262144, 128 + x / 4096 % 64, 128 + x / 64 % 64, 128 + x % 64]
/-- The two ends do not differ above a power, or begin and end there. -/
def Al (a b m : Int) : Prop := a / m = b / m ∨ (a % m = 0 ∧ b % m = m - 1)
/-- A range whose ubytes are ranges. -/
def Good (a b : Int) : Prop := 0 ≤ a ∧ b ≤ 1114111 ∧ a ≤ b ∧ (b < 55296 ∨ 57343 < a) ∧ (b ≤ 127 ∨ (127 < a ∧ (b ≤ 2047 ∨ (2047 < a ∧ (b ≤ 65535 ∨ 65535 < a))) ∧ Al a b 64 ∧ Al a b 4096 ∧ Al a b 262144))
/-- Bytes within ranges. -/
def covers (l : List (Int × Int)) (b : List Int) : Prop := l.length = b.length ∧ ∀ (i : Nat) (x : Int × Int) (y : Int), l[i]? = some x → b[i]? = some y → x.1 ≤ y ∧ y ≤ x.2
def seqOf (p : Int × Int) : List (Int × Int) := (ubytes p.1).zip (ubytes p.2)
theorem wid_len (x : Int) : (ubytes x).length = wid x := by
  unfold ubytes wid
  split
  · rfl
  · split
    · rfl
    · split <;> rfl
theorem good_wid {a b : Int} (h : Good a b) : wid a = wid b := by
  unfold Good at h; unfold wid
  obtain ⟨h1, h2, h3, h4, h5⟩ := h
  rcases h5 with h5 | ⟨h5, h6, h7⟩
  · rw [if_pos (by omega), if_pos h5]
  · rw [if_neg (by omega), if_neg (show ¬ b ≤ 127 by omega)]
    rcases h6 with h6 | ⟨h6, h8⟩
    · rw [if_pos (by omega), if_pos h6]
    · rw [if_neg (by omega), if_neg (show ¬ b ≤ 2047 by omega)]
      rcases h8 with h8 | h8
      · rw [if_pos (by omega), if_pos h8]
      · rw [if_neg (by omega), if_neg (by omega)]
theorem seqOf_len {a b : Int} (h : Good a b) : (seqOf (a, b)).length = wid a := by
  unfold seqOf
  rw [List.length_zip, wid_len, wid_len, good_wid h]; simp
theorem covers1 {x0 y0 z0 : Int} : covers ([x0].zip [y0]) [z0] ↔ x0 ≤ z0 ∧ z0 ≤ y0 := by
  unfold covers
  constructor
  · rintro ⟨_, h⟩; exact h 0 _ _ rfl rfl
  · rintro h; refine ⟨rfl, fun i x y hx hy => ?_⟩
    match i with
    | 0 => simp at hx hy; subst hx hy; exact h
    | i + 1 => simp at hx
theorem covers2 {x0 y0 z0 x1 y1 z1 : Int} : covers ([x0, x1].zip [y0, y1]) [z0, z1] ↔ (x0 ≤ z0 ∧ z0 ≤ y0) ∧ (x1 ≤ z1 ∧ z1 ≤ y1) := by
  unfold covers
  constructor
  · rintro ⟨_, h⟩; exact ⟨h 0 _ _ rfl rfl, h 1 _ _ rfl rfl⟩
  · rintro h; refine ⟨rfl, fun i x y hx hy => ?_⟩
    match i with
    | 0 => simp at hx hy; subst hx hy; exact h.1
    | 1 => simp at hx hy; subst hx hy; exact h.2
    | i + 2 => simp at hx
theorem covers3 {x0 y0 z0 x1 y1 z1 x2 y2 z2 : Int} : covers ([x0, x1, x2].zip [y0, y1, y2]) [z0, z1, z2] ↔ (x0 ≤ z0 ∧ z0 ≤ y0) ∧ (x1 ≤ z1 ∧ z1 ≤ y1) ∧ (x2 ≤ z2 ∧ z2 ≤ y2) := by
  unfold covers
  constructor
  · rintro ⟨_, h⟩; exact ⟨h 0 _ _ rfl rfl, h 1 _ _ rfl rfl, h 2 _ _ rfl rfl⟩
  · rintro h; refine ⟨rfl, fun i x y hx hy => ?_⟩
    match i with
    | 0 => simp at hx hy; subst hx hy; exact h.1
    | 1 => simp at hx hy; subst hx hy; exact h.2.1
    | 2 => simp at hx hy; subst hx hy; exact h.2.2
    | i + 3 => simp at hx
theorem covers4 {x0 y0 z0 x1 y1 z1 x2 y2 z2 x3 y3 z3 : Int} : covers ([x0, x1, x2, x3].zip [y0, y1, y2, y3]) [z0, z1, z2, z3] ↔ (x0 ≤ z0 ∧ z0 ≤ y0) ∧ (x1 ≤ z1 ∧ z1 ≤ y1) ∧ (x2 ≤ z2 ∧ z2 ≤ y2) ∧ (x3 ≤ z3 ∧ z3 ≤ y3) := by
  unfold covers
  constructor
  · rintro ⟨_, h⟩; exact ⟨h 0 _ _ rfl rfl, h 1 _ _ rfl rfl, h 2 _ _ rfl rfl, h 3 _ _ rfl rfl⟩
  · rintro h; refine ⟨rfl, fun i x y hx hy => ?_⟩
    match i with
    | 0 => simp at hx hy; subst hx hy; exact h.1
    | 1 => simp at hx hy; subst hx hy; exact h.2.1
    | 2 => simp at hx hy; subst hx hy; exact h.2.2.1
    | 3 => simp at hx hy; subst hx hy; exact h.2.2.2
    | i + 4 => simp at hx
theorem dig {a b x : Int} (h : Al a b 64) : (a ≤ x ∧ x ≤ b) ↔ (a / 64 ≤ x / 64 ∧ x / 64 ≤ b / 64) ∧ (a % 64 ≤ x % 64 ∧ x % 64 ≤ b % 64) := by
  unfold Al at h; omega
theorem al1 {a b : Int} (h : Al a b 4096) : Al (a / 64) (b / 64) 64 := by
  unfold Al at *; omega
theorem al2 {a b : Int} (h : Al a b 262144) : Al (a / 64 / 64) (b / 64 / 64) 64 := by
  unfold Al at *; omega
theorem dd (a : Int) : a / 64 / 64 = a / 4096 := by omega
theorem ddd (a : Int) : a / 64 / 64 / 64 = a / 262144 := by omega
theorem wid_mono {x y : Int} (h : x ≤ y) : wid x ≤ wid y := by
  have hx : wid x = 1 ∨ wid x = 2 ∨ wid x = 3 ∨ wid x = 4 := by
    unfold wid; split
    · simp
    · split
      · simp
      · split <;> simp
  unfold wid at *
  by_cases a1 : x ≤ 127
  · rw [if_pos a1]
    split
    · omega
    · split
      · omega
      · split <;> omega
  · rw [if_neg a1, if_neg (show ¬ y ≤ 127 by omega)]
    by_cases a2 : x ≤ 2047
    · rw [if_pos a2]
      split
      · omega
      · split <;> omega
    · rw [if_neg a2, if_neg (show ¬ y ≤ 2047 by omega)]
      by_cases a3 : x ≤ 65535
      · rw [if_pos a3]
        split <;> omega
      · rw [if_neg a3, if_neg (show ¬ y ≤ 65535 by omega)]
        omega
theorem cov1 {a b x : Int} : covers ([a].zip [b]) [x] ↔ a ≤ x ∧ x ≤ b := covers1
theorem cov2 {a b x : Int} (h : Al a b 64) : covers ([192 + a / 64, 128 + a % 64].zip [192 + b / 64, 128 + b % 64]) [192 + x / 64, 128 + x % 64] ↔ a ≤ x ∧ x ≤ b := by
  rw [covers2, dig h]; omega
theorem cov3 {a b x : Int} (h : Al a b 64) (h2 : Al a b 4096) : covers ([224 + a / 4096, 128 + a / 64 % 64, 128 + a % 64].zip [224 + b / 4096, 128 + b / 64 % 64, 128 + b % 64]) [224 + x / 4096, 128 + x / 64 % 64, 128 + x % 64] ↔ a ≤ x ∧ x ≤ b := by
  rw [covers3, dig h, dig (al1 h2), dd, dd, dd]
  generalize a / 4096 = a2; generalize b / 4096 = b2; generalize x / 4096 = x2
  generalize a / 64 % 64 = a1; generalize b / 64 % 64 = b1; generalize x / 64 % 64 = x1
  generalize a % 64 = a0; generalize b % 64 = b0; generalize x % 64 = x0
  omega
theorem cov4 {a b x : Int} (h : Al a b 64) (h2 : Al a b 4096) (h3 : Al a b 262144) : covers ([240 + a / 262144, 128 + a / 4096 % 64, 128 + a / 64 % 64, 128 + a % 64].zip [240 + b / 262144, 128 + b / 4096 % 64, 128 + b / 64 % 64, 128 + b % 64]) [240 + x / 262144, 128 + x / 4096 % 64, 128 + x / 64 % 64, 128 + x % 64] ↔ a ≤ x ∧ x ≤ b := by
  rw [covers4, dig h, dig (al1 h2), dig (al2 h3), ddd, ddd, ddd, dd, dd, dd]
  generalize a / 262144 = a3; generalize b / 262144 = b3; generalize x / 262144 = x3
  generalize a / 4096 % 64 = a2; generalize b / 4096 % 64 = b2; generalize x / 4096 % 64 = x2
  generalize a / 64 % 64 = a1; generalize b / 64 % 64 = b1; generalize x / 64 % 64 = x1
  generalize a % 64 = a0; generalize b % 64 = b0; generalize x % 64 = x0
  omega
theorem bytes1 {x : Int} (h : x ≤ 127) : ubytes x = [x] := by unfold ubytes; rw [if_pos h]
theorem bytes2 {x : Int} (h : ¬ x ≤ 127) (h2 : x ≤ 2047) : ubytes x = [192 + x / 64, 128 + x % 64] := by unfold ubytes; rw [if_neg h, if_pos h2]
theorem bytes3 {x : Int} (h : ¬ x ≤ 127) (h2 : ¬ x ≤ 2047) (h3 : x ≤ 65535) : ubytes x = [224 + x / 4096, 128 + x / 64 % 64, 128 + x % 64] := by unfold ubytes; rw [if_neg h, if_neg h2, if_pos h3]
theorem bytes4 {x : Int} (h : ¬ x ≤ 127) (h2 : ¬ x ≤ 2047) (h3 : ¬ x ≤ 65535) : ubytes x = [240 + x / 262144, 128 + x / 4096 % 64, 128 + x / 64 % 64, 128 + x % 64] := by unfold ubytes; rw [if_neg h, if_neg h2, if_neg h3]
theorem wid1 {x : Int} (h : x ≤ 127) : wid x = 1 := by unfold wid; rw [if_pos h]
theorem wid2 {x : Int} (h : ¬ x ≤ 127) (h2 : x ≤ 2047) : wid x = 2 := by unfold wid; rw [if_neg h, if_pos h2]
theorem wid3 {x : Int} (h : ¬ x ≤ 127) (h2 : ¬ x ≤ 2047) (h3 : x ≤ 65535) : wid x = 3 := by unfold wid; rw [if_neg h, if_neg h2, if_pos h3]
theorem wid4 {x : Int} (h : ¬ x ≤ 127) (h2 : ¬ x ≤ 2047) (h3 : ¬ x ≤ 65535) : wid x = 4 := by unfold wid; rw [if_neg h, if_neg h2, if_neg h3]
/-- What a width says of a number. -/
theorem wid_cases (x : Int) : (wid x = 1 ∧ x ≤ 127) ∨ (wid x = 2 ∧ ¬ x ≤ 127 ∧ x ≤ 2047) ∨ (wid x = 3 ∧ ¬ x ≤ 127 ∧ ¬ x ≤ 2047 ∧ x ≤ 65535) ∨ (wid x = 4 ∧ ¬ x ≤ 127 ∧ ¬ x ≤ 2047 ∧ ¬ x ≤ 65535) := by
  by_cases h1 : x ≤ 127
  · exact Or.inl ⟨wid1 h1, h1⟩
  · by_cases h2 : x ≤ 2047
    · exact Or.inr (Or.inl ⟨wid2 h1 h2, h1, h2⟩)
    · by_cases h3 : x ≤ 65535
      · exact Or.inr (Or.inr (Or.inl ⟨wid3 h1 h2 h3, h1, h2, h3⟩))
      · exact Or.inr (Or.inr (Or.inr ⟨wid4 h1 h2 h3, h1, h2, h3⟩))
/-- A letter is in a good range just if its ubytes are within the ranges. -/
theorem good_covers {a b x : Int} (h : Good a b) : covers (seqOf (a, b)) (ubytes x) ↔ a ≤ x ∧ x ≤ b := by
  have hwb := good_wid h
  by_cases hw : wid x = wid a
  · have hal : ¬ a ≤ 127 → Al a b 64 ∧ Al a b 4096 ∧ Al a b 262144 := by
      intro h1
      obtain ⟨_, _, h3, _, h5⟩ := h
      rcases h5 with h5 | ⟨_, _, h7⟩
      · omega
      · exact h7
    unfold seqOf
    rcases wid_cases a with ⟨e1, a1⟩ | ⟨e1, a1, a2⟩ | ⟨e1, a1, a2, a3⟩ | ⟨e1, a1, a2, a3⟩ <;>
      rcases wid_cases b with ⟨e2, b1⟩ | ⟨e2, b1, b2⟩ | ⟨e2, b1, b2, b3⟩ | ⟨e2, b1, b2, b3⟩ <;> (try omega) <;>
      rcases wid_cases x with ⟨e3, x1⟩ | ⟨e3, x1, x2⟩ | ⟨e3, x1, x2, x3⟩ | ⟨e3, x1, x2, x3⟩ <;> (try omega)
    · rw [bytes1 a1, bytes1 b1, bytes1 x1]; exact cov1
    · rw [bytes2 a1 a2, bytes2 b1 b2, bytes2 x1 x2]; exact cov2 (hal a1).1
    · rw [bytes3 a1 a2 a3, bytes3 b1 b2 b3, bytes3 x1 x2 x3]; exact cov3 (hal a1).1 (hal a1).2.1
    · rw [bytes4 a1 a2 a3, bytes4 b1 b2 b3, bytes4 x1 x2 x3]; exact cov4 (hal a1).1 (hal a1).2.1 (hal a1).2.2
  · constructor
    · rintro ⟨h1, _⟩
      rw [seqOf_len h, wid_len] at h1
      exact absurd h1.symm hw
    · rintro ⟨h1, h2⟩
      have := wid_mono h1
      have := wid_mono h2
      omega
/-! ### What has been put out, and what is still to be cut -/
/-- Ranges still to come hold just the letters from p to hi. -/
def Tile (hi : Int) : Int → List (Int × Int) → Prop
  | p, [] => ∀ x, Let x → p ≤ x → hi < x
  | p, (s, e) :: t => p ≤ s ∧ (∀ x, Let x → p ≤ x → x ≤ hi → s ≤ x) ∧ (∀ x, Let x → s ≤ x → x ≤ e → p ≤ x ∧ x ≤ hi) ∧ (s ≤ e → Tile hi (e + 1) t) ∧ (e < s → Tile hi p t)
/-! ### How many sequences a range needs, at most -/
def lv (s e Q : Int) : Nat := if s / Q = e / Q then 0 else (if s % Q = 0 then 0 else 1) + (if e % Q = Q - 1 then 0 else 1)
def cr (s e m : Int) : Nat := if s ≤ m ∧ m < e then 13 else 0
def cs (s e : Int) : Nat := if s < 57344 ∧ 55295 < e then 13 else 0
def wq (q : Int × Int) : Nat := 1 + (lv q.1 q.2 64 + lv q.1 q.2 4096 + lv q.1 q.2 262144) + (cr q.1 q.2 127 + cr q.1 q.2 2047 + cr q.1 q.2 65535 + cs q.1 q.2)
def wqs (l : List (Int × Int)) : Nat := (l.map wq).sum
theorem wqs_cons (q : Int × Int) (l : List (Int × Int)) : wqs (q :: l) = wq q + wqs l := by simp [wqs]
theorem lv_le (s e Q : Int) : lv s e Q ≤ 2 := by
  unfold lv; split
  · omega
  · split <;> split <;> omega
theorem cr_le (s e m : Int) : cr s e m ≤ 13 := by unfold cr; split <;> omega
theorem cs_le (s e : Int) : cs s e ≤ 13 := by unfold cs; split <;> omega
theorem wq_pos (q : Int × Int) : 1 ≤ wq q := by unfold wq; omega
theorem wq_le (q : Int × Int) : wq q ≤ 59 := by
  have h1 := lv_le q.1 q.2 64; have h2 := lv_le q.1 q.2 4096; have h3 := lv_le q.1 q.2 262144
  have h4 := cr_le q.1 q.2 127; have h5 := cr_le q.1 q.2 2047; have h6 := cr_le q.1 q.2 65535; have h7 := cs_le q.1 q.2
  unfold wq; omega
theorem lv_same {s e Q : Int} (h : s / Q = e / Q) : lv s e Q = 0 := by unfold lv; rw [if_pos h]
theorem lv_diff {s e Q : Int} (h : s / Q ≠ e / Q) : lv s e Q = (if s % Q = 0 then 0 else 1) + (if e % Q = Q - 1 then 0 else 1) := by unfold lv; rw [if_neg h]
def Pw (Q : Int) : Prop := Q = 64 ∨ Q = 4096 ∨ Q = 262144
theorem lv_mul {s e m Q : Int} (hQ : Pw Q) (h1 : s ≤ m) (h2 : m < e) (h3 : (m + 1) % Q = 0) : lv s m Q + lv (m + 1) e Q ≤ lv s e Q := by
  have hd : s / Q ≠ e / Q := by rcases hQ with rfl | rfl | rfl <;> omega
  have hm : m % Q = Q - 1 := by rcases hQ with rfl | rfl | rfl <;> omega
  rw [lv_diff hd]
  have a1 : lv s m Q ≤ (if s % Q = 0 then 0 else 1) := by
    unfold lv; split
    · omega
    · first | (rw [if_pos hm]; simp) | simp
  have a2 : lv (m + 1) e Q ≤ (if e % Q = Q - 1 then 0 else 1) := by
    unfold lv; split
    · omega
    · first | (rw [if_pos h3]; simp) | simp
  omega
theorem lv_lo_eq {s e m Q : Int} (hQ : Pw Q) (h1 : s ≤ m) (h2 : m < e) (h3 : (m + 1) % Q = 0) (h4 : s / Q = m / Q) (h5 : s % Q ≠ 0) : lv s m Q + lv (m + 1) e Q + 1 ≤ lv s e Q := by
  have hd : s / Q ≠ e / Q := by rcases hQ with rfl | rfl | rfl <;> omega
  rw [lv_diff hd, lv_same h4, if_neg h5]
  have a2 : lv (m + 1) e Q ≤ (if e % Q = Q - 1 then 0 else 1) := by
    unfold lv; split
    · omega
    · first | (rw [if_pos h3]; simp) | simp
  omega
theorem lv_hi_eq {s e m Q : Int} (hQ : Pw Q) (h1 : s ≤ m) (h2 : m < e) (h3 : (m + 1) % Q = 0) (h4 : (m + 1) / Q = e / Q) (h5 : e % Q ≠ Q - 1) : lv s m Q + lv (m + 1) e Q + 1 ≤ lv s e Q := by
  have hd : s / Q ≠ e / Q := by rcases hQ with rfl | rfl | rfl <;> omega
  have hm : m % Q = Q - 1 := by rcases hQ with rfl | rfl | rfl <;> omega
  rw [lv_diff hd, lv_same h4, if_neg h5]
  have a1 : lv s m Q ≤ (if s % Q = 0 then 0 else 1) := by
    unfold lv; split
    · omega
    · first | (rw [if_pos hm]; simp) | simp
  omega
theorem lv_lo_up {s e m Q : Int} (hQ : Pw Q) (h1 : s ≤ m) (h2 : m < e) (h4 : s / Q = m / Q) (h5 : s % Q ≠ 0) : lv s m Q + lv (m + 1) e Q ≤ lv s e Q := by
  rw [lv_same h4]
  by_cases hd : (m + 1) / Q = e / Q
  · rw [lv_same hd]; omega
  · have hd2 : s / Q ≠ e / Q := by rcases hQ with rfl | rfl | rfl <;> omega
    rw [lv_diff hd, lv_diff hd2, if_neg h5]
    split <;> split <;> omega
theorem lv_hi_up {s e m Q : Int} (hQ : Pw Q) (h1 : s ≤ m) (h2 : m < e) (h4 : (m + 1) / Q = e / Q) (h5 : e % Q ≠ Q - 1) : lv s m Q + lv (m + 1) e Q ≤ lv s e Q := by
  rw [lv_same h4]
  by_cases hd : s / Q = m / Q
  · rw [lv_same hd]; omega
  · have hd2 : s / Q ≠ e / Q := by rcases hQ with rfl | rfl | rfl <;> omega
    rw [lv_diff hd, lv_diff hd2, if_neg h5]
    split <;> split <;> omega
/-- No border of widths, no halves of pairs within. -/
def Plain (s e : Int) : Prop := ¬ (s ≤ 127 ∧ 127 < e) ∧ ¬ (s ≤ 2047 ∧ 2047 < e) ∧ ¬ (s ≤ 65535 ∧ 65535 < e) ∧ ¬ (s < 57344 ∧ 55295 < e)
theorem wq_plain {s e : Int} (h : Plain s e) : wq (s, e) = 1 + (lv s e 64 + lv s e 4096 + lv s e 262144) := by
  obtain ⟨h1, h2, h3, h4⟩ := h
  simp only [wq, cr, cs, if_neg h1, if_neg h2, if_neg h3, if_neg h4]
  rfl
theorem Plain.sub {s e a b : Int} (h : Plain s e) (h1 : s ≤ a) (h2 : b ≤ e) : Plain a b := by unfold Plain at *; omega
theorem wq_lo {s e P : Int} (hP : Pw P) (hp : Plain s e) (h1 : s / P ≠ e / P) (h2 : s % P ≠ 0) (hse : s ≤ e) : wq (s, P * (s / P) + P - 1) + wq (P * (s / P) + P - 1 + 1, e) ≤ wq (s, e) := by
  generalize hm : P * (s / P) + P - 1 = m
  have a1 : s ≤ m ∧ m < e := by rcases hP with rfl | rfl | rfl <;> omega
  rw [wq_plain hp, wq_plain (hp.sub (Int.le_refl _) (by omega)), wq_plain (hp.sub (by omega) (Int.le_refl _))]
  have b1 : lv s m 64 + lv (m + 1) e 64 + (if P = 64 then 1 else 0) ≤ lv s e 64 := by
    rcases hP with rfl | rfl | rfl
    · have := lv_lo_eq (s := s) (m := m) (e := e) (Or.inl rfl : Pw 64) a1.1 a1.2 (by omega) (by omega) (by omega); simpa using this
    · have := lv_mul (s := s) (m := m) (e := e) (Or.inl rfl : Pw 64) a1.1 a1.2 (by omega); simpa using this
    · have := lv_mul (s := s) (m := m) (e := e) (Or.inl rfl : Pw 64) a1.1 a1.2 (by omega); simpa using this
  have b2 : lv s m 4096 + lv (m + 1) e 4096 + (if P = 4096 then 1 else 0) ≤ lv s e 4096 := by
    rcases hP with rfl | rfl | rfl
    · have := lv_lo_up (s := s) (m := m) (e := e) (Or.inr (Or.inl rfl) : Pw 4096) a1.1 a1.2 (by omega) (by omega); simpa using this
    · have := lv_lo_eq (s := s) (m := m) (e := e) (Or.inr (Or.inl rfl) : Pw 4096) a1.1 a1.2 (by omega) (by omega) (by omega); simpa using this
    · have := lv_mul (s := s) (m := m) (e := e) (Or.inr (Or.inl rfl) : Pw 4096) a1.1 a1.2 (by omega); simpa using this
  have b3 : lv s m 262144 + lv (m + 1) e 262144 + (if P = 262144 then 1 else 0) ≤ lv s e 262144 := by
    rcases hP with rfl | rfl | rfl
    · have := lv_lo_up (s := s) (m := m) (e := e) (Or.inr (Or.inr rfl) : Pw 262144) a1.1 a1.2 (by omega) (by omega); simpa using this
    · have := lv_lo_up (s := s) (m := m) (e := e) (Or.inr (Or.inr rfl) : Pw 262144) a1.1 a1.2 (by omega) (by omega); simpa using this
    · have := lv_lo_eq (s := s) (m := m) (e := e) (Or.inr (Or.inr rfl) : Pw 262144) a1.1 a1.2 (by omega) (by omega) (by omega); simpa using this
  have b4 : 1 ≤ (if P = 64 then 1 else 0) + (if P = 4096 then 1 else 0) + (if P = 262144 then 1 else 0) := by rcases hP with rfl | rfl | rfl <;> simp
  omega
theorem wq_hi {s e P : Int} (hP : Pw P) (hp : Plain s e) (h1 : s / P ≠ e / P) (h2 : e % P ≠ P - 1) (hse : s ≤ e) : wq (s, P * (e / P) - 1) + wq (P * (e / P) - 1 + 1, e) ≤ wq (s, e) := by
  generalize hm : P * (e / P) - 1 = m
  have a1 : s ≤ m ∧ m < e := by rcases hP with rfl | rfl | rfl <;> omega
  rw [wq_plain hp, wq_plain (hp.sub (Int.le_refl _) (by omega)), wq_plain (hp.sub (by omega) (Int.le_refl _))]
  have b1 : lv s m 64 + lv (m + 1) e 64 + (if P = 64 then 1 else 0) ≤ lv s e 64 := by
    rcases hP with rfl | rfl | rfl
    · have := lv_hi_eq (s := s) (m := m) (e := e) (Or.inl rfl : Pw 64) a1.1 a1.2 (by omega) (by omega) (by omega); simpa using this
    · have := lv_mul (s := s) (m := m) (e := e) (Or.inl rfl : Pw 64) a1.1 a1.2 (by omega); simpa using this
    · have := lv_mul (s := s) (m := m) (e := e) (Or.inl rfl : Pw 64) a1.1 a1.2 (by omega); simpa using this
  have b2 : lv s m 4096 + lv (m + 1) e 4096 + (if P = 4096 then 1 else 0) ≤ lv s e 4096 := by
    rcases hP with rfl | rfl | rfl
    · have := lv_hi_up (s := s) (m := m) (e := e) (Or.inr (Or.inl rfl) : Pw 4096) a1.1 a1.2 (by omega) (by omega); simpa using this
    · have := lv_hi_eq (s := s) (m := m) (e := e) (Or.inr (Or.inl rfl) : Pw 4096) a1.1 a1.2 (by omega) (by omega) (by omega); simpa using this
    · have := lv_mul (s := s) (m := m) (e := e) (Or.inr (Or.inl rfl) : Pw 4096) a1.1 a1.2 (by omega); simpa using this
  have b3 : lv s m 262144 + lv (m + 1) e 262144 + (if P = 262144 then 1 else 0) ≤ lv s e 262144 := by
    rcases hP with rfl | rfl | rfl
    · have := lv_hi_up (s := s) (m := m) (e := e) (Or.inr (Or.inr rfl) : Pw 262144) a1.1 a1.2 (by omega) (by omega); simpa using this
    · have := lv_hi_up (s := s) (m := m) (e := e) (Or.inr (Or.inr rfl) : Pw 262144) a1.1 a1.2 (by omega) (by omega); simpa using this
    · have := lv_hi_eq (s := s) (m := m) (e := e) (Or.inr (Or.inr rfl) : Pw 262144) a1.1 a1.2 (by omega) (by omega) (by omega); simpa using this
  have b4 : 1 ≤ (if P = 64 then 1 else 0) + (if P = 4096 then 1 else 0) + (if P = 262144 then 1 else 0) := by rcases hP with rfl | rfl | rfl <;> simp
  omega
theorem wq_max {s e X : Int} (hX : X = 127 ∨ X = 2047 ∨ X = 65535) (hsp : ¬ (s < 57344 ∧ 55295 < e)) (h1 : s ≤ X) (h2 : X < e) : wq (s, X) + wq (X + 1, e) ≤ wq (s, e) := by
  have l1 := lv_le s X 64; have l2 := lv_le s X 4096; have l3 := lv_le s X 262144
  have r1 := lv_le (X + 1) e 64; have r2 := lv_le (X + 1) e 4096; have r3 := lv_le (X + 1) e 262144
  simp only [wq, cs, if_neg hsp]
  have c1 : ¬ (s < 57344 ∧ 55295 < X) := by omega
  have c2 : ¬ (X + 1 < 57344 ∧ 55295 < e) := by omega
  rw [if_neg c1, if_neg c2]
  have hc : cr s X 127 + cr s X 2047 + cr s X 65535 + (cr (X + 1) e 127 + cr (X + 1) e 2047 + cr (X + 1) e 65535) + 13 ≤ cr s e 127 + cr s e 2047 + cr s e 65535 := by
    rcases hX with rfl | rfl | rfl
    · have e1 : cr s e 127 = 13 := if_pos ⟨h1, h2⟩
      have e2 : cr s 127 127 = 0 := if_neg (by omega)
      have e3 : cr s 127 2047 = 0 := if_neg (by omega)
      have e4 : cr s 127 65535 = 0 := if_neg (by omega)
      have e5 : cr (127 + 1) e 127 = 0 := if_neg (by omega)
      have e6 : cr (127 + 1) e 2047 ≤ cr s e 2047 := by unfold cr; split <;> split <;> omega
      have e7 : cr (127 + 1) e 65535 ≤ cr s e 65535 := by unfold cr; split <;> split <;> omega
      omega
    · have e1 : cr s e 2047 = 13 := if_pos ⟨h1, h2⟩
      have e2 : cr s 2047 127 ≤ cr s e 127 := by unfold cr; split <;> split <;> omega
      have e3 : cr s 2047 2047 = 0 := if_neg (by omega)
      have e4 : cr s 2047 65535 = 0 := if_neg (by omega)
      have e5 : cr (2047 + 1) e 127 = 0 := if_neg (by omega)
      have e6 : cr (2047 + 1) e 2047 = 0 := if_neg (by omega)
      have e7 : cr (2047 + 1) e 65535 ≤ cr s e 65535 := by unfold cr; split <;> split <;> omega
      omega
    · have e1 : cr s e 65535 = 13 := if_pos ⟨h1, h2⟩
      have e2 : cr s 65535 127 ≤ cr s e 127 := by unfold cr; split <;> split <;> omega
      have e3 : cr s 65535 2047 ≤ cr s e 2047 := by unfold cr; split <;> split <;> omega
      have e4 : cr s 65535 65535 = 0 := if_neg (by omega)
      have e5 : cr (65535 + 1) e 127 = 0 := if_neg (by omega)
      have e6 : cr (65535 + 1) e 2047 = 0 := if_neg (by omega)
      have e7 : cr (65535 + 1) e 65535 = 0 := if_neg (by omega)
      omega
  omega
theorem wq_split {s e : Int} (h1 : s < 57344) (h2 : 55295 < e) : wq (s, 55295) + wq (57344, e) ≤ wq (s, e) := by
  have l1 := lv_le s 55295 64; have l2 := lv_le s 55295 4096; have l3 := lv_le s 55295 262144
  have r1 := lv_le 57344 e 64; have r2 := lv_le 57344 e 4096; have r3 := lv_le 57344 e 262144
  have c1 : cs s e = 13 := if_pos ⟨h1, h2⟩
  have c2 : cs s 55295 = 0 := if_neg (by omega)
  have c3 : cs 57344 e = 0 := if_neg (by omega)
  have a1 : cr s 55295 127 ≤ cr s e 127 := by unfold cr; split <;> split <;> omega
  have a2 : cr s 55295 2047 ≤ cr s e 2047 := by unfold cr; split <;> split <;> omega
  have a3 : cr s 55295 65535 = 0 := if_neg (by omega)
  have a4 : cr 57344 e 127 = 0 := if_neg (by omega)
  have a5 : cr 57344 e 2047 = 0 := if_neg (by omega)
  have a6 : cr 57344 e 65535 ≤ cr s e 65535 := by unfold cr; split <;> split <;> omega
  simp only [wq]
  omega
/-- Where the ranges begin that all letters are cut into; and where they end. -/
def Fst (x : Int) : Prop := x = 0 ∨ x = 128 ∨ x = 2048 ∨ x = 4096 ∨ x = 53248 ∨ x = 57344 ∨ x = 65536 ∨ x = 262144 ∨ x = 1048576
def Fen (e : Int) : Prop := Fst (e + 1) ∨ e = 55295 ∨ e = 1114111
theorem fst_lo {s P : Int} (hP : Pw P) (h2 : s % P ≠ 0) (hs : Fst s) : Fst (P * (s / P) + P - 1 + 1) := by
  unfold Fst at *
  rcases hP with rfl | rfl | rfl <;> rcases hs with rfl | rfl | rfl | rfl | rfl | rfl | rfl | rfl | rfl <;> omega
theorem fst_hi {s e P : Int} (hP : Pw P) (h1 : s / P ≠ e / P) (h2 : e % P ≠ P - 1) (hs : Fst s) (hse : s ≤ e) (he : Fen e) : Fst (P * (e / P) - 1 + 1) := by
  have h0 : 0 ≤ s := by unfold Fst at hs; omega
  clear hs
  unfold Fen Fst at he
  unfold Fst
  rcases hP with rfl | rfl | rfl <;> rcases he with (he | he | he | he | he | he | he | he | he) | he | he <;> omega
/-- A cut: no more pieces than were counted; and where all letters are cut, it is at one of these places. -/
def CO (s e m : Int) : Prop := wq (s, m) + wq (m + 1, e) ≤ wq (s, e) ∧ (Fst s → Fen e → Fst (m + 1))
theorem co_lo {s e P : Int} (hP : Pw P) (hp : Plain s e) (h1 : s / P ≠ e / P) (h2 : s % P ≠ 0) (hse : s ≤ e) : CO s e (P * (s / P) + P - 1) := ⟨wq_lo hP hp h1 h2 hse, fun hs _ => fst_lo hP h2 hs⟩
theorem co_hi {s e P : Int} (hP : Pw P) (hp : Plain s e) (h1 : s / P ≠ e / P) (h2 : e % P ≠ P - 1) (hse : s ≤ e) : CO s e (P * (e / P) - 1) := ⟨wq_hi hP hp h1 h2 hse, fun hs he => fst_hi hP h1 h2 hs hse he⟩
theorem co_max {s e X : Int} (hX : X = 127 ∨ X = 2047 ∨ X = 65535) (hsp : ¬ (s < 57344 ∧ 55295 < e)) (h1 : s ≤ X) (h2 : X < e) : CO s e X := ⟨wq_max hX hsp h1 h2, fun _ _ => by unfold Fst; rcases hX with rfl | rfl | rfl <;> omega⟩
structure OutOk (lo hi p : Int) (out : List (Int × Int)) : Prop where
  low : lo ≤ p
  good : ∀ q ∈ out, Good q.1 q.2 ∧ lo ≤ q.1 ∧ q.2 < p ∧ q.2 ≤ hi
  rise : out.Pairwise fun q r => q.2 < r.1
  all : ∀ x, Let x → lo ≤ x → x < p → ∃ q ∈ out, q.1 ≤ x ∧ x ≤ q.2
  ends : ∀ q ∈ out, q.2 = hi ∨ 127 ≤ q.2
  cnt : out.length ≤ 60
  st : lo = 0 → hi = 1114111 → ∀ q ∈ out, Fst q.1
def Bd (q : Int × Int) : Prop := 0 ≤ q.1 ∧ q.1 ≤ 1114111 ∧ 0 ≤ q.2 ∧ q.2 ≤ 1114111
def wgt (q : Int × Int) : Nat := if q.1 < 57344 ∧ 55295 < q.2 then max 2 (2 * (q.2 - q.1 + 1) - 1).toNat else max 1 (2 * (q.2 - q.1 + 1) - 1).toNat
def phi (l : List (Int × Int)) : Nat := (l.map wgt).sum
theorem phi_cons (q : Int × Int) (l : List (Int × Int)) : phi (q :: l) = wgt q + phi l := by simp [phi]
theorem wgt_pos (q : Int × Int) : 1 ≤ wgt q := by unfold wgt; split <;> omega
theorem tile_down {hi : Int} {l : List (Int × Int)} : ∀ {p p' : Int}, Tile hi p l → p' ≤ p → (∀ x, Let x → p' ≤ x → x ≤ hi → p ≤ x) → Tile hi p' l := by
  induction l with
  | nil =>
    intro p p' h hp hx x hl hxp
    rcases Int.lt_or_le hi x with h1 | h1
    · exact h1
    · exact h x hl (hx x hl hxp h1)
  | cons q t ih =>
    intro p p' h hp hx
    obtain ⟨s, e⟩ := q
    obtain ⟨h0, h1, h2, h3, h4⟩ := h
    exact ⟨by omega, fun x hl a b => h1 x hl (hx x hl a b) b, fun x hl a b => ⟨by have := (h2 x hl a b).1; omega, (h2 x hl a b).2⟩, h3, fun he => ih (h4 he) hp hx⟩
theorem tile_start (lo hi : Int) : Tile hi lo [(lo, hi)] :=
  ⟨Int.le_refl _, fun x _ h _ => h, fun x _ h1 h2 => ⟨h1, h2⟩, fun _ x _ h => by omega, fun h x _ h1 => by omega⟩
theorem out_start (lo hi : Int) : OutOk lo hi lo [] := ⟨Int.le_refl _, by simp, by simp, fun x _ h1 h2 => by omega, by simp, by simp, by simp⟩
theorem let_sur {x : Int} (h : Let x) : x ≤ 55295 ∨ 57344 ≤ x := by unfold Let at h; omega
theorem tile_split {hi p s e : Int} {t : List (Int × Int)} (h : Tile hi p ((s, e) :: t)) (h1 : s < 57344) (h2 : 55295 < e) : Tile hi p ((s, 55295) :: (57344, e) :: t) := by
  obtain ⟨z, a, b, c, d⟩ := h
  refine ⟨z, a, fun x hl h3 h4 => b x hl h3 (by omega), fun h3 => ?_, fun h3 => ?_⟩
  · refine ⟨by omega, fun x hl h4 h5 => by have := let_sur hl; omega, fun x hl h4 h5 => ?_, fun h4 => c (by omega), fun h4 => ?_⟩
    · have := b x hl (by omega) h5
      omega
    · exact tile_down (c (by omega)) (by omega) fun x hl h5 h6 => by have := let_sur hl; omega
  · refine ⟨by omega, fun x hl h4 h5 => by have := let_sur hl; have := a x hl h4 h5; omega, fun x hl h4 h5 => b x hl (by omega) h5, fun h4 => c (by omega), fun h4 => ?_⟩
    rcases Int.lt_or_le e s with h5 | h5
    · exact d h5
    · exact tile_down (c h5) (by omega) fun x hl h6 h7 => by have := let_sur hl; have := a x hl h6 h7; omega
theorem tile_bad {hi p s e : Int} {t : List (Int × Int)} (h : Tile hi p ((s, e) :: t)) (h1 : e < s) : Tile hi p t := h.2.2.2.2 h1
theorem tile_cut {hi p s e m : Int} {t : List (Int × Int)} (h : Tile hi p ((s, e) :: t)) (h1 : s ≤ m) (h2 : m < e) : Tile hi p ((s, m) :: (m + 1, e) :: t) := by
  obtain ⟨z, a, b, c, d⟩ := h
  refine ⟨z, a, fun x hl h3 h4 => b x hl h3 (by omega), fun h3 => ?_, fun h3 => by omega⟩
  refine ⟨Int.le_refl _, fun x hl h4 h5 => h4, fun x hl h4 h5 => ⟨h4, (b x hl (by omega) h5).2⟩, fun h4 => c (by omega), fun h4 => by omega⟩
theorem out_put {lo hi p s e : Int} {t out : List (Int × Int)} (ho : OutOk lo hi p out) (h : Tile hi p ((s, e) :: t)) (hg : Good s e) (hen : e = hi ∨ 127 ≤ e) (hct : out.length + 1 ≤ 60) (hfs : lo = 0 → hi = 1114111 → Fst s) : OutOk lo hi (e + 1) (out ++ [(s, e)]) ∧ Tile hi (e + 1) t := by
  obtain ⟨z, a, b, c, d⟩ := h
  have hse : s ≤ e := hg.2.2.1
  have hls : Let s := by unfold Good at hg; unfold Let; omega
  have hle : Let e := by unfold Good at hg; unfold Let; omega
  have hs := b s hls (Int.le_refl _) hse
  have he := b e hle hse (Int.le_refl _)
  refine ⟨⟨by have := ho.low; omega, fun q hq => ?_, ?_, fun x hl h1 h2 => ?_, fun q hq => ?_, by simpa using hct, fun l0 h9 q hq => ?_⟩, c hse⟩
  · rcases List.mem_append.1 hq with hq | hq
    · obtain ⟨g1, g2, g3, g4⟩ := ho.good q hq
      exact ⟨g1, g2, by omega, g4⟩
    · simp only [List.mem_singleton] at hq
      subst hq
      exact ⟨hg, by have := ho.low; simp only; omega, by simp only; omega, he.2⟩
  · rw [List.pairwise_append]
    refine ⟨ho.rise, by simp, fun q hq r hr => ?_⟩
    simp only [List.mem_singleton] at hr
    subst hr
    have := (ho.good q hq).2.2.1
    simp only; omega
  · by_cases h3 : x < p
    · obtain ⟨q, hq, h4⟩ := ho.all x hl h1 h3
      exact ⟨q, List.mem_append_left _ hq, h4⟩
    · refine ⟨(s, e), by simp, ?_, by simp only; omega⟩
      exact a x hl (by omega) (by omega)
  · rcases List.mem_append.1 hq with hq | hq
    · exact ho.ends q hq
    · simp only [List.mem_singleton] at hq
      subst hq
      exact hen
  · rcases List.mem_append.1 hq with hq | hq
    · exact ho.st l0 h9 q hq
    · simp only [List.mem_singleton] at hq
      subst hq
      exact hfs l0 h9
/-- At the end. -/
structure Done (lo hi : Int) (out : List (Int × Int)) : Prop where
  good : ∀ q ∈ out, Good q.1 q.2 ∧ lo ≤ q.1 ∧ q.2 ≤ hi
  rise : out.Pairwise fun q r => q.2 < r.1
  all : ∀ x, Let x → lo ≤ x → x ≤ hi → ∃ q ∈ out, q.1 ≤ x ∧ x ≤ q.2
  ends : ∀ q ∈ out, q.2 = hi ∨ 127 ≤ q.2
  cnt : out.length ≤ 60
  st : lo = 0 → hi = 1114111 → ∀ q ∈ out, Fst q.1
theorem done_of {lo hi p : Int} {out : List (Int × Int)} (ho : OutOk lo hi p out) (h : Tile hi p []) : Done lo hi out := by
  refine ⟨fun q hq => ?_, ho.rise, fun x hl h1 h2 => ?_, ho.ends, ho.cnt, ho.st⟩
  · obtain ⟨a, b, _, d⟩ := ho.good q hq
    exact ⟨a, b, d⟩
  · rcases Int.lt_or_le x p with h3 | h3
    · exact ho.all x hl h1 h3
    · have := h x hl h3
      omega
theorem wgt_split {s e : Int} (h1 : s < 57344) (h2 : 55295 < e) : wgt (s, 55295) + wgt (57344, e) ≤ wgt (s, e) := by
  unfold wgt; simp only
  rw [if_neg (by omega), if_neg (by omega), if_pos (by omega)]
  omega
theorem wgt_cut {s e m : Int} (h0 : ¬ (s < 57344 ∧ 55295 < e)) (h1 : s ≤ m) (h2 : m < e) : wgt (s, m) + wgt (m + 1, e) ≤ wgt (s, e) := by
  unfold wgt; simp only
  rw [if_neg (by omega), if_neg (by omega), if_neg (by omega)]
  omega
end Go.Utf
