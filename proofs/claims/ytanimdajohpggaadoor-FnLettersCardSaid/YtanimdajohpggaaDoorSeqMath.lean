/- Ranges of letters, cut so that their bytes are ranges: the plain mathematics of NewSequences. No program in sight. -/
import Derived.WalkKit
namespace Go.Utf
/-- A number is a letter. -/
def Let (x : Int) : Prop := 0 ≤ x ∧ x ≤ 1114111 ∧ (x < 55296 ∨ 57343 < x)
/-- How many bytes a letter has. -/
def wid (x : Int) : Nat := if x ≤ 127 then 1 else if x ≤ 2047 then 2 else if x ≤ 65535 then 3 else 4
/-- The bytes of a letter. -/
def ubytes (x : Int) : List Int :=
  if x ≤ 127 then [x] else if x ≤ 2047 then [192 + x / 64, 128 + x % 64] else if x ≤ 65535 then [224 + x / 4096, 128 + x / 64 % 64, 128 + x % 64]
  else [240 + x / 262144, 128 + x / 4096 % 64, 128 + x / 64 % 64, 128 + x % 64]
/-- The two ends do not differ above a power, or begin and end there. -/
def Al (a b m : Int) : Prop := a / m = b / m ∨ (a % m = 0 ∧ b % m = m - 1)
/-- A range whose ubytes are ranges. -/
def Good (a b : Int) : Prop := 0 ≤ a ∧ b ≤ 1114111 ∧ a ≤ b ∧ (b < 55296 ∨ 57343 < a) ∧ (b ≤ 127 ∨ (127 < a ∧ (b ≤ 2047 ∨ (2047 < a ∧ (b ≤ 65535 ∨ 65535 < a))) ∧ Al a b 64 ∧ Al a b 4096 ∧ Al a b 262144))
/-- Bytes within ranges. -/
def covers (l : List (Int × Int)) (b : List Int) : Prop := l.length = b.length ∧ ∀ (i : Nat) (x : Int × Int) (y : Int), l[i]? = some x → b[i]? = some y → x.1 ≤ y ∧ y ≤ x.2
def seqOf (p : Int × Int) : List (Int × Int) := (ubytes p.1).zip (ubytes p.2)
theorem wid_len (x : Int) : (ubytes x).length = wid x := by
  unfold ubytes wid
  split
  · rfl
  · split
    · rfl
    · split <;> rfl
theorem good_wid {a b : Int} (h : Good a b) : wid a = wid b := by
  unfold Good at h; unfold wid
  obtain ⟨h1, h2, h3, h4, h5⟩ := h
  rcases h5 with h5 | ⟨h5, h6, h7⟩
  · rw [if_pos (by omega), if_pos h5]
  · rw [if_neg (by omega), if_neg (show ¬ b ≤ 127 by omega)]
    rcases h6 with h6 | ⟨h6, h8⟩
    · rw [if_pos (by omega), if_pos h6]
    · rw [if_neg (by omega), if_neg (show ¬ b ≤ 2047 by omega)]
      rcases h8 with h8 | h8
      · rw [if_pos (by omega), if_pos h8]
      · rw [if_neg (by omega), if_neg (by omega)]
theorem seqOf_len {a b : Int} (h : Good a b) : (seqOf (a, b)).length = wid a := by
  unfold seqOf
  rw [List.length_zip, wid_len, wid_len, good_wid h]; simp
theorem covers1 {x0 y0 z0 : Int} : covers ([x0].zip [y0]) [z0] ↔ x0 ≤ z0 ∧ z0 ≤ y0 := by
  unfold covers
  constructor
  · rintro ⟨_, h⟩; exact h 0 _ _ rfl rfl
  · rintro h; refine ⟨rfl, fun i x y hx hy => ?_⟩
    match i with
    | 0 => simp at hx hy; subst hx hy; exact h
    | i + 1 => simp at hx
theorem covers2 {x0 y0 z0 x1 y1 z1 : Int} : covers ([x0, x1].zip [y0, y1]) [z0, z1] ↔ (x0 ≤ z0 ∧ z0 ≤ y0) ∧ (x1 ≤ z1 ∧ z1 ≤ y1) := by
  unfold covers
  constructor
  · rintro ⟨_, h⟩; exact ⟨h 0 _ _ rfl rfl, h 1 _ _ rfl rfl⟩
  · rintro h; refine ⟨rfl, fun i x y hx hy => ?_⟩
    match i with
    | 0 => simp at hx hy; subst hx hy; exact h.1
    | 1 => simp at hx hy; subst hx hy; exact h.2
    | i + 2 => simp at hx
theorem covers3 {x0 y0 z0 x1 y1 z1 x2 y2 z2 : Int} : covers ([x0, x1, x2].zip [y0, y1, y2]) [z0, z1, z2] ↔ (x0 ≤ z0 ∧ z0 ≤ y0) ∧ (x1 ≤ z1 ∧ z1 ≤ y1) ∧ (x2 ≤ z2 ∧ z2 ≤ y2) := by
  unfold covers
  constructor
  · rintro ⟨_, h⟩; exact ⟨h 0 _ _ rfl rfl, h 1 _ _ rfl rfl, h 2 _ _ rfl rfl⟩
  · rintro h; refine ⟨rfl, fun i x y hx hy => ?_⟩
    match i with
    | 0 => simp at hx hy; subst hx hy; exact h.1
    | 1 => simp at hx hy; subst hx hy; exact h.2.1
    | 2 => simp at hx hy; subst hx hy; exact h.2.2
    | i + 3 => simp at hx
theorem covers4 {x0 y0 z0 x1 y1 z1 x2 y2 z2 x3 y3 z3 : Int} : covers ([x0, x1, x2, x3].zip [y0, y1, y2, y3]) [z0, z1, z2, z3] ↔ (x0 ≤ z0 ∧ z0 ≤ y0) ∧ (x1 ≤ z1 ∧ z1 ≤ y1) ∧ (x2 ≤ z2 ∧ z2 ≤ y2) ∧ (x3 ≤ z3 ∧ z3 ≤ y3) := by
  unfold covers
  constructor
  · rintro ⟨_, h⟩; exact ⟨h 0 _ _ rfl rfl, h 1 _ _ rfl rfl, h 2 _ _ rfl rfl, h 3 _ _ rfl rfl⟩
  · rintro h; refine ⟨rfl, fun i x y hx hy => ?_⟩
    match i with
    | 0 => simp at hx hy; subst hx hy; exact h.1
    | 1 => simp at hx hy; subst hx hy; exact h.2.1
    | 2 => simp at hx hy; subst hx hy; exact h.2.2.1
    | 3 => simp at hx hy; subst hx hy; exact h.2.2.2
    | i + 4 => simp at hx
theorem dig {a b x : Int} (h : Al a b 64) : (a ≤ x ∧ x ≤ b) ↔ (a / 64 ≤ x / 64 ∧ x / 64 ≤ b / 64) ∧ (a % 64 ≤ x % 64 ∧ x % 64 ≤ b % 64) := by
  unfold Al at h; omega
theorem al1 {a b : Int} (h : Al a b 4096) : Al (a / 64) (b / 64) 64 := by
  unfold Al at *; omega
theorem al2 {a b : Int} (h : Al a b 262144) : Al (a / 64 / 64) (b / 64 / 64) 64 := by
  unfold Al at *; omega
theorem dd (a : Int) : a / 64 / 64 = a / 4096 := by omega
theorem ddd (a : Int) : a / 64 / 64 / 64 = a / 262144 := by omega
theorem wid_mono {x y : Int} (h : x ≤ y) : wid x ≤ wid y := by
  have hx : wid x = 1 ∨ wid x = 2 ∨ wid x = 3 ∨ wid x = 4 := by
    unfold wid; split
    · simp
    · split
      · simp
      · split <;> simp
  unfold wid at *
  by_cases a1 : x ≤ 127
  · rw [if_pos a1]
    split
    · omega
    · split
      · omega
      · split <;> omega
  · rw [if_neg a1, if_neg (show ¬ y ≤ 127 by omega)]
    by_cases a2 : x ≤ 2047
    · rw [if_pos a2]
      split
      · omega
      · split <;> omega
    · rw [if_neg a2, if_neg (show ¬ y ≤ 2047 by omega)]
      by_cases a3 : x ≤ 65535
      · rw [if_pos a3]
        split <;> omega
      · rw [if_neg a3, if_neg (show ¬ y ≤ 65535 by omega)]
        omega
theorem cov1 {a b x : Int} : covers ([a].zip [b]) [x] ↔ a ≤ x ∧ x ≤ b := covers1
theorem cov2 {a b x : Int} (h : Al a b 64) : covers ([192 + a / 64, 128 + a % 64].zip [192 + b / 64, 128 + b % 64]) [192 + x / 64, 128 + x % 64] ↔ a ≤ x ∧ x ≤ b := by
  rw [covers2, dig h]; omega
theorem cov3 {a b x : Int} (h : Al a b 64) (h2 : Al a b 4096) : covers ([224 + a / 4096, 128 + a / 64 % 64, 128 + a % 64].zip [224 + b / 4096, 128 + b / 64 % 64, 128 + b % 64]) [224 + x / 4096, 128 + x / 64 % 64, 128 + x % 64] ↔ a ≤ x ∧ x ≤ b := by
  rw [covers3, dig h, dig (al1 h2), dd, dd, dd]
  generalize a / 4096 = a2; generalize b / 4096 = b2; generalize x / 4096 = x2
  generalize a / 64 % 64 = a1; generalize b / 64 % 64 = b1; generalize x / 64 % 64 = x1
  generalize a % 64 = a0; generalize b % 64 = b0; generalize x % 64 = x0
  omega
theorem cov4 {a b x : Int} (h : Al a b 64) (h2 : Al a b 4096) (h3 : Al a b 262144) : covers ([240 + a / 262144, 128 + a / 4096 % 64, 128 + a / 64 % 64, 128 + a % 64].zip [240 + b / 262144, 128 + b / 4096 % 64, 128 + b / 64 % 64, 128 + b % 64]) [240 + x / 262144, 128 + x / 4096 % 64, 128 + x / 64 % 64, 128 + x % 64] ↔ a ≤ x ∧ x ≤ b := by
  rw [covers4, dig h, dig (al1 h2), dig (al2 h3), ddd, ddd, ddd, dd, dd, dd]
  generalize a / 262144 = a3; generalize b / 262144 = b3; generalize x / 262144 = x3
  generalize a / 4096 % 64 = a2; generalize b / 4096 % 64 = b2; generalize x / 4096 % 64 = x2
  generalize a / 64 % 64 = a1; generalize b / 64 % 64 = b1; generalize x / 64 % 64 = x1
  generalize a % 64 = a0; generalize b % 64 = b0; generalize x % 64 = x0
  omega
theorem bytes1 {x : Int} (h : x ≤ 127) : ubytes x = [x] := by unfold ubytes; rw [if_pos h]
theorem bytes2 {x : Int} (h : ¬ x ≤ 127) (h2 : x ≤ 2047) : ubytes x = [192 + x / 64, 128 + x % 64] := by unfold ubytes; rw [if_neg h, if_pos h2]
theorem bytes3 {x : Int} (h : ¬ x ≤ 127) (h2 : ¬ x ≤ 2047) (h3 : x ≤ 65535) : ubytes x = [224 + x / 4096, 128 + x / 64 % 64, 128 + x % 64] := by unfold ubytes; rw [if_neg h, if_neg h2, if_pos h3]
theorem bytes4 {x : Int} (h : ¬ x ≤ 127) (h2 : ¬ x ≤ 2047) (h3 : ¬ x ≤ 65535) : ubytes x = [240 + x / 262144, 128 + x / 4096 % 64, 128 + x / 64 % 64, 128 + x % 64] := by unfold ubytes; rw [if_neg h, if_neg h2, if_neg h3]
theorem wid1 {x : Int} (h : x ≤ 127) : wid x = 1 := by unfold wid; rw [if_pos h]
theorem wid2 {x : Int} (h : ¬ x ≤ 127) (h2 : x ≤ 2047) : wid x = 2 := by unfold wid; rw [if_neg h, if_pos h2]
theorem wid3 {x : Int} (h : ¬ x ≤ 127) (h2 : ¬ x ≤ 2047) (h3 : x ≤ 65535) : wid x = 3 := by unfold wid; rw [if_neg h, if_neg h2, if_pos h3]
theorem wid4 {x : Int} (h : ¬ x ≤ 127) (h2 : ¬ x ≤ 2047) (h3 : ¬ x ≤ 65535) : wid x = 4 := by unfold wid; rw [if_neg h, if_neg h2, if_neg h3]
/-- What a width says of a number. -/
theorem wid_cases (x : Int) : (wid x = 1 ∧ x ≤ 127) ∨ (wid x = 2 ∧ ¬ x ≤ 127 ∧ x ≤ 2047) ∨ (wid x = 3 ∧ ¬ x ≤ 127 ∧ ¬ x ≤ 2047 ∧ x ≤ 65535) ∨ (wid x = 4 ∧ ¬ x ≤ 127 ∧ ¬ x ≤ 2047 ∧ ¬ x ≤ 65535) := by
  by_cases h1 : x ≤ 127
  · exact Or.inl ⟨wid1 h1, h1⟩
  · by_cases h2 : x ≤ 2047
    · exact Or.inr (Or.inl ⟨wid2 h1 h2, h1, h2⟩)
    · by_cases h3 : x ≤ 65535
      · exact Or.inr (Or.inr (Or.inl ⟨wid3 h1 h2 h3, h1, h2, h3⟩))
      · exact Or.inr (Or.inr (Or.inr ⟨wid4 h1 h2 h3, h1, h2, h3⟩))
/-- A letter is in a good range just if its ubytes are within the ranges. -/
theorem good_covers {a b x : Int} (h : Good a b) : covers (seqOf (a, b)) (ubytes x) ↔ a ≤ x ∧ x ≤ b := by
  have hwb := good_wid h
  by_cases hw : wid x = wid a
  · have hal : ¬ a ≤ 127 → Al a b 64 ∧ Al a b 4096 ∧ Al a b 262144 := by
      intro h1
      obtain ⟨_, _, h3, _, h5⟩ := h
      rcases h5 with h5 | ⟨_, _, h7⟩
      · omega
      · exact h7
    unfold seqOf
    rcases wid_cases a with ⟨e1, a1⟩ | ⟨e1, a1, a2⟩ | ⟨e1, a1, a2, a3⟩ | ⟨e1, a1, a2, a3⟩ <;>
      rcases wid_cases b with ⟨e2, b1⟩ | ⟨e2, b1, b2⟩ | ⟨e2, b1, b2, b3⟩ | ⟨e2, b1, b2, b3⟩ <;> (try omega) <;>
      rcases wid_cases x with ⟨e3, x1⟩ | ⟨e3, x1, x2⟩ | ⟨e3, x1, x2, x3⟩ | ⟨e3, x1, x2, x3⟩ <;> (try omega)
    · rw [bytes1 a1, bytes1 b1, bytes1 x1]; exact cov1
    · rw [bytes2 a1 a2, bytes2 b1 b2, bytes2 x1 x2]; exact cov2 (hal a1).1
    · rw [bytes3 a1 a2 a3, bytes3 b1 b2 b3, bytes3 x1 x2 x3]; exact cov3 (hal a1).1 (hal a1).2.1
    · rw [bytes4 a1 a2 a3, bytes4 b1 b2 b3, bytes4 x1 x2 x3]; exact cov4 (hal a1).1 (hal a1).2.1 (hal a1).2.2
  · constructor
    · rintro ⟨h1, _⟩
      rw [seqOf_len h, wid_len] at h1
      exact absurd h1.symm hw
    · rintro ⟨h1, h2⟩
      have := wid_mono h1
      have := wid_mono h2
      omega
/-! ### What has been put out, and what is still to be cut -/
/-- Ranges still to come hold just the letters from p to hi. -/
def Tile (hi : Int) : Int → List (Int × Int) → Prop
  | p, [] => ∀ x, Let x → p ≤ x → hi < x
  | p, (s, e) :: t => p ≤ s ∧ (∀ x, Let x → p ≤ x → x ≤ hi → s ≤ x) ∧ (∀ x, Let x → s ≤ x → x ≤ e → p ≤ x ∧ x ≤ hi) ∧ (s ≤ e → Tile hi (e + 1) t) ∧ (e < s → Tile hi p t)
structure OutOk (lo hi p : Int) (out : List (Int × Int)) : Prop where
  low : lo ≤ p
  good : ∀ q ∈ out, Good q.1 q.2 ∧ lo ≤ q.1 ∧ q.2 < p ∧ q.2 ≤ hi
  rise : out.Pairwise fun q r => q.2 < r.1
  all : ∀ x, Let x → lo ≤ x → x < p → ∃ q ∈ out, q.1 ≤ x ∧ x ≤ q.2
def Bd (q : Int × Int) : Prop := 0 ≤ q.1 ∧ q.1 ≤ 1114111 ∧ 0 ≤ q.2 ∧ q.2 ≤ 1114111
def wgt (q : Int × Int) : Nat := if q.1 < 57344 ∧ 55295 < q.2 then max 2 (2 * (q.2 - q.1 + 1) - 1).toNat else max 1 (2 * (q.2 - q.1 + 1) - 1).toNat
def phi (l : List (Int × Int)) : Nat := (l.map wgt).sum
theorem phi_cons (q : Int × Int) (l : List (Int × Int)) : phi (q :: l) = wgt q + phi l := by simp [phi]
theorem wgt_pos (q : Int × Int) : 1 ≤ wgt q := by unfold wgt; split <;> omega
theorem tile_down {hi : Int} {l : List (Int × Int)} : ∀ {p p' : Int}, Tile hi p l → p' ≤ p → (∀ x, Let x → p' ≤ x → x ≤ hi → p ≤ x) → Tile hi p' l := by
  induction l with
  | nil =>
    intro p p' h hp hx x hl hxp
    rcases Int.lt_or_le hi x with h1 | h1
    · exact h1
    · exact h x hl (hx x hl hxp h1)
  | cons q t ih =>
    intro p p' h hp hx
    obtain ⟨s, e⟩ := q
    obtain ⟨h0, h1, h2, h3, h4⟩ := h
    exact ⟨by omega, fun x hl a b => h1 x hl (hx x hl a b) b, fun x hl a b => ⟨by have := (h2 x hl a b).1; omega, (h2 x hl a b).2⟩, h3, fun he => ih (h4 he) hp hx⟩
theorem tile_start (lo hi : Int) : Tile hi lo [(lo, hi)] :=
  ⟨Int.le_refl _, fun x _ h _ => h, fun x _ h1 h2 => ⟨h1, h2⟩, fun _ x _ h => by omega, fun h x _ h1 => by omega⟩
theorem out_start (lo hi : Int) : OutOk lo hi lo [] := ⟨Int.le_refl _, by simp, by simp, fun x _ h1 h2 => by omega⟩
theorem let_sur {x : Int} (h : Let x) : x ≤ 55295 ∨ 57344 ≤ x := by unfold Let at h; omega
theorem tile_split {hi p s e : Int} {t : List (Int × Int)} (h : Tile hi p ((s, e) :: t)) (h1 : s < 57344) (h2 : 55295 < e) : Tile hi p ((s, 55295) :: (57344, e) :: t) := by
  obtain ⟨z, a, b, c, d⟩ := h
  refine ⟨z, a, fun x hl h3 h4 => b x hl h3 (by omega), fun h3 => ?_, fun h3 => ?_⟩
  · refine ⟨by omega, fun x hl h4 h5 => by have := let_sur hl; omega, fun x hl h4 h5 => ?_, fun h4 => c (by omega), fun h4 => ?_⟩
    · have := b x hl (by omega) h5
      omega
    · exact tile_down (c (by omega)) (by omega) fun x hl h5 h6 => by have := let_sur hl; omega
  · refine ⟨by omega, fun x hl h4 h5 => by have := let_sur hl; have := a x hl h4 h5; omega, fun x hl h4 h5 => b x hl (by omega) h5, fun h4 => c (by omega), fun h4 => ?_⟩
    rcases Int.lt_or_le e s with h5 | h5
    · exact d h5
    · exact tile_down (c h5) (by omega) fun x hl h6 h7 => by have := let_sur hl; have := a x hl h6 h7; omega
theorem tile_bad {hi p s e : Int} {t : List (Int × Int)} (h : Tile hi p ((s, e) :: t)) (h1 : e < s) : Tile hi p t := h.2.2.2.2 h1
theorem tile_cut {hi p s e m : Int} {t : List (Int × Int)} (h : Tile hi p ((s, e) :: t)) (h1 : s ≤ m) (h2 : m < e) : Tile hi p ((s, m) :: (m + 1, e) :: t) := by
  obtain ⟨z, a, b, c, d⟩ := h
  refine ⟨z, a, fun x hl h3 h4 => b x hl h3 (by omega), fun h3 => ?_, fun h3 => by omega⟩
  refine ⟨Int.le_refl _, fun x hl h4 h5 => h4, fun x hl h4 h5 => ⟨h4, (b x hl (by omega) h5).2⟩, fun h4 => c (by omega), fun h4 => by omega⟩
theorem out_put {lo hi p s e : Int} {t out : List (Int × Int)} (ho : OutOk lo hi p out) (h : Tile hi p ((s, e) :: t)) (hg : Good s e) : OutOk lo hi (e + 1) (out ++ [(s, e)]) ∧ Tile hi (e + 1) t := by
  obtain ⟨z, a, b, c, d⟩ := h
  have hse : s ≤ e := hg.2.2.1
  have hls : Let s := by unfold Good at hg; unfold Let; omega
  have hle : Let e := by unfold Good at hg; unfold Let; omega
  have hs := b s hls (Int.le_refl _) hse
  have he := b e hle hse (Int.le_refl _)
  refine ⟨⟨by have := ho.low; omega, fun q hq => ?_, ?_, fun x hl h1 h2 => ?_⟩, c hse⟩
  · rcases List.mem_append.1 hq with hq | hq
    · obtain ⟨g1, g2, g3, g4⟩ := ho.good q hq
      exact ⟨g1, g2, by omega, g4⟩
    · simp only [List.mem_singleton] at hq
      subst hq
      exact ⟨hg, by have := ho.low; simp only; omega, by simp only; omega, he.2⟩
  · rw [List.pairwise_append]
    refine ⟨ho.rise, by simp, fun q hq r hr => ?_⟩
    simp only [List.mem_singleton] at hr
    subst hr
    have := (ho.good q hq).2.2.1
    simp only; omega
  · by_cases h3 : x < p
    · obtain ⟨q, hq, h4⟩ := ho.all x hl h1 h3
      exact ⟨q, List.mem_append_left _ hq, h4⟩
    · refine ⟨(s, e), by simp, ?_, by simp only; omega⟩
      exact a x hl (by omega) (by omega)
/-- At the end. -/
structure Done (lo hi : Int) (out : List (Int × Int)) : Prop where
  good : ∀ q ∈ out, Good q.1 q.2 ∧ lo ≤ q.1 ∧ q.2 ≤ hi
  rise : out.Pairwise fun q r => q.2 < r.1
  all : ∀ x, Let x → lo ≤ x → x ≤ hi → ∃ q ∈ out, q.1 ≤ x ∧ x ≤ q.2
theorem done_of {lo hi p : Int} {out : List (Int × Int)} (ho : OutOk lo hi p out) (h : Tile hi p []) : Done lo hi out := by
  refine ⟨fun q hq => ?_, ho.rise, fun x hl h1 h2 => ?_⟩
  · obtain ⟨a, b, _, d⟩ := ho.good q hq
    exact ⟨a, b, d⟩
  · rcases Int.lt_or_le x p with h3 | h3
    · exact ho.all x hl h1 h3
    · have := h x hl h3
      omega
theorem wgt_split {s e : Int} (h1 : s < 57344) (h2 : 55295 < e) : wgt (s, 55295) + wgt (57344, e) ≤ wgt (s, e) := by
  unfold wgt; simp only
  rw [if_neg (by omega), if_neg (by omega), if_pos (by omega)]
  omega
theorem wgt_cut {s e m : Int} (h0 : ¬ (s < 57344 ∧ 55295 < e)) (h1 : s ≤ m) (h2 : m < e) : wgt (s, m) + wgt (m + 1, e) ≤ wgt (s, e) := by
  unfold wgt; simp only
  rw [if_neg (by omega), if_neg (by omega), if_neg (by omega)]
  omega
end Go.Utf
