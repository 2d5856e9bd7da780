/- Counts and order of the ranges that NewSequences gives: plain mathematics. No program in sight. -/
import Derived.Test.YtanimdajohpggaaDoorSeqMath
namespace Go.Utf
/-- A letter is in a range. -/
def covB (q : Int × Int) (x : Int) : Bool := decide (q.1 ≤ x) && decide (x ≤ q.2)
theorem covB_iff (q : Int × Int) (x : Int) : covB q x = true ↔ q.1 ≤ x ∧ x ≤ q.2 := by unfold covB; simp
/-- How many strings of bytes are within ranges. -/
def many (l : List (Int × Int)) : Int := l.foldl (fun n p => n * (p.2 - p.1 + 1)) 1
theorem many_snoc (l : List (Int × Int)) (p : Int × Int) : many (l ++ [p]) = many l * (p.2 - p.1 + 1) := by unfold many; simp
theorem step64 {a b : Int} (h : Al a b 64) : (b / 64 - a / 64 + 1) * (b % 64 - a % 64 + 1) = b - a + 1 := by
  unfold Al at h
  rcases h with h | ⟨h1, h2⟩
  · rw [h, show b / 64 - b / 64 + 1 = 1 by omega, Int.one_mul]; omega
  · rw [h1, h2, show (64 - 1 - 0 + 1 : Int) = 64 by rfl]; omega
theorem dig_le {a b : Int} (h : Al a b 64) (h1 : a ≤ b) : a % 64 ≤ b % 64 ∧ a / 64 ≤ b / 64 := by unfold Al at h; omega
theorem good_al {a b : Int} (h : Good a b) (h1 : ¬ a ≤ 127) : Al a b 64 ∧ Al a b 4096 ∧ Al a b 262144 := by
  obtain ⟨_, _, h3, _, h5⟩ := h
  rcases h5 with h5 | ⟨_, _, h7⟩
  · omega
  · exact h7
theorem good_many {a b : Int} (h : Good a b) : many (seqOf (a, b)) = b - a + 1 := by
  have hwb := good_wid h
  unfold seqOf
  rcases wid_cases a with ⟨e1, a1⟩ | ⟨e1, a1, a2⟩ | ⟨e1, a1, a2, a3⟩ | ⟨e1, a1, a2, a3⟩ <;>
    rcases wid_cases b with ⟨e2, b1⟩ | ⟨e2, b1, b2⟩ | ⟨e2, b1, b2, b3⟩ | ⟨e2, b1, b2, b3⟩ <;> (try omega)
  · rw [bytes1 a1, bytes1 b1]; simp [many]
  · obtain ⟨h1, h2, h3⟩ := good_al h a1
    rw [bytes2 a1 a2, bytes2 b1 b2]
    simp only [many, List.zip_cons_cons, List.zip_nil_right, List.foldl_cons, List.foldl_nil, Int.one_mul]
    rw [show (192 + b / 64) - (192 + a / 64) + 1 = b / 64 - a / 64 + 1 by omega, show (128 + b % 64) - (128 + a % 64) + 1 = b % 64 - a % 64 + 1 by omega, step64 h1]
  · obtain ⟨h1, h2, h3⟩ := good_al h a1
    rw [bytes3 a1 a2 a3, bytes3 b1 b2 b3]
    simp only [many, List.zip_cons_cons, List.zip_nil_right, List.foldl_cons, List.foldl_nil, Int.one_mul]
    rw [show (224 + b / 4096) - (224 + a / 4096) + 1 = b / 64 / 64 - a / 64 / 64 + 1 by omega, show (128 + b / 64 % 64) - (128 + a / 64 % 64) + 1 = b / 64 % 64 - a / 64 % 64 + 1 by omega,
      show (128 + b % 64) - (128 + a % 64) + 1 = b % 64 - a % 64 + 1 by omega, step64 (al1 h2), step64 h1]
  · obtain ⟨h1, h2, h3⟩ := good_al h a1
    rw [bytes4 a1 a2 a3, bytes4 b1 b2 b3]
    simp only [many, List.zip_cons_cons, List.zip_nil_right, List.foldl_cons, List.foldl_nil, Int.one_mul]
    rw [show (240 + b / 262144) - (240 + a / 262144) + 1 = b / 64 / 64 / 64 - a / 64 / 64 / 64 + 1 by omega, show (128 + b / 4096 % 64) - (128 + a / 4096 % 64) + 1 = b / 64 / 64 % 64 - a / 64 / 64 % 64 + 1 by omega,
      show (128 + b / 64 % 64) - (128 + a / 64 % 64) + 1 = b / 64 % 64 - a / 64 % 64 + 1 by omega,
      show (128 + b % 64) - (128 + a % 64) + 1 = b % 64 - a % 64 + 1 by omega, step64 (al2 h3), step64 (al1 h2), step64 h1]
theorem good_digits {a b : Int} (h : Good a b) : ∀ p ∈ seqOf (a, b), p.1 ≤ p.2 ∧ 0 ≤ p.1 ∧ p.2 ≤ 255 := by
  have hwb := good_wid h
  have hab := h.2.2.1
  have h0 := h.1
  have hm := h.2.1
  unfold seqOf
  rcases wid_cases a with ⟨e1, a1⟩ | ⟨e1, a1, a2⟩ | ⟨e1, a1, a2, a3⟩ | ⟨e1, a1, a2, a3⟩ <;>
    rcases wid_cases b with ⟨e2, b1⟩ | ⟨e2, b1, b2⟩ | ⟨e2, b1, b2, b3⟩ | ⟨e2, b1, b2, b3⟩ <;> (try omega)
  · rw [bytes1 a1, bytes1 b1]; simp; omega
  · obtain ⟨h1, h2, h3⟩ := good_al h a1
    have d1 := dig_le h1 hab
    rw [bytes2 a1 a2, bytes2 b1 b2]; simp; omega
  · obtain ⟨h1, h2, h3⟩ := good_al h a1
    have d1 := dig_le h1 hab
    have d2 := dig_le (al1 h2) d1.2
    rw [bytes3 a1 a2 a3, bytes3 b1 b2 b3]; simp; omega
  · obtain ⟨h1, h2, h3⟩ := good_al h a1
    have d1 := dig_le h1 hab
    have d2 := dig_le (al1 h2) d1.2
    have d3 := dig_le (al2 h3) d2.2
    rw [bytes4 a1 a2 a3, bytes4 b1 b2 b3]; simp; omega
/-- How many letters there are. -/
def btw (f t : Int) : Int := if f > t then 0 else t - f + 1 - (if max f 55296 ≤ min t 57343 then min t 57343 - max f 55296 + 1 else 0)
theorem btw_nil {f t : Int} (h0 : 0 ≤ f) (ht : t ≤ 1114111) (h : ∀ x, Let x → f ≤ x → t < x) : btw f t = 0 := by
  have h1 := h f
  have h2 := h 57344
  have h3 := h 1114111
  unfold Let at h1 h2 h3
  unfold btw
  split
  · rfl
  · split <;> omega
theorem btw_skip {f g t : Int} (h0 : 0 ≤ f) (hfg : f ≤ g) (hgt : g ≤ t) (hg : Let g) (h : ∀ x, Let x → f ≤ x → g ≤ x) : btw f t = btw g t := by
  have h1 := h f
  have h2 := h 57344
  unfold Let at h1 h2 hg
  rcases (show f = g ∨ (55296 ≤ f ∧ f ≤ 57343 ∧ g = 57344) by omega) with rfl | ⟨a1, a2, rfl⟩
  · rfl
  · unfold btw
    rw [if_neg (show ¬ f > t by omega), if_neg (show ¬ (57344 : Int) > t by omega), if_pos (show max f 55296 ≤ min t 57343 by omega), if_neg (show ¬ max (57344 : Int) 55296 ≤ min t 57343 by omega)]
    omega
theorem btw_head {a b t : Int} (hab : a ≤ b) (hbt : b ≤ t) (hs : b < 55296 ∨ 57343 < a) : btw a t = (b - a + 1) + btw (b + 1) t := by
  unfold btw
  rw [if_neg (by omega)]
  by_cases h : b + 1 > t
  · rw [if_pos h]
    split <;> omega
  · rw [if_neg h]
    split <;> split <;> omega
theorem sum_btw {hi : Int} (hhi : hi ≤ 1114111) : ∀ (l : List (Int × Int)) (p : Int), 0 ≤ p → (∀ q ∈ l, Good q.1 q.2 ∧ p ≤ q.1 ∧ q.2 ≤ hi) → l.Pairwise (fun q r => q.2 < r.1) →
    (∀ x, Let x → p ≤ x → x ≤ hi → ∃ q ∈ l, q.1 ≤ x ∧ x ≤ q.2) → (l.map fun q => q.2 - q.1 + 1).sum = btw p hi := by
  intro l
  induction l with
  | nil =>
    intro p hp _ _ h
    rw [btw_nil hp hhi fun x hx h1 => ?_]
    · rfl
    · rcases Int.lt_or_le hi x with h2 | h2
      · exact h2
      · obtain ⟨q, hq, _⟩ := h x hx h1 h2
        simp at hq
  | cons q t ih =>
    intro p hp hq hpw h
    obtain ⟨hg, h1, h2⟩ := hq q (by simp)
    obtain ⟨p1, p2⟩ := List.pairwise_cons.1 hpw
    have hab := hg.2.2.1
    have hla : Let q.1 := by unfold Good at hg; unfold Let; omega
    have hlow : ∀ x, Let x → p ≤ x → q.1 ≤ x := by
      intro x hx hpx
      rcases Int.lt_or_le x q.1 with h3 | h3
      · obtain ⟨r, hr, h4, h5⟩ := h x hx hpx (by omega)
        rcases List.mem_cons.1 hr with rfl | hr
        · omega
        · have := p1 r hr; omega
      · exact h3
    rw [btw_skip hp h1 (by omega) hla hlow, btw_head hab h2 hg.2.2.2.1, List.map_cons, List.sum_cons]
    congr 1
    refine ih (q.2 + 1) (by have := hg.1; omega) (fun r hr => ⟨(hq r (by simp [hr])).1, by have := p1 r hr; omega, (hq r (by simp [hr])).2.2⟩) p2 fun x hx h3 h4 => ?_
    obtain ⟨r, hr, h5, h6⟩ := h x hx (by omega) h4
    rcases List.mem_cons.1 hr with rfl | hr
    · omega
    · exact ⟨r, hr, h5, h6⟩
theorem done_sum {lo hi : Int} {out : List (Int × Int)} (h : Done lo hi out) (h0 : 0 ≤ lo) (h1 : hi ≤ 1114111) : (out.map fun q => q.2 - q.1 + 1).sum = btw lo hi :=
  sum_btw h1 out lo h0 h.good h.rise h.all
theorem btw_le {f t : Int} (h0 : 0 ≤ f) (h1 : t ≤ 1114111) : 0 ≤ btw f t ∧ btw f t ≤ 1114112 := by
  unfold btw
  split
  · omega
  · split <;> omega
theorem sum_take {l : List Int} (h : ∀ x ∈ l, 0 ≤ x) (k : Nat) : 0 ≤ (l.take k).sum ∧ (l.take k).sum ≤ l.sum := by
  induction l generalizing k with
  | nil => simp
  | cons c r ih =>
    cases k with
    | zero =>
      have := ih (fun x hx => h x (by simp [hx])) r.length
      rw [List.take_length] at this
      have hc := h c (by simp)
      simp; omega
    | succ k =>
      have := ih (fun x hx => h x (by simp [hx])) k
      have hc := h c (by simp)
      simp; omega
theorem done_covB {lo hi x : Int} {out : List (Int × Int)} (h : Done lo hi out) (hx : Let x) : (0 < (out.filter fun q => covB q x).length) ↔ (lo ≤ x ∧ x ≤ hi) := by
  rw [List.length_pos_iff_exists_mem]
  constructor
  · rintro ⟨q, hq⟩
    obtain ⟨h1, h2⟩ := List.mem_filter.1 hq
    have := (covB_iff q x).1 h2
    have := (h.good q h1).2
    omega
  · rintro ⟨h1, h2⟩
    obtain ⟨q, hq, h3⟩ := h.all x hx h1 h2
    exact ⟨q, List.mem_filter.2 ⟨hq, (covB_iff q x).2 h3⟩⟩
/-- The order of bytes. -/
def lessI : List Int → List Int → Bool
  | _, [] => false
  | [], _ :: _ => true
  | a :: s, b :: t => if a = b then lessI s t else decide (a < b)
theorem less1 {x y : Int} : lessI [x] [y] = decide (x < y) := by simp [lessI]; omega
theorem less_cons_lt {a b : Int} {s t : List Int} (h : a < b) : lessI (a :: s) (b :: t) = true := by simp only [lessI]; rw [if_neg (by omega)]; simp [h]
theorem less_cons_eq {a b : Int} {s t : List Int} (h : a = b) : lessI (a :: s) (b :: t) = lessI s t := by simp only [lessI]; rw [if_pos h]
theorem ubytes_less {x y : Int} (h0 : 0 ≤ x) (h : x < y) : lessI (ubytes x) (ubytes y) = true := by
  rcases wid_cases x with ⟨_, a1⟩ | ⟨_, a1, a2⟩ | ⟨_, a1, a2, a3⟩ | ⟨_, a1, a2, a3⟩ <;>
    rcases wid_cases y with ⟨_, b1⟩ | ⟨_, b1, b2⟩ | ⟨_, b1, b2, b3⟩ | ⟨_, b1, b2, b3⟩ <;> (try omega)
  · rw [bytes1 a1, bytes1 b1, less1]; simpa using h
  · rw [bytes1 a1, bytes2 b1 b2]; exact less_cons_lt (by omega)
  · rw [bytes1 a1, bytes3 b1 b2 b3]; exact less_cons_lt (by omega)
  · rw [bytes1 a1, bytes4 b1 b2 b3]; exact less_cons_lt (by omega)
  · rw [bytes2 a1 a2, bytes2 b1 b2]
    rcases (show x / 64 < y / 64 ∨ x / 64 = y / 64 by omega) with h1 | h1
    · exact less_cons_lt (by omega)
    · rw [less_cons_eq (by omega)]; exact less_cons_lt (by omega)
  · rw [bytes2 a1 a2, bytes3 b1 b2 b3]; exact less_cons_lt (by omega)
  · rw [bytes2 a1 a2, bytes4 b1 b2 b3]; exact less_cons_lt (by omega)
  · rw [bytes3 a1 a2 a3, bytes3 b1 b2 b3]
    rcases (show x / 4096 < y / 4096 ∨ x / 4096 = y / 4096 by omega) with h1 | h1
    · exact less_cons_lt (by omega)
    · rw [less_cons_eq (by omega)]
      rcases (show x / 64 % 64 < y / 64 % 64 ∨ x / 64 % 64 = y / 64 % 64 by omega) with h2 | h2
      · exact less_cons_lt (by omega)
      · rw [less_cons_eq (by omega)]; exact less_cons_lt (by omega)
  · rw [bytes3 a1 a2 a3, bytes4 b1 b2 b3]; exact less_cons_lt (by omega)
  · rw [bytes4 a1 a2 a3, bytes4 b1 b2 b3]
    rcases (show x / 262144 < y / 262144 ∨ x / 262144 = y / 262144 by omega) with h1 | h1
    · exact less_cons_lt (by omega)
    · rw [less_cons_eq (by omega)]
      rcases (show x / 4096 % 64 < y / 4096 % 64 ∨ x / 4096 % 64 = y / 4096 % 64 by omega) with h2 | h2
      · exact less_cons_lt (by omega)
      · rw [less_cons_eq (by omega)]
        rcases (show x / 64 % 64 < y / 64 % 64 ∨ x / 64 % 64 = y / 64 % 64 by omega) with h3 | h3
        · exact less_cons_lt (by omega)
        · rw [less_cons_eq (by omega)]; exact less_cons_lt (by omega)
theorem zip_fst {α β : Type} : ∀ (l : List α) (m : List β), l.length = m.length → (l.zip m).map (·.1) = l := by
  intro l
  induction l with
  | nil => intro m _; simp
  | cons a r ih => intro m h; cases m with
    | nil => simp at h
    | cons b t => simp at h; simp [ih t h]
theorem zip_snd {α β : Type} : ∀ (l : List α) (m : List β), l.length = m.length → (l.zip m).map (·.2) = m := by
  intro l
  induction l with
  | nil => intro m h; cases m <;> simp_all
  | cons a r ih => intro m h; cases m with
    | nil => simp at h
    | cons b t => simp at h; simp [ih t h]
theorem seqOf_fst {a b : Int} (h : Good a b) : (seqOf (a, b)).map (·.1) = ubytes a := zip_fst _ _ (by rw [wid_len, wid_len, good_wid h])
theorem seqOf_snd {a b : Int} (h : Good a b) : (seqOf (a, b)).map (·.2) = ubytes b := zip_snd _ _ (by rw [wid_len, wid_len, good_wid h])
end Go.Utf
