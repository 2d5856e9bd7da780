/- Places at which words of an expression end, as spec.Reached tells them: plain. (and what follows) -/
import Derived.Test.YtnpchkohfomagaaDoorRgPa
import Derived.Test.YtnpchkohfomagaaDoorRgXa
import Derived.Deep.DeepCutAuto
import Derived.Test.YtnpchkohfomagaaDoorRgJa
import Derived.Deep.QuietTactic
import Derived.Test.YtnpchkohfomagaaDoorBits32
import Derived.BigQuiet
import Derived.Test.YtnpchkohfomagaaDoorUtf0
/-! Places at which words of an expression end, as spec.Reached tells them: plain. -/
namespace Go.Rg
set_option linter.unusedVariables false
/-- Where a word of L can end that begins at a place of P. -/
def Rch (L : List Nat → Prop) (s : List Nat) (P : Nat → Prop) (j : Nat) : Prop := j ≤ s.length ∧ ∃ i, i ≤ j ∧ P i ∧ L ((s.take j).drop i)
theorem sg_len (s : List Nat) (i j : Nat) (hj : j ≤ s.length) : ((s.take j).drop i).length = j - i := by simp; omega
theorem seg_cut (s : List Nat) {i k j : Nat} (h1 : i ≤ k) (h2 : k ≤ j) (hj : j ≤ s.length) : (s.take j).drop i = (s.take k).drop i ++ (s.take j).drop k := by
  have e : s.take j = s.take k ++ (s.take j).drop k := by
    have h := (List.take_append_drop k (s.take j)).symm
    rw [List.take_take, Nat.min_eq_left h2] at h
    exact h
  conv => lhs; rw [e, List.drop_append_of_le_length (by simp; omega)]
theorem seg_part (s : List Nat) {i j : Nat} {a b : List Nat} (hij : i ≤ j) (hj : j ≤ s.length) (h : (s.take j).drop i = a ++ b) : i + a.length ≤ j ∧ a = (s.take (i + a.length)).drop i ∧ b = (s.take j).drop (i + a.length) := by
  have hl := congrArg List.length h
  rw [sg_len s i j hj, List.length_append] at hl
  have hk : i + a.length ≤ j := by omega
  have hc := seg_cut s (i := i) (k := i + a.length) (j := j) (by omega) hk hj
  rw [h] at hc
  have h1 := List.append_inj hc (by rw [sg_len s _ _ (by omega)]; omega)
  exact ⟨hk, h1.1, h1.2⟩
theorem Rch.congr {L L' : List Nat → Prop} (h : ∀ x, L x ↔ L' x) {P P' : Nat → Prop} {s : List Nat} (hP : ∀ i, i ≤ s.length → (P i ↔ P' i)) (j : Nat) : Rch L s P j ↔ Rch L' s P' j :=
  ⟨fun ⟨hj, i, hi, hp, hl⟩ => ⟨hj, i, hi, (hP i (by omega)).1 hp, (h _).1 hl⟩, fun ⟨hj, i, hi, hp, hl⟩ => ⟨hj, i, hi, (hP i (by omega)).2 hp, (h _).2 hl⟩⟩
theorem rch_eps (s : List Nat) (P : Nat → Prop) (j : Nat) : Rch (fun x => x = []) s P j ↔ (j ≤ s.length ∧ P j) := by
  constructor
  · rintro ⟨hj, i, hi, hp, hl⟩
    have h := congrArg List.length hl
    rw [sg_len s i j hj, List.length_nil] at h
    obtain rfl : i = j := by omega
    exact ⟨hj, hp⟩
  · rintro ⟨hj, hp⟩
    exact ⟨hj, j, Nat.le_refl _, hp, by show (s.take j).drop j = []; rw [List.drop_eq_nil_iff]; simp; omega⟩
theorem rch_cat (A B : List Nat → Prop) (s : List Nat) (P : Nat → Prop) (j : Nat) : Rch (fun x => ∃ a b, x = a ++ b ∧ A a ∧ B b) s P j ↔ Rch B s (Rch A s P) j := by
  constructor
  · rintro ⟨hj, i, hi, hp, a, b, hx, ha, hb⟩
    obtain ⟨hk, e1, e2⟩ := seg_part s hi hj hx
    exact ⟨hj, i + a.length, hk, ⟨by omega, i, by omega, hp, e1 ▸ ha⟩, e2 ▸ hb⟩
  · rintro ⟨hj, k, hk, ⟨_, i, hi, hp, ha⟩, hb⟩
    exact ⟨hj, i, by omega, hp, _, _, seg_cut s hi hk hj, ha, hb⟩
theorem rch_or (A B : List Nat → Prop) (s : List Nat) (P : Nat → Prop) (j : Nat) : Rch (fun x => A x ∨ B x) s P j ↔ (Rch A s P j ∨ Rch B s P j) := by
  constructor
  · rintro ⟨hj, i, hi, hp, h | h⟩
    · exact .inl ⟨hj, i, hi, hp, h⟩
    · exact .inr ⟨hj, i, hi, hp, h⟩
  · rintro (⟨hj, i, hi, hp, h⟩ | ⟨hj, i, hi, hp, h⟩)
    · exact ⟨hj, i, hi, hp, .inl h⟩
    · exact ⟨hj, i, hi, hp, .inr h⟩
/-- So many steps. -/
def itr (L : List Nat → Prop) (s : List Nat) : Nat → (Nat → Prop) → Nat → Prop
  | 0, P => P
  | k + 1, P => Rch L s (itr L s k P)
theorem itr_shift (L : List Nat → Prop) (s : List Nat) : ∀ (k : Nat) (P : Nat → Prop), itr L s k (Rch L s P) = Rch L s (itr L s k P)
  | 0, _ => rfl
  | k + 1, P => by show Rch L s (itr L s k (Rch L s P)) = _; rw [itr_shift L s k P]; rfl
theorem itr_add (L : List Nat → Prop) (s : List Nat) (m : Nat) (P : Nat → Prop) : ∀ k, itr L s k (itr L s m P) = itr L s (m + k) P
  | 0 => rfl
  | k + 1 => by show Rch L s (itr L s k (itr L s m P)) = Rch L s (itr L s (m + k) P); rw [itr_add L s m P k]
theorem itr_le {L : List Nat → Prop} {s : List Nat} {P : Nat → Prop} (hP : ∀ i, P i → i ≤ s.length) : ∀ (k j : Nat), itr L s k P j → j ≤ s.length
  | 0, j, h => hP j h
  | _ + 1, _, h => h.1
theorem rch_pow (L : List Nat → Prop) (s : List Nat) (P : Nat → Prop) (hP : ∀ i, P i → i ≤ s.length) : ∀ (k j : Nat), Rch (Pow L k) s P j ↔ itr L s k P j
  | 0, j => (rch_eps s P j).trans ⟨fun h => h.2, fun h => ⟨hP j h, h⟩⟩
  | k + 1, j => (rch_cat (Pow L k) L s P j).trans (Rch.congr (fun _ => Iff.rfl) (fun i _ => rch_pow L s P hP k i) j)
theorem rch_opt (L : List Nat → Prop) (s : List Nat) : ∀ (k : Nat) (P : Nat → Prop) (hP : ∀ i, P i → i ≤ s.length) (j : Nat), Rch (Opt L k) s P j ↔ ∃ m, m ≤ k ∧ itr L s m P j
  | 0, P, hP, j => by
    refine (rch_eps s P j).trans ⟨fun h => ⟨0, Nat.le_refl _, h.2⟩, fun ⟨m, hm, h⟩ => ?_⟩
    obtain rfl : m = 0 := by omega
    exact ⟨hP j h, h⟩
  | k + 1, P, hP, j => by
    refine (rch_or (fun x => x = []) (fun x => ∃ a b, x = a ++ b ∧ L a ∧ Opt L k b) s P j).trans ?_
    rw [rch_eps, rch_cat, rch_opt L s k (Rch L s P) (fun i h => h.1) j]
    constructor
    · rintro (⟨_, h⟩ | ⟨m, hm, h⟩)
      · exact ⟨0, by omega, h⟩
      · exact ⟨m + 1, by omega, by rw [itr_shift] at h; exact h⟩
    · rintro ⟨m, hm, h⟩
      cases m with
      | zero => exact .inl ⟨hP j h, h⟩
      | succ m => exact .inr ⟨m, by omega, by rw [itr_shift]; exact h⟩
/-- A star: so many steps, at most as many as there are bytes. -/
theorem star_steps {L : List Nat → Prop} {x : List Nat} (h : Star L x) : ∃ ws : List (List Nat), ws.flatten = x ∧ (∀ w ∈ ws, L w ∧ w ≠ []) := by
  induction h with
  | nil => exact ⟨[], rfl, fun w hw => by simp at hw⟩
  | @more a b ha _ ih =>
    obtain ⟨ws, e, hw⟩ := ih
    by_cases h0 : a = []
    · subst h0; exact ⟨ws, by simpa using e, hw⟩
    · refine ⟨a :: ws, by simp [e], fun w hw' => ?_⟩
      rcases List.mem_cons.1 hw' with rfl | hw'
      · exact ⟨ha, h0⟩
      · exact hw w hw'
theorem itr_words (L : List Nat → Prop) (s : List Nat) : ∀ (ws : List (List Nat)) (P : Nat → Prop) (i j : Nat), i ≤ j → j ≤ s.length → P i → (s.take j).drop i = ws.flatten → (∀ w ∈ ws, L w) → itr L s ws.length P j
  | [], P, i, j, hi, hj, hp, h, _ => by
    have hl := congrArg List.length h
    rw [sg_len s i j hj] at hl
    simp at hl
    obtain rfl : i = j := by omega
    exact hp
  | w :: ws, P, i, j, hi, hj, hp, h, hw => by
    rw [List.flatten_cons] at h
    obtain ⟨hk, e1, e2⟩ := seg_part s hi hj h
    have := itr_words L s ws (Rch L s P) (i + w.length) j hk hj ⟨by omega, i, by omega, hp, e1 ▸ hw w (by simp)⟩ e2.symm fun x hx => hw x (by simp [hx])
    rw [itr_shift] at this
    exact this
theorem words_len : ∀ (ws : List (List Nat)), (∀ w ∈ ws, w ≠ []) → ws.length ≤ ws.flatten.length
  | [], _ => by simp
  | w :: ws, h => by
    have h1 := words_len ws fun x hx => h x (by simp [hx])
    have h2 : 0 < w.length := List.length_pos_iff.2 (h w (by simp))
    rw [List.flatten_cons, List.length_append, List.length_cons]
    omega
theorem rch_star (L : List Nat → Prop) (s : List Nat) (P : Nat → Prop) (hP : ∀ i, P i → i ≤ s.length) (j : Nat) : (Rch (Star L) s P j → ∃ m, m ≤ s.length ∧ itr L s m P j) ∧ ∀ m, itr L s m P j → Rch (Star L) s P j := by
  constructor
  · rintro ⟨hj, i, hi, hp, h⟩
    obtain ⟨ws, e, hw⟩ := star_steps h
    refine ⟨ws.length, ?_, itr_words L s ws P i j hi hj hp e.symm fun w h => (hw w h).1⟩
    have := words_len ws fun w h => (hw w h).2
    rw [e, sg_len s i j hj] at this
    omega
  · intro m
    have key : ∀ (m j : Nat), itr L s m P j → ∃ i, i ≤ j ∧ P i ∧ Star L ((s.take j).drop i) := by
      intro m
      induction m with
      | zero => intro j h; exact ⟨j, Nat.le_refl _, h, by rw [show (s.take j).drop j = [] by rw [List.drop_eq_nil_iff]; simp; omega]; exact .nil⟩
      | succ m ih =>
        rintro j ⟨hj, k, hk, h1, h2⟩
        obtain ⟨i, hi, hp, hs⟩ := ih k h1
        refine ⟨i, by omega, hp, ?_⟩
        rw [seg_cut s hi hk hj]
        have snoc : ∀ {a b : List Nat}, Star L a → L b → Star L (a ++ b) := by
          intro a b ha hb
          induction ha with
          | nil => simpa using Star.more hb .nil
          | @more a c h1 _ ih => rw [List.append_assoc]; exact .more h1 ih
        exact snoc hs h2
    intro h
    obtain ⟨i, hi, hp, hs⟩ := key m j h
    exact ⟨itr_le hP m j h, i, hi, hp, hs⟩
theorem rch_alts (Ls : List (List Nat → Prop)) (s : List Nat) (P : Nat → Prop) (j : Nat) : Rch (fun x => ∃ L ∈ Ls, L x) s P j ↔ ∃ L ∈ Ls, Rch L s P j :=
  ⟨fun ⟨hj, i, hi, hp, L, hL, h⟩ => ⟨L, hL, hj, i, hi, hp, h⟩, fun ⟨L, hL, hj, i, hi, hp, h⟩ => ⟨hj, i, hi, hp, L, hL, h⟩⟩
theorem rch_catL_nil (s : List Nat) (P : Nat → Prop) (hP : ∀ i, P i → i ≤ s.length) (j : Nat) : Rch (CatL []) s P j ↔ P j := (rch_eps s P j).trans ⟨fun h => h.2, fun h => ⟨hP j h, h⟩⟩
theorem rch_catL_cons (L : List Nat → Prop) (r : List (List Nat → Prop)) (s : List Nat) (P : Nat → Prop) (j : Nat) : Rch (CatL (L :: r)) s P j ↔ Rch (CatL r) s (Rch L s P) j := rch_cat L (CatL r) s P j
theorem rch_word (w s : List Nat) (P : Nat → Prop) (j : Nat) : Rch (fun x => x = w) s P j ↔ ∃ i, P i ∧ i + w.length = j ∧ j ≤ s.length ∧ (s.take j).drop i = w := by
  constructor
  · rintro ⟨hj, i, hi, hp, h⟩
    have hl := congrArg List.length h
    rw [sg_len s i j hj] at hl
    exact ⟨i, hp, by omega, hj, h⟩
  · rintro ⟨i, hp, rfl, hj, h⟩
    exact ⟨hj, i, by omega, hp, h⟩
/-- From low to high times (high -1: as often as there are bytes, and once more). -/
def rpt (L : List Nat → Prop) (s : List Nat) (P : Nat → Prop) (low : Nat) (high : Int) (j : Nat) : Prop := ∃ m : Nat, low ≤ m ∧ (if high = -1 then m ≤ low + s.length + 1 else (m : Int) ≤ max (low : Int) high) ∧ itr L s m P j
theorem rch_from (L : List Nat → Prop) (s : List Nat) (P : Nat → Prop) (hP : ∀ i, P i → i ≤ s.length) (low j : Nat) : Rch (fun x => ∃ b c, x = b ++ c ∧ Pow L low b ∧ Star L c) s P j ↔ rpt L s P low (-1) j := by
  rw [rch_cat]
  have hQ : ∀ i, Rch (Pow L low) s P i → i ≤ s.length := fun i h => h.1
  have e : ∀ m, itr L s m (Rch (Pow L low) s P) j ↔ itr L s (low + m) P j := fun m => by
    have hf : Rch (Pow L low) s P = itr L s low P := funext fun i => propext (rch_pow L s P hP low i)
    rw [hf, itr_add]
  obtain ⟨h1, h2⟩ := rch_star L s (Rch (Pow L low) s P) hQ j
  constructor
  · intro h
    obtain ⟨m, hm, h⟩ := h1 h
    exact ⟨low + m, by omega, by rw [if_pos rfl]; omega, (e m).1 h⟩
  · rintro ⟨m, hl, _, h⟩
    refine h2 (m - low) ((e (m - low)).2 ?_)
    rw [show low + (m - low) = m by omega]; exact h
theorem rch_upto (L : List Nat → Prop) (s : List Nat) (P : Nat → Prop) (hP : ∀ i, P i → i ≤ s.length) (low k j : Nat) : Rch (fun x => ∃ b c, x = b ++ c ∧ Pow L low b ∧ Opt L k c) s P j ↔ ∃ m, low ≤ m ∧ m ≤ low + k ∧ itr L s m P j := by
  rw [rch_cat, rch_opt L s k _ (fun i h => h.1)]
  have hf : Rch (Pow L low) s P = itr L s low P := funext fun i => propext (rch_pow L s P hP low i)
  rw [hf]
  constructor
  · rintro ⟨m, hm, h⟩
    rw [itr_add] at h
    exact ⟨low + m, by omega, by omega, h⟩
  · rintro ⟨m, hl, hm, h⟩
    exact ⟨m - low, by omega, by rw [itr_add, show low + (m - low) = m by omega]; exact h⟩
/-- The nodes that repeat their part. -/
theorem rch_star_node (L : List Nat → Prop) (s : List Nat) (P : Nat → Prop) (hP : ∀ i, P i → i ≤ s.length) (j : Nat) : Rch (Star L) s P j ↔ rpt L s P 0 (-1) j := by
  rw [← rch_from L s P hP 0 j]
  refine Rch.congr (fun x => ⟨fun h => ⟨[], x, rfl, rfl, h⟩, fun ⟨b, c, hx, hb, hc⟩ => ?_⟩) (fun _ _ => Iff.rfl) j
  change b = [] at hb
  subst hb hx
  exact hc
theorem rch_plus_node (L : List Nat → Prop) (s : List Nat) (P : Nat → Prop) (hP : ∀ i, P i → i ≤ s.length) (j : Nat) : Rch (fun x => ∃ b c, x = b ++ c ∧ L b ∧ Star L c) s P j ↔ rpt L s P 1 (-1) j := by
  rw [← rch_from L s P hP 1 j]
  refine Rch.congr (fun x => ⟨fun ⟨b, c, hx, hb, hc⟩ => ⟨b, c, hx, ⟨[], b, rfl, rfl, hb⟩, hc⟩, fun ⟨b, c, hx, ⟨a, b', hb, ha, hb'⟩, hc⟩ => ⟨b, c, hx, ?_, hc⟩⟩) (fun _ _ => Iff.rfl) j
  change a = [] at ha
  subst ha hb
  exact hb'
theorem rch_quest_node (L : List Nat → Prop) (s : List Nat) (P : Nat → Prop) (hP : ∀ i, P i → i ≤ s.length) (j : Nat) : Rch (fun x => x = [] ∨ L x) s P j ↔ rpt L s P 0 1 j := by
  rw [rch_or, rch_eps]
  constructor
  · rintro (⟨_, h⟩ | h)
    · exact ⟨0, Nat.le_refl _, by rw [if_neg (by decide)]; decide, h⟩
    · exact ⟨1, by omega, by rw [if_neg (by decide)]; decide, h⟩
  · rintro ⟨m, _, hm, h⟩
    rw [if_neg (by decide)] at hm
    have : m = 0 ∨ m = 1 := by omega
    rcases this with rfl | rfl
    · exact .inl ⟨hP j h, h⟩
    · exact .inr h
theorem rch_rep_node (L : List Nat → Prop) (s : List Nat) (P : Nat → Prop) (hP : ∀ i, P i → i ≤ s.length) (mn mx : Int) (h0 : 0 ≤ mn) (h1 : mx = -1 ∨ mn ≤ mx) (j : Nat) :
    Rch (fun x => ∃ b c, x = b ++ c ∧ Pow L mn.toNat b ∧ (if mx = -1 then Star L c else Opt L (mx - mn).toNat c)) s P j ↔ rpt L s P mn.toNat mx j := by
  by_cases hm : mx = -1
  · subst hm
    simp only [if_true]
    exact rch_from L s P hP mn.toNat j
  · simp only [if_neg hm]
    rw [rch_upto L s P hP]
    unfold rpt
    simp only [if_neg hm]
    exact ⟨fun ⟨m, a, b, c⟩ => ⟨m, a, by omega, c⟩, fun ⟨m, a, b, c⟩ => ⟨m, a, by omega, c⟩⟩
end Go.Rg
/-! Sets of places: spec.either. -/
namespace Go.Proofs.YtnpchkohfomagaaDoor.Rgm
open Go.ChangeShapes Go.WideShapes Go.ChangeAt Go.RowKit Go.Trav Go.Rg Go.Proofs.YtnpchkohfomagaaDoor.Rgw
set_option linter.unusedVariables false
set_option linter.unusedSimpArgs false
set_option maxRecDepth 100000
theorem info_bool : (Tryd.prog.info? 4).map (fun i => (i.zero, i.size, i.bytes)) = some (some (.bool false), 1, 1) := by kernel_rfl
theorem own_set {α : Type} {w : World} {base : Nat} {e : TypeId} {g n cap : Nat} {xs : List α} (f : α → Value) (h : w.ownsRow base e 1 (.slice (some ⟨g, 0, none⟩) n cap) n (xs.map f)) (y : Nat) (x : α) :
    (w.setCell ⟨g, y, none⟩ (f x)).ownsRow base e 1 (.slice (some ⟨g, 0, none⟩) n cap) n ((xs.set y x).map f) := by
  obtain ⟨h1, h2⟩ := h
  refine ⟨by simpa using h1, ?_⟩
  rcases h2 with ⟨e1, _⟩ | ⟨g', cap', cur, e1, hb, hg, hn, hc, hs, ht⟩
  · cases e1
  · cases e1
    refine Or.inr ⟨g, cap, _, rfl, hb, block_set hg, hn, hc, by simpa using hs, ?_⟩
    rw [Array.toList_setIfInBounds, List.take_set, ht]
    rw [List.map_set]
theorem own_some4 {w : World} {base : Nat} {e : TypeId} {size n cap : Nat} {ao : Option Addr} {xs : List Value} (h : w.ownsRow base e size (.slice ao n cap) n xs) (hn : 0 < n) : ∃ g, ao = some ⟨g, 0, none⟩ := by
  rcases h.2 with ⟨e1, e2⟩ | ⟨g', cap', cur, e1, _⟩
  · cases e1; omega
  · cases e1; exact ⟨g', rfl⟩
/-- A row of Bools that one owns: each cell. -/
theorem own_bit {w : World} {base : Nat} {e : TypeId} {g n cap : Nat} {xs : List Bool} (h : w.ownsRow base e 1 (.slice (some ⟨g, 0, none⟩) n cap) n (xs.map Value.bool)) {k : Nat} (hk : k < n) : ∃ b, xs[k]? = some b ∧ w.cell? ⟨g, k, none⟩ = some (.bool b) ∧ w.frozen? ⟨g, k, none⟩ = false := by
  have hl : xs.length = n := by have := h.1; simpa using this
  have hx : xs[k]? = some xs[k] := List.getElem?_eq_getElem (by omega)
  refine ⟨xs[k], hx, ?_⟩
  rcases h.2 with ⟨e1, e2⟩ | ⟨g', cap', cur, e1, hb, hg, hn, hc, hs, ht⟩
  · cases e1
  · cases e1
    refine ⟨block_cell hg ?_, block_free hg⟩
    have hc2 : (xs.map Value.bool)[k]? = some (.bool xs[k]) := by rw [List.getElem?_map, hx]; rfl
    rw [← ht, List.getElem?_take] at hc2
    split at hc2
    · simpa using hc2
    · cases hc2
set_option maxHeartbeats 4000000 in
theorem either_any (n : Nat) (ps bs : List Bool) (va vb : Value) (w : World) (ha : Reads w va n 1 (ps.map Value.bool)) (hb : Reads w vb n 1 (bs.map Value.bool)) (h0 : 0 < n) (hn : n ≤ 1000) :
    Calls Tryd.prog 59 #[va, vb] w fun e w' => ∃ (v : Value) (os : List Bool), e = .returned v ∧ Below w.heap.size w w' ∧ w'.ownsRow w.heap.size 4 1 v n (os.map Value.bool) ∧ os.length = n ∧ ∀ (j : Nat) a b, ps[j]? = some a → bs[j]? = some b → os[j]? = some (a || b) := by
  obtain ⟨ao, ac, rfl⟩ := ha.form
  obtain ⟨bo, bc, rfl⟩ := hb.form
  have hla : ps.length = n := by have := ha.len; simpa using this
  have hlb : bs.length = n := by have := hb.len; simpa using this
  have hone : ∀ u ∈ ps.map Value.bool, u.oneCell' = true := fun u hu => by
    obtain ⟨x, _, rfl⟩ := List.mem_map.1 hu; rfl
  have HA := Lib.hid ha
  have HB := Lib.hid hb
  have HL := Lib.hid (And.intro hla hlb)
  have HONE := Lib.hid hone
  clear ha hb hla hlb hone
  go_enter Tryd.func59, Tryd.ntmps59
  go_wp2_with (first
    | (at_builtin
       refine wpList_append_reads rfl (.tmp 7) (.tmp 8) 25 rfl w.heap.size 4 (.bool false) 1 1 Tryd.underlying25 info_bool rfl (by decide) (by decide) (.slice (some ⟨w.heap.size, 0, none⟩) 0 0) 0 [] rfl (owns_new w 4 1 w.heap.size (Nat.le_refl _)) _ n (ps.map Value.bool) rfl (HA.out.alloc _) HONE.out (by omega) (by simp) ?_
       intro o1 c1 w1 hown1 hgr1 hat1
       rw [Nat.zero_add, List.nil_append] at hown1
       obtain ⟨g, hg⟩ := own_some4 hown1 h0
       subst hg
       have hb1 : Below w.heap.size w w1 := ((Below.refl _ w).alloc (Nat.le_refl _) _).grown hgr1 (by simp) (fun g' hg' => by simp [Value.ownBlock] at hg'; omega)
       have H1 := Lib.hid (And.intro hown1 hb1)
       simp only [Nat.zero_add]
       clear hown1 hgr1 hat1 hb1))
  go_loopw [6] (fun iv wr => ∃ (k : Nat) (os : List Bool), iv = .int .i64 (k : Int) ∧ k ≤ n ∧ Hid (wr.ownsRow w.heap.size 4 1 (.slice (some ⟨g, 0, none⟩) n c1) n (os.map Value.bool) ∧ Below w.heap.size w wr ∧ ∀ (j : Nat) a b, ps[j]? = some a → bs[j]? = some b → os[j]? = some (a || (decide (j < k) && b)))) (fun iv _ => n - (intOf iv).toNat)
  case atStart => exact ⟨0, ps, rfl, Nat.zero_le _, Lib.hid ⟨H1.out.1, H1.out.2, fun j a b h _ => by rw [h]; simp⟩⟩
  case round =>
    obtain ⟨k, os, rfl, hk, HR⟩ := hrel
    rename World => wr
    by_cases hlt : k < n
    · obtain ⟨o, ho, c1', f1⟩ := own_bit HR.out.1 hlt
      obtain ⟨b0, off, cap, q, e0, hq, c2⟩ := Reads.one Value.bool (HB.out.below HR.out.2.1) hlt
      cases e0
      have hge := (HR.out.1.lt g rfl).1
      have hstep : ∀ (j : Nat) a b, ps[j]? = some a → bs[j]? = some b → (os.set k (o || q))[j]? = some (a || (decide (j < k + 1) && b)) := fun j a b h1 h2 => by
        have h3 := HR.out.2.2 j a b h1 h2
        by_cases hj : j = k
        · subst hj
          rw [ho] at h3
          rw [hq] at h2
          cases h2
          have hlo := (List.getElem?_eq_some_iff.1 ho).1
          rw [List.getElem?_set_self (by omega)]
          simp at h3
          simp [h3]
        · rw [List.getElem?_set_ne (fun e => hj e.symm), h3]
          have : decide (j < k + 1) = decide (j < k) := by by_cases h : j < k <;> simp [h] <;> omega
          rw [this]
      have HS := Lib.hid hstep
      have HO := Lib.hid (And.intro ho hge)
      clear hstep ho hq hge
      cases o <;> cases q
      all_goals
        go_wp2_with fail
        go_roundw
        case rel => exact ⟨k + 1, _, by go_num, hlt, Lib.hid ⟨own_set Value.bool HR.out.1 k _, HR.out.2.1.setCell (p := ⟨g, k, none⟩) HO.out.2 _, HS.out⟩⟩
        case measure => simp [intOf]; omega
    · obtain rfl : k = n := by omega
      go_wp2_with fail
      go_ret
      have hlo : os.length = k := by have := HR.out.1.1; simpa using this
      exact ⟨_, os, rfl, HR.out.2.1, HR.out.1, hlo, fun j a b h1 h2 => by
        have hj : j < k := by have := (List.getElem?_eq_some_iff.1 h1).1; have := HL.out.1; omega
        have := HR.out.2.2 j a b h1 h2
        rw [this]; simp [hj]⟩
end Go.Proofs.YtnpchkohfomagaaDoor.Rgm
/-! Sets of places: spec.repeated, spec.Times. -/
namespace Go.Proofs.YtnpchkohfomagaaDoor.Rgm
open Go.ChangeShapes Go.WideShapes Go.ChangeAt Go.RowKit Go.Trav Go.Rg Go.Proofs.YtnpchkohfomagaaDoor.Rgw Go.Proofs.YtnpchkohfomagaaDoor.Rgy
set_option linter.unusedVariables false
set_option linter.unusedSimpArgs false
set_option maxRecDepth 100000
/-- A row of Bools in memory that says which of n places are in a set. -/
def SetAt (W : World) (v : Value) (n : Nat) (P : Nat → Prop) : Prop := ∃ bs : List Bool, Reads W v n 1 (bs.map Value.bool) ∧ bs.length = n ∧ ∀ (j : Nat) b, bs[j]? = some b → (b = true ↔ P j)
theorem SetAt.below {W W' : World} {v : Value} {n : Nat} {P : Nat → Prop} (h : SetAt W v n P) (hb : Below W.heap.size W W') : SetAt W' v n P := by
  obtain ⟨bs, h1, h2, h3⟩ := h
  exact ⟨bs, h1.below hb, h2, h3⟩
theorem SetAt.congr {W : World} {v : Value} {n : Nat} {P Q : Nat → Prop} (h : SetAt W v n P) (e : ∀ j, j < n → (P j ↔ Q j)) : SetAt W v n Q := by
  obtain ⟨bs, h1, h2, h3⟩ := h
  exact ⟨bs, h1, h2, fun j b hb => (h3 j b hb).trans (e j (by have := (List.getElem?_eq_some_iff.1 hb).1; omega))⟩
theorem SetAt.form {W : World} {v : Value} {n : Nat} {P : Nat → Prop} (h : SetAt W v n P) : ∃ a c, v = .slice a n c := by
  obtain ⟨bs, h1, _⟩ := h
  exact h1.form
/-- What a walk from place to place answers. -/
def RPost (n : Nat) (Q : Nat → Prop) (w : World) (e : Ending) (w' : World) : Prop := Below w.heap.size w w' ∧ ∃ v, e = .returned v ∧ SetAt w' v n Q
theorem either_set {n : Nat} {P Q : Nat → Prop} {va vb : Value} {w : World} (ha : SetAt w va n P) (hb : SetAt w vb n Q) (h0 : 0 < n) (hn : n ≤ 1000) : Calls Tryd.prog 59 #[va, vb] w (RPost n (fun j => P j ∨ Q j) w) := by
  obtain ⟨xs, h1, h2, h3⟩ := ha
  obtain ⟨ys, k1, k2, k3⟩ := hb
  refine (either_any n xs ys va vb w h1 k1 h0 hn).mono ?_
  rintro e w' ⟨v, os, rfl, hbl, hown, hlo, hs⟩
  refine ⟨hbl, v, rfl, os, reads_of_owns hown, hlo, fun j b hj => ?_⟩
  have hlt := (List.getElem?_eq_some_iff.1 hj).1
  have e1 : xs[j]? = some xs[j] := List.getElem?_eq_getElem (by omega)
  have e2 : ys[j]? = some ys[j] := List.getElem?_eq_getElem (by omega)
  rw [hs j _ _ e1 e2] at hj
  cases hj
  rw [Bool.or_eq_true, h3 j _ e1, k3 j _ e2]
set_option maxHeartbeats 8000000 in
/-- spec.repeated, its part's walk given: from low to high times. -/
theorem repeated_any (L : List Nat → Prop) (s : ByteArray) (P : Nat → Prop) (cs : List Value) (v : Value) (low : Nat) (high : Int) (w : World) (n : Nat) (hn : n = s.size + 1) (hs : s.size ≤ 100) (sl : List Nat) (hsl : sl.length = s.size) (hlow : low ≤ 1000) (hhigh : high ≤ 1000) (hh : high = -1 ∨ 0 ≤ high)
    (hform : ∃ (o : Int) (ra : Option Addr) (rb rc : Nat) (mn mx : Int) (lz fo : Bool) (sa : Option Addr) (sb sc : Nat), cs = [.int .i64 o, .slice ra rb rc, .int .i64 mn, .int .i64 mx, .bool lz, .bool fo, .slice sa sb sc])
    (hrec : ∀ (W : World) (u : Value) (X : Nat → Prop), Below w.heap.size w W → SetAt W u n X → Calls Tryd.prog 45 #[.agg cs.toArray, .string s, u] W (RPost n (Rch L sl X) W)) (hv : SetAt w v n P) :
    Calls Tryd.prog 61 #[.agg cs.toArray, .string s, v, .int .i64 (low : Int), .int .i64 high] w (RPost n (rpt L sl P low high) w) := by
  obtain ⟨o, ra, rb, rc, mn, mx, lz, fo, sa, sb, sc, rfl⟩ := hform
  obtain ⟨va, vc, rfl⟩ := hv.form
  obtain ⟨W1, hW1⟩ : ∃ W1, W1 = w.alloc (.cells #[.int .i64 o, .slice ra rb rc, .int .i64 mn, .int .i64 mx, .bool lz, .bool fo, .slice sa sb sc] 35) := ⟨_, rfl⟩
  have hb1 : Below w.heap.size w W1 := by rw [hW1]; exact (Below.refl _ _).alloc (Nat.le_refl _) _
  have b0 : W1.heap[w.heap.size]? = some (.cells #[.int .i64 o, .slice ra rb rc, .int .i64 mn, .int .i64 mx, .bool lz, .bool fo, .slice sa sb sc] 35 (0, 0)) := by rw [hW1]; exact heap_alloc_new w _
  have hkb := fun (W : World) (hb : Below W1.heap.size W1 W) => cells7' ((Mod.of_below (F := fun _ => False) hb).heap b0 (fun h => h))
  have hrec1 := fun (W : World) (u : Value) (X : Nat → Prop) (hb : Below W1.heap.size W1 W) (h : SetAt W u n X) => hrec W u X (hb1.trans (hb.mono hb1.size)) h
  have hcopy : ∀ (W : World) (u : Value) (X : Nat → Prop), SetAt W u n X → ∃ bs : List Bool, Reads W u n 1 (bs.map Value.bool) ∧ (∀ z ∈ bs.map Value.bool, z.oneCell' = true) ∧ ∀ (W' : World) (u' : Value) (base : Nat), W'.ownsRow base 4 1 u' n (bs.map Value.bool) → SetAt W' u' n X := fun W u X ⟨bs, q1, q2, q3⟩ =>
    ⟨bs, q1, fun z hz => by obtain ⟨x, _, rfl⟩ := List.mem_map.1 hz; rfl, fun W' u' base h => ⟨bs, reads_of_owns h, q2, q3⟩⟩
  have hvs := hv.below hb1
  have h0 : 0 < n := by omega
  have hn2 : n ≤ 1000 := by omega
  have HB1 := Lib.hid hb1
  have HKB := Lib.hid hkb
  have HREC := Lib.hid hrec1
  have HCOPY := Lib.hid hcopy
  obtain ⟨bs, hr1, hr2, hr3⟩ := hcopy _ _ _ hvs
  have HV := Lib.hid (And.intro hr1 (And.intro hr2 hr3))
  have HN := Lib.hid (And.intro hn hsl)
  clear hb1 hkb b0 hrec hrec1 hcopy hvs hv hr1 hr2 hr3 hn
  go_enter Tryd.func61, Tryd.ntmps61
  go_wp2_with (first
    | (at_builtin
       rw [← hW1]
       refine wpList_append_reads rfl (.tmp 15) (.tmp 16) 25 rfl W1.heap.size 4 (.bool false) 1 1 Tryd.underlying25 info_bool rfl (by decide) (by decide) (.slice (some ⟨W1.heap.size, 0, none⟩) 0 0) 0 [] (by rw [hW1]; simp [Act.eval, Act.put]) (owns_new W1 4 1 W1.heap.size (Nat.le_refl _)) _ n (bs.map Value.bool) rfl (HV.out.1.alloc _) HV.out.2.1 (by omega) (by simp) ?_
       intro o1 c1 w1 hown1 hgr1 hat1
       rw [Nat.zero_add, List.nil_append] at hown1
       have hb1 : Below W1.heap.size W1 w1 := ((Below.refl _ W1).alloc (Nat.le_refl _) _).grown hgr1 (by simp) (fun g' hg' => by simp [Value.ownBlock] at hg'; omega)
       have H1 := Lib.hid (And.intro (HV.out.2.2 _ _ _ hown1) hb1)
       simp only [Nat.zero_add]
       clear hown1 hgr1 hat1 hb1))
  go_loopw [11, 12] (fun uv iv wr => ∃ (i : Nat) (a : Option Addr) (c : Nat), iv = .int .i64 (i : Int) ∧ uv = .slice a n c ∧ i ≤ low ∧ Hid (Below W1.heap.size W1 wr ∧ SetAt wr (.slice a n c) n (itr L sl i P))) (fun _ iv _ => low - (intOf iv).toNat)
  case atStart => exact ⟨0, o1, c1, rfl, rfl, Nat.zero_le _, Lib.hid ⟨H1.out.2, H1.out.1⟩⟩
  case round =>
    obtain ⟨i, a, c, rfl, rfl, hi, HR⟩ := hrel
    rename World => wr
    obtain ⟨⟨l0, l1, l2, l3, l4, l5, l6⟩, _⟩ := HKB.out wr HR.out.1
    by_cases hlt : i < low
    · go_wp2_with fail
      refine (HREC.out wr _ _ HR.out.1 HR.out.2).mono ?_
      rintro e w2 ⟨hb2, v2, rfl, hs2⟩
      obtain ⟨a2, c2, rfl⟩ := hs2.form
      have H2 := Lib.hid (And.intro (HR.out.1.trans (hb2.mono HR.out.1.size)) hs2)
      clear hb2 hs2
      go_wp2_with fail
      go_roundw
      case rel => exact ⟨i + 1, a2, c2, by go_num, rfl, hlt, H2⟩
      case measure => simp [intOf]; omega
    · obtain rfl : i = low := by omega
      obtain ⟨bs2, hr1, hr2, hr3⟩ := HCOPY.out _ _ _ HR.out.2
      have HV2 := Lib.hid (And.intro hr1 (And.intro hr2 hr3))
      clear hr1 hr2 hr3 l0 l1 l2 l3 l4 l5 l6
      go_wp2_with (first
        | (at_builtin
           refine wpList_append_reads rfl (.tmp 27) (.tmp 28) 25 rfl wr.heap.size 4 (.bool false) 1 1 Tryd.underlying25 info_bool rfl (by decide) (by decide) (.slice (some ⟨wr.heap.size, 0, none⟩) 0 0) 0 [] rfl (owns_new wr 4 1 wr.heap.size (Nat.le_refl _)) _ n (bs2.map Value.bool) rfl (HV2.out.1.alloc _) HV2.out.2.1 (by omega) (by simp) ?_
           intro o3 c3 w3 hown3 hgr3 hat3
           rw [Nat.zero_add, List.nil_append] at hown3
           have hb3 : Below wr.heap.size wr w3 := ((Below.refl _ wr).alloc (Nat.le_refl _) _).grown hgr3 (by simp) (fun g' hg' => by simp [Value.ownBlock] at hg'; omega)
           have H3 := Lib.hid (And.intro (HR.out.1.trans (hb3.mono HR.out.1.size)) (And.intro (HR.out.2.below hb3) (HV2.out.2.2 _ _ _ hown3)))
           simp only [Nat.zero_add]
           clear hown3 hgr3 hat3 hb3))
      go_loopw [11, 13, 14] (fun uv ov iv wr => ∃ (m : Nat) (a : Option Addr) (c : Nat) (a' : Option Addr) (c' : Nat), iv = .int .i64 (m : Int) ∧ uv = .slice a n c ∧ ov = .slice a' n c' ∧ i ≤ m ∧ (if high = -1 then m ≤ i + s.size + 1 else (m : Int) ≤ max (i : Int) high) ∧ Hid (Below W1.heap.size W1 wr ∧ SetAt wr (.slice a n c) n (itr L sl m P) ∧ SetAt wr (.slice a' n c') n (fun j => ∃ k, i ≤ k ∧ k ≤ m ∧ itr L sl k P j))) (fun _ _ iv _ => 3000 - (intOf iv).toNat)
      case atStart =>
        refine ⟨i, _, _, _, _, rfl, rfl, rfl, Nat.le_refl _, by split <;> omega, Lib.hid ⟨H3.out.1, H3.out.2.1, H3.out.2.2.congr fun j _ => ⟨fun h => ⟨i, Nat.le_refl _, Nat.le_refl _, h⟩, fun ⟨k, h1, h2, h⟩ => ?_⟩⟩⟩
        obtain rfl : k = i := by omega
        exact h
      case round =>
        obtain ⟨m, a, c, a', c', rfl, rfl, rfl, him, hmb, HR⟩ := hrel
        rename World => wr2
        obtain ⟨⟨l0, l1, l2, l3, l4, l5, l6⟩, _⟩ := HKB.out wr2 HR.out.1
        have w1' : IntKind.i64.wrap ((i : Int) + (s.size : Int)) = (i : Int) + (s.size : Int) := IntWalk.i64_in _ (by omega)
        have w2' : IntKind.i64.wrap ((i : Int) + (s.size : Int) + 1) = (i : Int) + (s.size : Int) + 1 := IntWalk.i64_in _ (by omega)
        have hgo : ∀ (more : Bool), (more = true ↔ (if high = -1 then m < i + s.size + 1 else (m : Int) < high)) → more = false → (∀ j, (∃ k, i ≤ k ∧ k ≤ m ∧ itr L sl k P j) ↔ rpt L sl P i high j) := fun more hm hf j => by
          have hne : ¬ (if high = -1 then m < i + s.size + 1 else (m : Int) < high) := fun h => by rw [← hm, hf] at h; cases h
          unfold rpt
          rw [HN.out.2]
          split at hne
          · rename_i h1
            rw [if_pos h1] at hmb
            simp only [if_pos h1]
            exact ⟨fun ⟨k, a, b, c⟩ => ⟨k, a, by omega, c⟩, fun ⟨k, a, b, c⟩ => ⟨k, a, by omega, c⟩⟩
          · rename_i h1
            rw [if_neg h1] at hmb
            simp only [if_neg h1]
            exact ⟨fun ⟨k, a, b, c⟩ => ⟨k, a, by omega, c⟩, fun ⟨k, a, b, c⟩ => ⟨k, a, by omega, c⟩⟩
        have HGO := Lib.hid hgo
        have HMB := Lib.hid hmb
        clear hgo hmb
        have hout : ∀ wz, Below wr2.heap.size wr2 wz → (∀ j, (∃ k, i ≤ k ∧ k ≤ m ∧ itr L sl k P j) ↔ rpt L sl P i high j) → RPost n (rpt L sl P i high) w (.returned (.slice a' n c')) wz := fun wz hbz he =>
          ⟨(HB1.out.trans (HR.out.1.mono HB1.out.size)).trans (hbz.mono (by have := HB1.out.size; have := HR.out.1.size; omega)), _, rfl, (HR.out.2.2.below hbz).congr fun j _ => he j⟩
        have HOUT := Lib.hid hout
        clear hout
        rcases hh with rfl | hh0
        · by_cases hlt : m < i + s.size + 1
          · have t1 : (m : Int) < (i : Int) + (s.size : Int) + 1 := by omega
            go_wp2_with fail
            refine (HREC.out wr2 _ _ HR.out.1 HR.out.2.1).mono ?_
            rintro e w4 ⟨hb4, v4, rfl, hs4⟩
            obtain ⟨a4, c4, rfl⟩ := hs4.form
            have H4 := Lib.hid (And.intro (HR.out.1.trans (hb4.mono HR.out.1.size)) (And.intro hs4 (HR.out.2.2.below hb4)))
            clear hb4 hs4
            go_wp2_with fail
            refine (either_set H4.out.2.2 H4.out.2.1 h0 hn2).mono ?_
            rintro e w5 ⟨hb5, v5, rfl, hs5⟩
            obtain ⟨a5, c5, rfl⟩ := hs5.form
            have H5 := Lib.hid (And.intro (H4.out.1.trans (hb5.mono H4.out.1.size)) (And.intro (H4.out.2.1.below hb5) hs5))
            clear hb5 hs5
            go_wp2_with fail
            go_roundw
            case rel =>
              refine ⟨m + 1, a4, c4, a5, c5, by go_num, rfl, rfl, by omega, (by first | omega | (rw [if_pos rfl]; omega) | fail), Lib.hid ⟨H5.out.1, H5.out.2.1, H5.out.2.2.congr fun j _ => ⟨?_, ?_⟩⟩⟩
              · rintro (⟨k, h1, h2, h⟩ | h)
                · exact ⟨k, h1, by omega, h⟩
                · exact ⟨m + 1, by omega, Nat.le_refl _, h⟩
              · rintro ⟨k, h1, h2, h⟩
                by_cases hk : k ≤ m
                · exact .inl ⟨k, h1, hk, h⟩
                · obtain rfl : k = m + 1 := by omega
                  exact .inr h
            case measure => simp [intOf]; omega
          · have t1 : ¬ (m : Int) < (i : Int) + (s.size : Int) + 1 := by omega
            go_wp2_with fail
            go_ret
            exact HOUT.out _ (Below.refl _ _) (HGO.out false ⟨fun h => (by cases h), fun h => absurd (by simpa using h) hlt⟩ rfl)
        · obtain ⟨hi2, rfl⟩ : ∃ h : Nat, high = (h : Int) := ⟨high.toNat, by omega⟩
          by_cases hlt : m < hi2
          · go_wp2_with fail
            refine (HREC.out wr2 _ _ HR.out.1 HR.out.2.1).mono ?_
            rintro e w4 ⟨hb4, v4, rfl, hs4⟩
            obtain ⟨a4, c4, rfl⟩ := hs4.form
            have H4 := Lib.hid (And.intro (HR.out.1.trans (hb4.mono HR.out.1.size)) (And.intro hs4 (HR.out.2.2.below hb4)))
            clear hb4 hs4
            go_wp2_with fail
            refine (either_set H4.out.2.2 H4.out.2.1 h0 hn2).mono ?_
            rintro e w5 ⟨hb5, v5, rfl, hs5⟩
            obtain ⟨a5, c5, rfl⟩ := hs5.form
            have H5 := Lib.hid (And.intro (H4.out.1.trans (hb5.mono H4.out.1.size)) (And.intro (H4.out.2.1.below hb5) hs5))
            clear hb5 hs5
            go_wp2_with fail
            go_roundw
            case rel =>
              refine ⟨m + 1, a4, c4, a5, c5, by go_num, rfl, rfl, by omega, (by first | omega | (rw [if_neg (by omega)]; omega) | fail), Lib.hid ⟨H5.out.1, H5.out.2.1, H5.out.2.2.congr fun j _ => ⟨?_, ?_⟩⟩⟩
              · rintro (⟨k, h1, h2, h⟩ | h)
                · exact ⟨k, h1, by omega, h⟩
                · exact ⟨m + 1, by omega, Nat.le_refl _, h⟩
              · rintro ⟨k, h1, h2, h⟩
                by_cases hk : k ≤ m
                · exact .inl ⟨k, h1, hk, h⟩
                · obtain rfl : k = m + 1 := by omega
                  exact .inr h
            case measure => simp [intOf]; omega
          · go_wp2_with fail
            go_ret
            exact HOUT.out _ (Below.refl _ _) (HGO.out false ⟨fun h => (by cases h), fun h => absurd (by rw [if_neg (by omega)] at h; exact h) (by omega)⟩ rfl)
end Go.Proofs.YtnpchkohfomagaaDoor.Rgm
/-! spec.long, spec.Times. -/
namespace Go.Proofs.YtnpchkohfomagaaDoor.Rgm
open Go.ChangeShapes Go.WideShapes Go.ChangeAt Go.RowKit Go.Trav Go.Rg Go.Proofs.YtnpchkohfomagaaDoor.Rgw Go.Proofs.YtnpchkohfomagaaDoor.Rgy
set_option linter.unusedVariables false
set_option linter.unusedSimpArgs false
set_option maxRecDepth 100000
/-- How many bytes a letter has that begins so. -/
def longN (b : Nat) : Nat := if b < 128 then 1 else if 194 ≤ b ∧ b < 224 then 2 else if 224 ≤ b ∧ b < 240 then 3 else if 240 ≤ b ∧ b < 245 then 4 else 0
theorem long_any (b : Nat) (hb : b < 256) (w : World) : Calls Tryd.prog 62 #[.int .u8 (b : Int)] w fun e w' => e = .returned (.int .i64 (longN b : Int)) ∧ w = w' := by
  by_cases h1 : b < 128
  · have e : longN b = 1 := by unfold longN; rw [if_pos h1]
    rw [e]
    go_enter Tryd.func62, Tryd.ntmps62
    go_wp2_with fail
    go_ret
    exact ⟨rfl, rfl⟩
  by_cases h2 : b < 194
  · have e : longN b = 0 := by unfold longN; rw [if_neg h1, if_neg (by omega), if_neg (by omega), if_neg (by omega)]
    rw [e]
    have g1 : ¬ 194 ≤ b := by omega
    have g2 : ¬ 224 ≤ b := by omega
    have g3 : ¬ 240 ≤ b := by omega
    go_enter Tryd.func62, Tryd.ntmps62
    go_wp2_with fail
    go_ret
    exact ⟨rfl, rfl⟩
  by_cases h3 : b < 224
  · have e : longN b = 2 := by unfold longN; rw [if_neg h1, if_pos (by omega)]
    rw [e]
    have g1 : 194 ≤ b := by omega
    go_enter Tryd.func62, Tryd.ntmps62
    go_wp2_with fail
    go_ret
    exact ⟨rfl, rfl⟩
  by_cases h4 : b < 240
  · have e : longN b = 3 := by unfold longN; rw [if_neg h1, if_neg (by omega), if_pos (by omega)]
    rw [e]
    have g1 : 194 ≤ b := by omega
    have g2 : 224 ≤ b := by omega
    go_enter Tryd.func62, Tryd.ntmps62
    go_wp2_with fail
    go_ret
    exact ⟨rfl, rfl⟩
  by_cases h5 : b < 245
  · have e : longN b = 4 := by unfold longN; rw [if_neg h1, if_neg (by omega), if_neg (by omega), if_pos (by omega)]
    rw [e]
    have g1 : 194 ≤ b := by omega
    have g2 : 224 ≤ b := by omega
    have g3 : 240 ≤ b := by omega
    go_enter Tryd.func62, Tryd.ntmps62
    go_wp2_with fail
    go_ret
    exact ⟨rfl, rfl⟩
  · have e : longN b = 0 := by unfold longN; rw [if_neg h1, if_neg (by omega), if_neg (by omega), if_neg (by omega)]
    rw [e]
    have g1 : 194 ≤ b := by omega
    have g2 : 224 ≤ b := by omega
    have g3 : 240 ≤ b := by omega
    go_enter Tryd.func62, Tryd.ntmps62
    go_wp2_with fail
    go_ret
    exact ⟨rfl, rfl⟩
/-- How often a node repeats its part. -/
def tLo (o : Nat) (mn : Int) : Int := if o = 14 then 0 else if o = 15 then 1 else if o = 16 then 0 else mn
def tHi (o : Nat) (mx : Int) : Int := if o = 14 then -1 else if o = 15 then -1 else if o = 16 then 1 else mx
theorem times_any (o : Nat) (ho : o < 256) (ra : Option Addr) (rb rc : Nat) (mn mx : Int) (lz fo : Bool) (sa : Option Addr) (sb sc : Nat) (w : World) :
    Calls Tryd.prog 60 #[.agg #[.int .i64 (o : Int), .slice ra rb rc, .int .i64 mn, .int .i64 mx, .bool lz, .bool fo, .slice sa sb sc]] w fun e w' => e = .returned (.tuple #[.int .i64 (tLo o mn), .int .i64 (tHi o mx)]) ∧ Below w.heap.size w w' := by
  by_cases h1 : o = 14
  · subst h1
    go_enter Tryd.func60, Tryd.ntmps60
    go_wp2_with fail
    refine bodyPost_ret (v := .tuple #[.int .i64 0, .int .i64 (-1)]) (by simp [results, Tryd.results60, go_sem]) rfl ?_
    exact ⟨rfl, (Below.refl _ _).alloc (Nat.le_refl _) _⟩
  have q1 : ((o : Int) == 14) = false := by simp; omega
  by_cases h2 : o = 15
  · subst h2
    go_enter Tryd.func60, Tryd.ntmps60
    go_wp2_with fail
    refine bodyPost_ret (v := .tuple #[.int .i64 1, .int .i64 (-1)]) (by simp [results, Tryd.results60, go_sem]) rfl ?_
    exact ⟨rfl, (Below.refl _ _).alloc (Nat.le_refl _) _⟩
  have q2 : ((o : Int) == 15) = false := by simp; omega
  by_cases h3 : o = 16
  · subst h3
    go_enter Tryd.func60, Tryd.ntmps60
    go_wp2_with fail
    refine bodyPost_ret (v := .tuple #[.int .i64 0, .int .i64 1]) (by simp [results, Tryd.results60, go_sem]) rfl ?_
    exact ⟨rfl, (Below.refl _ _).alloc (Nat.le_refl _) _⟩
  have q3 : ((o : Int) == 16) = false := by simp; omega
  have e1 : tLo o mn = mn := by unfold tLo; rw [if_neg h1, if_neg h2, if_neg h3]
  have e2 : tHi o mx = mx := by unfold tHi; rw [if_neg h1, if_neg h2, if_neg h3]
  rw [e1, e2]
  clear e1 e2
  go_enter Tryd.func60, Tryd.ntmps60
  go_wp2_with fail
  go_quiet (fail)
  go_wp2_with fail
  refine bodyPost_ret (v := .tuple #[.int .i64 mn, .int .i64 mx]) (by simp [results, Tryd.results60, go_sem]) rfl ?_
  exact ⟨rfl, below_drewN ((Below.refl _ _).alloc (Nat.le_refl _) _) _⟩
end Go.Proofs.YtnpchkohfomagaaDoor.Rgm
/-! spec.in: a letter in pairs. -/
namespace Go.Proofs.YtnpchkohfomagaaDoor.Rgm
open Go.ChangeShapes Go.WideShapes Go.ChangeAt Go.RowKit Go.Trav Go.Rg Go.Proofs.YtnpchkohfomagaaDoor.Rgw Go.Proofs.YtnpchkohfomagaaDoor.Rgy Go.Proofs.YtnpchkohfomagaaDoor.Seq
set_option linter.unusedVariables false
set_option linter.unusedSimpArgs false
set_option maxRecDepth 100000
/-- Whether a letter is in pairs. -/
def inB (zs : List Int) (r : Int) : Bool := (prs zs).any fun q => decide (q.1 ≤ r) && decide (r ≤ q.2)
theorem prs_get : ∀ (zs : List Int) (j : Nat) (q : Int × Int), (prs zs)[j]? = some q → zs[2 * j]? = some q.1 ∧ zs[2 * j + 1]? = some q.2
  | a :: b :: r, 0, q, h => by simp [prs] at h; subst h; exact ⟨rfl, rfl⟩
  | a :: b :: r, j + 1, q, h => by
    have := prs_get r j q (by simpa [prs] using h)
    rw [show 2 * (j + 1) = 2 * j + 1 + 1 by omega]
    exact this
  | [], _, _, h => by simp [prs] at h
  | [_], _, _, h => by simp [prs] at h
theorem get_prs : ∀ (zs : List Int) (j : Nat) (a b : Int), zs[2 * j]? = some a → zs[2 * j + 1]? = some b → (prs zs)[j]? = some (a, b)
  | x :: y :: r, 0, a, b, h1, h2 => by simp at h1 h2; subst h1 h2; rfl
  | x :: y :: r, j + 1, a, b, h1, h2 => by
    rw [show 2 * (j + 1) = 2 * j + 1 + 1 by omega] at h1 h2
    have := get_prs r j a b (by simpa using h1) (by simpa using h2)
    simpa [prs] using this
  | [], _, _, _, h, _ => by simp at h
  | [x], 0, _, _, _, h => by simp at h
  | [x], j + 1, _, _, h, _ => by simp at h
set_option maxHeartbeats 4000000 in
theorem in_any (zs : List Int) (v : Value) (r : Int) (w : World) (h : Reads w v zs.length 1 (zs.map rV)) (hk : ∃ k, zs.length = 2 * k) (hl : zs.length ≤ 1000) :
    Calls Tryd.prog 58 #[v, .int .i32 r] w fun e w' => e = .returned (.bool (inB zs r)) ∧ w = w' := by
  obtain ⟨va, vc, rfl⟩ := h.form
  obtain ⟨n, hn⟩ : ∃ n, n = zs.length := ⟨_, rfl⟩
  rw [← hn] at h hk hl ⊢
  have HR := Lib.hid h
  have HN := Lib.hid (And.intro hn hk)
  clear h hn hk
  go_enter Tryd.func58, Tryd.ntmps58
  go_wp2_with fail
  go_loopw [5] (fun iv wr => ∃ (k i : Nat), iv = .int .i64 (i : Int) ∧ Hid (i = 2 * k) ∧ i ≤ n ∧ wr = w ∧ Hid (∀ (j : Nat) (q : Int × Int), j < k → (prs zs)[j]? = some q → (decide (q.1 ≤ r) && decide (r ≤ q.2)) = false)) (fun iv _ => n - (intOf iv).toNat)
  case atStart => exact ⟨0, 0, rfl, Lib.hid rfl, Nat.zero_le _, rfl, Lib.hid fun j q hj => by omega⟩
  case round =>
    obtain ⟨k, i, rfl, HI, hi, rfl, HF⟩ := hrel
    have w1' : IntKind.i64.wrap ((i : Int) + 1) = (i : Int) + 1 := IntWalk.i64_in _ (by omega)
    have w2' : IntKind.i64.wrap ((i : Int) + 2) = (i : Int) + 2 := IntWalk.i64_in _ (by omega)
    by_cases hlt : i + 1 < n
    · obtain ⟨g, off, cap, a, e1, ha, c1⟩ := Reads.one rV HR.out (k := i) (by omega)
      obtain ⟨g', off', cap', b, e2, hb, c2⟩ := Reads.one rV HR.out (k := i + 1) (by omega)
      cases e1
      cases e2
      have hab : (prs zs)[k]? = some (a, b) := get_prs zs k a b (by rw [← HI.out]; exact ha) (by rw [← HI.out]; exact hb)
      have d1 : rV a = .int .i32 a := rfl
      have d2 : rV b = .int .i32 b := rfl
      rw [d1] at c1
      rw [d2] at c2
      have HAB := Lib.hid hab
      clear hab ha hb d1 d2
      have t0 : ((i : Int) + 1 < (n : Int)) := by omega
      have t1 : (0 : Int) ≤ (i : Int) := by omega
      have t2 : (0 : Int) ≤ (i : Int) + 1 := by omega
      have t3 : (i : Int) < (n : Int) := by omega
      by_cases h1 : a ≤ r
      · by_cases h2 : r ≤ b
        · go_wp2_with fail
          go_ret
          refine ⟨?_, rfl⟩
          have : inB zs r = true := by
            unfold inB
            rw [List.any_eq_true]
            exact ⟨(a, b), List.mem_of_getElem? HAB.out, by simp [h1, h2]⟩
          rw [this]
          rfl
        · have h2' : decide (r ≤ b) = false := decide_eq_false h2
          go_wp2_with fail
          go_roundw
          case rel => exact ⟨k + 1, i + 2, by go_num, Lib.hid (by have := HI.out; omega), by have := HN.out.2; have := HI.out; omega, (by first | trivial | rfl), Lib.hid fun j q hj hq => by
            by_cases hjk : j = k
            · subst hjk; rw [HAB.out] at hq; cases hq; simp [h2']
            · exact HF.out j q (by omega) hq⟩
          case measure => simp [intOf]; omega
      · have h1' : decide (a ≤ r) = false := decide_eq_false h1
        go_wp2_with fail
        go_roundw
        case rel => exact ⟨k + 1, i + 2, by go_num, Lib.hid (by have := HI.out; omega), by have := HN.out.2; have := HI.out; omega, (by first | trivial | rfl), Lib.hid fun j q hj hq => by
          by_cases hjk : j = k
          · subst hjk; rw [HAB.out] at hq; cases hq; simp [h1']
          · exact HF.out j q (by omega) hq⟩
        case measure => simp [intOf]; omega
    · have t0 : ¬ ((i : Int) + 1 < (n : Int)) := by omega
      go_wp2_with fail
      go_ret
      refine ⟨?_, rfl⟩
      have : inB zs r = false := by
        unfold inB
        rw [List.any_eq_false]
        intro q hq
        obtain ⟨j, hj⟩ := List.getElem?_of_mem hq
        have hp := prs_get zs j q hj
        have hl := (List.getElem?_eq_some_iff.1 hp.2).1
        have := HF.out j q (by have := HI.out; have := HN.out.1; omega) hj
        simp only [this]; simp
      rw [this]
      rfl
end Go.Proofs.YtnpchkohfomagaaDoor.Rgm
/-! Where letters of a class end: plain. -/
namespace Go.Proofs.YtnpchkohfomagaaDoor.Rgm
open Go.Rg Go.Utf
set_option linter.unusedVariables false
theorem inB_iff (zs : List Int) (r : Int) : inB zs r = true ↔ ∃ q ∈ prs zs, q.1 ≤ r ∧ r ≤ q.2 := by
  unfold inB
  rw [List.any_eq_true]
  simp only [Bool.and_eq_true, decide_eq_true_eq]
/-- A class: from a place on stands a letter of its pairs. -/
theorem rch_cls (zs : List Int) (s : List Nat) (P : Nat → Prop) (j : Nat) : Rch (Cls zs) s P j ↔ ∃ (i : Nat) (c : Int), P i ∧ Let c ∧ inB zs c = true ∧ i + wid c = j ∧ j ≤ s.length ∧ (s.take j).drop i = ub c := by
  constructor
  · rintro ⟨hj, i, hi, hp, q, hq, x, hx, h1, h2, e⟩
    have hl := congrArg List.length e
    rw [sg_len s i j hj, ub_len] at hl
    exact ⟨i, x, hp, hx, (inB_iff zs x).2 ⟨q, hq, h1, h2⟩, by omega, hj, e⟩
  · rintro ⟨i, c, hp, hc, hin, rfl, hj, e⟩
    obtain ⟨q, hq, h1, h2⟩ := (inB_iff zs c).1 hin
    exact ⟨hj, i, by omega, hp, q, hq, c, hc, h1, h2, e⟩
/-- A word of letters. -/
theorem rch_lit (rs : List Int) (s : List Nat) (P : Nat → Prop) (j : Nat) : Rch (fun x => x = word rs) s P j ↔ ∃ i, P i ∧ i + (word rs).length = j ∧ j ≤ s.length ∧ (s.take j).drop i = word rs := rch_word (word rs) s P j
end Go.Proofs.YtnpchkohfomagaaDoor.Rgm
/-! Letters read from their bytes: plain. -/
namespace Go.Proofs.YtnpchkohfomagaaDoor.Rgm
open Go.Rg Go.Utf
set_option linter.unusedVariables false
theorem ub1 (b0 : Nat) (h : b0 < 128) : ub (b0 : Int) = [b0] := by
  unfold ub ubytes
  rw [if_pos (by omega)]
  simp
theorem ub2 (b0 b1 : Nat) (h0 : 194 ≤ b0) (h0' : b0 < 224) (h1 : 128 ≤ b1) (h1' : b1 < 192) : ub (((b0 - 192) * 64 + (b1 - 128) : Nat) : Int) = [b0, b1] := by
  unfold ub ubytes
  rw [if_neg (by omega), if_pos (by omega)]
  simp only [List.map_cons, List.map_nil, List.cons.injEq, and_true]
  omega
theorem ub3 (b0 b1 b2 : Nat) (h0 : 224 ≤ b0) (h0' : b0 < 240) (h1 : 128 ≤ b1) (h1' : b1 < 192) (h2 : 128 ≤ b2) (h2' : b2 < 192) (hl : 2048 ≤ (b0 - 224) * 4096 + (b1 - 128) * 64 + (b2 - 128)) : ub (((b0 - 224) * 4096 + (b1 - 128) * 64 + (b2 - 128) : Nat) : Int) = [b0, b1, b2] := by
  unfold ub ubytes
  rw [if_neg (by omega), if_neg (by omega), if_pos (by omega)]
  simp only [List.map_cons, List.map_nil, List.cons.injEq, and_true]
  omega
theorem ub4 (b0 b1 b2 b3 : Nat) (h0 : 240 ≤ b0) (h0' : b0 < 245) (h1 : 128 ≤ b1) (h1' : b1 < 192) (h2 : 128 ≤ b2) (h2' : b2 < 192) (h3 : 128 ≤ b3) (h3' : b3 < 192) (hl : 65536 ≤ (b0 - 240) * 262144 + (b1 - 128) * 4096 + (b2 - 128) * 64 + (b3 - 128)) : ub (((b0 - 240) * 262144 + (b1 - 128) * 4096 + (b2 - 128) * 64 + (b3 - 128) : Nat) : Int) = [b0, b1, b2, b3] := by
  unfold ub ubytes
  rw [if_neg (by omega), if_neg (by omega), if_neg (by omega)]
  simp only [List.map_cons, List.map_nil, List.cons.injEq, and_true]
  omega
/-- The first byte of a letter says how many it has. -/
theorem ub_first (c : Int) (h : Let c) : ∃ b0 r, ub c = b0 :: r ∧ longN b0 = wid c := by
  unfold Let at h
  unfold ub ubytes wid
  by_cases h1 : c ≤ 127
  · rw [if_pos h1, if_pos h1]
    exact ⟨c.toNat, [], by simp, by unfold longN; rw [if_pos (by omega)]⟩
  · rw [if_neg h1, if_neg h1]
    by_cases h2 : c ≤ 2047
    · rw [if_pos h2, if_pos h2]
      exact ⟨(192 + c / 64).toNat, [(128 + c % 64).toNat], by simp, by unfold longN; rw [if_neg (by omega), if_pos (by omega)]⟩
    · rw [if_neg h2, if_neg h2]
      by_cases h3 : c ≤ 65535
      · rw [if_pos h3, if_pos h3]
        exact ⟨(224 + c / 4096).toNat, _, rfl, by unfold longN; rw [if_neg (by omega), if_neg (by omega), if_pos (by omega)]⟩
      · rw [if_neg h3, if_neg h3]
        exact ⟨(240 + c / 262144).toNat, _, rfl, by unfold longN; rw [if_neg (by omega), if_neg (by omega), if_neg (by omega), if_pos (by omega)]⟩
end Go.Proofs.YtnpchkohfomagaaDoor.Rgm
/-! Bits of bytes: masks. -/
namespace Go.Proofs.YtnpchkohfomagaaDoor.Rgm
open Go Go.Trav
set_option linter.unusedVariables false
set_option maxRecDepth 100000
theorem and127 : ∀ v : Fin 256, bits BinOp.and IntKind.u8 ((v.val : Nat) : Int) 127 = ((v.val % 128 : Nat) : Int) := by decide
theorem and31 : ∀ v : Fin 256, bits BinOp.and IntKind.u8 ((v.val : Nat) : Int) 31 = ((v.val % 32 : Nat) : Int) := by decide
theorem and15 : ∀ v : Fin 256, bits BinOp.and IntKind.u8 ((v.val : Nat) : Int) 15 = ((v.val % 16 : Nat) : Int) := by decide
theorem and7 : ∀ v : Fin 256, bits BinOp.and IntKind.u8 ((v.val : Nat) : Int) 7 = ((v.val % 8 : Nat) : Int) := by decide
theorem and63 : ∀ v : Fin 256, bits BinOp.and IntKind.u8 ((v.val : Nat) : Int) 63 = ((v.val % 64 : Nat) : Int) := by decide
/-- Six bits more. -/
theorem or64_i32 (h a : Nat) (hh : h < 16777216) (ha : a < 64) : bits BinOp.or IntKind.i32 ((64 * h : Nat) : Int) (a : Int) = ((64 * h + a : Nat) : Int) :=
  i32_or_of (64 * h) a a (64 * h + a) (by omega) (ofInt_i32 a (by omega)) (Nat.two_pow_add_eq_or_of_lt (i := 6) ha h).symm (by omega)
end Go.Proofs.YtnpchkohfomagaaDoor.Rgm
/-! spec.runes at full length. -/
namespace Go.Proofs.YtnpchkohfomagaaDoor.Rgm
open Go.ChangeShapes Go.WideShapes Go.ChangeAt Go.RowKit Go.Trav Go.Rg Go.Utf Go.Proofs.YtnpchkohfomagaaDoor.Rgw Go.Proofs.YtnpchkohfomagaaDoor.Rgy
set_option linter.unusedVariables false
set_option linter.unusedSimpArgs false
set_option maxRecDepth 100000
/-- One byte. -/
theorem runes_one (s : ByteArray) (w : World) (hs : s.size = 1) (b : Nat) (hb : b < 128) (h0 : (s[0]'(by omega)).toNat = b) :
    Calls Tryd.prog 63 #[.string s] w fun e w' => e = .returned (.tuple #[.int .i32 (b : Int), .int .i32 (b : Int), .bool true]) ∧ Below w.heap.size w w' := by
  have hl := fun W => long_any b (by omega) W
  have e1 : longN b = 1 := by unfold longN; rw [if_pos hb]
  rw [e1] at hl
  have HL := Lib.hid hl
  clear hl e1
  obtain ⟨W2, hW2⟩ : ∃ W2, W2 = (w.alloc (.cells #[.int .i32 0, .int .i32 0, .int .i32 128, .int .i32 2048, .int .i32 65536] 159)).alloc (.cells #[.int .u8 0, .int .u8 127, .int .u8 31, .int .u8 15, .int .u8 7] 160) := ⟨_, rfl⟩
  have hb2 : Below w.heap.size w W2 := by rw [hW2]; exact ((Below.refl _ _).alloc (Nat.le_refl _) _).alloc (by simp) _
  have kA : W2.heap[w.heap.size]? = some (.cells #[.int .i32 0, .int .i32 0, .int .i32 128, .int .i32 2048, .int .i32 65536] 159 (0, 0)) := by rw [hW2]; exact block_alloc (heap_alloc_new w _)
  have kB : W2.heap[w.heap.size + 1]? = some (.cells #[.int .u8 0, .int .u8 127, .int .u8 31, .int .u8 15, .int .u8 7] 160 (0, 0)) := by rw [hW2]; exact heap_alloc_at _ _ _ (by simp)
  have ca : W2.cell? ⟨w.heap.size, 1, none⟩ = some (.int .i32 0) := block_cell kA rfl
  have cb : W2.cell? ⟨w.heap.size + 1, 1, none⟩ = some (.int .u8 127) := block_cell kB rfl
  have HB2 := Lib.hid hb2
  clear hb2 kA kB
  go_enter Tryd.func63, Tryd.ntmps63
  go_wp2_with fail
  refine (HL.out _).mono ?_
  rintro e w1 ⟨rfl, rfl⟩
  go_wp2_with fail
  rw [← hW2]
  clear hW2
  have q1 : bits BinOp.and IntKind.u8 (b : Int) 127 = (b : Int) := by have := and127 ⟨b, by omega⟩; simp only at this; rw [this, Nat.mod_eq_of_lt hb]
  have q2 : wrap32 (b : Int) = (b : Int) := by unfold wrap32; omega
  have q3 : max (b : Int) 0 = (b : Int) := by omega
  have q4 : min (b : Int) 1114111 = (b : Int) := by omega
  go_quiet (fail)
  go_wp2_with fail
  go_loopw [8, 9, 10] (fun lv hv iv wr => lv = .int .i32 (b : Int) ∧ hv = .int .i32 (b : Int) ∧ iv = .int .i64 1 ∧ Hid (∃ nq, wr = W2.drewN nq)) (fun _ _ _ _ => 0)
  case atStart => exact ⟨rfl, rfl, rfl, Lib.hid ⟨_, rfl⟩⟩
  case round =>
    obtain ⟨rfl, rfl, rfl, HW⟩ := hrel
    obtain ⟨nq', rfl⟩ := HW.out
    go_wp2_with fail
    refine bodyPost_ret (v := .tuple #[.int .i32 (b : Int), .int .i32 (b : Int), .bool true]) (by simp [results, Tryd.results63, go_sem]) rfl ?_
    exact ⟨rfl, HB2.out.trans ((below_draws W2 _).mono HB2.out.size)⟩
/-- Two bytes. -/
theorem runes_two (s : ByteArray) (w : World) (hs : s.size = 2) (b c : Nat) (hb : 194 ≤ b) (hb2 : b < 224) (h0 : (s[0]'(by omega)).toNat = b) (h1 : (s[1]'(by omega)).toNat = c) (hc : 128 ≤ c) (hc2 : c < 192) :
    Calls Tryd.prog 63 #[.string s] w fun e w' => e = .returned (.tuple #[.int .i32 (((b - 192) * 64 + (c - 128) : Nat) : Int), .int .i32 (((b - 192) * 64 + (c - 128) : Nat) : Int), .bool true]) ∧ Below w.heap.size w w' := by
  have hl := fun W => long_any b (by omega) W
  have e1 : longN b = 2 := by unfold longN; rw [if_neg (by omega), if_pos (by omega)]
  rw [e1] at hl
  have HL := Lib.hid hl
  clear hl e1
  obtain ⟨W2, hW2⟩ : ∃ W2, W2 = (w.alloc (.cells #[.int .i32 0, .int .i32 0, .int .i32 128, .int .i32 2048, .int .i32 65536] 159)).alloc (.cells #[.int .u8 0, .int .u8 127, .int .u8 31, .int .u8 15, .int .u8 7] 160) := ⟨_, rfl⟩
  have hb2 : Below w.heap.size w W2 := by rw [hW2]; exact ((Below.refl _ _).alloc (Nat.le_refl _) _).alloc (by simp) _
  have kA : W2.heap[w.heap.size]? = some (.cells #[.int .i32 0, .int .i32 0, .int .i32 128, .int .i32 2048, .int .i32 65536] 159 (0, 0)) := by rw [hW2]; exact block_alloc (heap_alloc_new w _)
  have kB : W2.heap[w.heap.size + 1]? = some (.cells #[.int .u8 0, .int .u8 127, .int .u8 31, .int .u8 15, .int .u8 7] 160 (0, 0)) := by rw [hW2]; exact heap_alloc_at _ _ _ (by simp)
  have ca : W2.cell? ⟨w.heap.size, 2, none⟩ = some (.int .i32 128) := block_cell kA rfl
  have cb : W2.cell? ⟨w.heap.size + 1, 2, none⟩ = some (.int .u8 31) := block_cell kB rfl
  have HB2 := Lib.hid hb2
  clear hb2 kA kB
  go_enter Tryd.func63, Tryd.ntmps63
  go_wp2_with fail
  refine (HL.out _).mono ?_
  rintro e w1 ⟨rfl, rfl⟩
  go_wp2_with fail
  rw [← hW2]
  clear hW2
  have q1 : bits BinOp.and IntKind.u8 (b : Int) 31 = ((b - 192 : Nat) : Int) := by have := and31 ⟨b, by omega⟩; simp only at this; rw [this, show b % 32 = b - 192 by omega]
  have q2 : wrap32 ((b - 192 : Nat) : Int) = ((b - 192 : Nat) : Int) := by unfold wrap32; omega
  go_quiet (fail)
  go_wp2_with fail
  go_loopw [8, 9, 10] (fun lv hv iv wr => ∃ i : Nat, iv = .int .i64 (i : Int) ∧ 1 ≤ i ∧ i ≤ 2 ∧ (lv = .int .i32 (if i = 1 then ((b - 192 : Nat) : Int) else (((b - 192) * 64 + (c - 128) : Nat) : Int))) ∧ hv = lv ∧ Hid (∃ nq, wr = W2.drewN nq)) (fun _ _ iv _ => 2 - (intOf iv).toNat)
  case atStart => exact ⟨1, rfl, by omega, by omega, rfl, rfl, Lib.hid ⟨_, rfl⟩⟩
  case round =>
    obtain ⟨i, rfl, hi1, hi2, rfl, rfl, HW⟩ := hrel
    obtain ⟨nq', rfl⟩ := HW.out
    by_cases h2 : i = 1
    · subst h2
      go_wp2_with fail
      go_roundw
      case rel => exact ⟨2, rfl, by omega, by omega, by rw [if_neg (by omega)]; congr 1; omega, rfl, Lib.hid ⟨_, rfl⟩⟩
      case measure => simp [intOf]
    · obtain rfl : i = 2 := by omega
      rw [if_neg (by omega)]
      obtain ⟨x, hx⟩ : ∃ x, x = (b - 192) * 64 + (c - 128) := ⟨_, rfl⟩
      rw [← hx]
      have q3 : max (x : Int) 128 = (x : Int) := by omega
      have q4 : min (x : Int) 1114111 = (x : Int) := by omega
      have HX := Lib.hid hx
      clear hx
      go_wp2_with fail
      refine bodyPost_ret (v := .tuple #[.int .i32 (x : Int), .int .i32 (x : Int), .bool true]) (by simp [results, Tryd.results63, go_sem]) rfl ?_
      exact ⟨by rw [← HX.out], HB2.out.trans ((below_draws W2 _).mono HB2.out.size)⟩
end Go.Proofs.YtnpchkohfomagaaDoor.Rgm
/-! spec.runes at full length. -/
namespace Go.Proofs.YtnpchkohfomagaaDoor.Rgm
open Go.ChangeShapes Go.WideShapes Go.ChangeAt Go.RowKit Go.Trav Go.Rg Go.Utf Go.Proofs.YtnpchkohfomagaaDoor.Rgw Go.Proofs.YtnpchkohfomagaaDoor.Rgy Go.Proofs.YtnpchkohfomagaaDoor.Utf0
set_option linter.unusedVariables false
set_option linter.unusedSimpArgs false
set_option maxRecDepth 100000
/-- The bytes of a text as numbers. -/
def sI (s : ByteArray) : List Int := s.data.toList.map fun b => ((b.toNat : Nat) : Int)
theorem sI_len (s : ByteArray) : (sI s).length = s.size := by unfold sI; rw [List.length_map]; rfl
theorem sI_get (s : ByteArray) (i : Nat) (h : i < s.size) : (sI s)[i]? = some (((s[i]'h).toNat : Nat) : Int) := by
  unfold sI
  rw [List.getElem?_map, List.getElem?_eq_getElem (by exact h)]
  rfl
def Tails (l : List Int) (n : Nat) : Prop := ∀ j, 1 ≤ j → j < n → tl (l[j]?.getD 0)
theorem acc_bd {l : List Int} {r : Nat} : ∀ k, Tails l (k + 1) → ∃ v : Nat, acc l (r : Int) k = (v : Int) ∧ v + 1 ≤ (r + 1) * 64 ^ k
  | 0, _ => ⟨r, rfl, by omega⟩
  | k + 1, h => by
    obtain ⟨v, h1, h2⟩ := acc_bd (l := l) (r := r) k fun j a b => h j a (by omega)
    have h3 := h (k + 1) (by omega) (by omega)
    unfold tl at h3
    refine ⟨(64 * acc l (r : Int) k + l[k + 1]?.getD 0 - 128).toNat, ?_, ?_⟩
    · show 64 * acc l (r : Int) k + l[k + 1]?.getD 0 - 128 = _
      omega
    · rw [Nat.pow_succ, ← Nat.mul_assoc]
      obtain ⟨z, hz⟩ : ∃ z, z = (r + 1) * 64 ^ k := ⟨_, rfl⟩
      rw [← hz] at h2 ⊢
      omega
/-- The bytes behind the first one go on, and the number is within its bounds. -/
def GoodR (l : List Int) (r : Int) (n : Nat) (ls : Int) : Prop := Tails l n ∧ ls ≤ acc l r (n - 1) ∧ acc l r (n - 1) ≤ 1114111
def RunesP (l : List Int) (r : Int) (n : Nat) (ls : Int) (e : Ending) : Prop :=
  (GoodR l r n ls ∧ e = .returned (.tuple #[.int .i32 (acc l r (n - 1)), .int .i32 (acc l r (n - 1)), .bool true])) ∨
  (¬ GoodR l r n ls ∧ ∃ lo hi : Int, e = .returned (.tuple #[.int .i32 lo, .int .i32 hi, .bool false]))
theorem shl_or {v a v2 : Nat} (hv : v < 20480) (ha : a < 64) (h2 : v2 = 64 * v + a) : wrap32 ((v : Int) * 64) = 64 * (v : Int) ∧ bits BinOp.or IntKind.i32 (64 * (v : Int)) (a : Int) = (v2 : Int) := by
  refine ⟨by unfold wrap32; omega, ?_⟩
  have h := or64_i32 v a (Nat.lt_of_lt_of_le hv (by decide)) ha
  rw [← h2] at h
  rw [← h]
  congr 1
set_option maxHeartbeats 4000000 in
theorem runes_full (n : Nat) (hn2 : 2 ≤ n) (hn4 : n ≤ 4) (s : ByteArray) (w : World) (hs : s.size = n) (b r : Nat) (mk ls : Int) (hb : b < 256) (h0 : (s[0]'(by omega)).toNat = b) (hlong : longN b = n)
    (hmk : ([.int .u8 0, .int .u8 127, .int .u8 31, .int .u8 15, .int .u8 7] : List Value)[n]? = some (.int .u8 mk)) (hls : ([.int .i32 0, .int .i32 0, .int .i32 128, .int .i32 2048, .int .i32 65536] : List Value)[n]? = some (.int .i32 ls)) (q1 : bits BinOp.and IntKind.u8 (b : Int) mk = (r : Int)) (hr : (r + 1) * 64 ^ (n - 2) ≤ 20480) :
    Calls Tryd.prog 63 #[.string s] w fun e w' => Below w.heap.size w w' ∧ RunesP (sI s) (r : Int) n ls e := by
  have hl := fun W => long_any b hb W
  rw [hlong] at hl
  have HL := Lib.hid hl
  clear hl
  obtain ⟨W2, hW2⟩ : ∃ W2, W2 = (w.alloc (.cells #[.int .i32 0, .int .i32 0, .int .i32 128, .int .i32 2048, .int .i32 65536] 159)).alloc (.cells #[.int .u8 0, .int .u8 127, .int .u8 31, .int .u8 15, .int .u8 7] 160) := ⟨_, rfl⟩
  have hb2 : Below w.heap.size w W2 := by rw [hW2]; exact ((Below.refl _ _).alloc (Nat.le_refl _) _).alloc (by simp) _
  have kA : W2.heap[w.heap.size]? = some (.cells #[.int .i32 0, .int .i32 0, .int .i32 128, .int .i32 2048, .int .i32 65536] 159 (0, 0)) := by rw [hW2]; exact block_alloc (heap_alloc_new w _)
  have kB : W2.heap[w.heap.size + 1]? = some (.cells #[.int .u8 0, .int .u8 127, .int .u8 31, .int .u8 15, .int .u8 7] 160 (0, 0)) := by rw [hW2]; exact heap_alloc_at _ _ _ (by simp)
  have ca : W2.cell? ⟨w.heap.size, n, none⟩ = some (.int .i32 ls) := block_cell kA (by simpa using hls)
  have cb : W2.cell? ⟨w.heap.size + 1, n, none⟩ = some (.int .u8 mk) := block_cell kB (by simpa using hmk)
  have HB2 := Lib.hid hb2
  have hls0 : 0 ≤ ls ∧ ls < 65537 := by
    rcases (by omega : n = 2 ∨ n = 3 ∨ n = 4) with rfl | rfl | rfl <;> (simp at hls; omega)
  have hr32 : r < 2147483648 := by
    have h1 : 1 ≤ 64 ^ (n - 2) := Nat.one_le_pow _ _ (by omega)
    have h2 := Nat.mul_le_mul_left (r + 1) h1
    omega
  have HR := Lib.hid hr
  have HLS := Lib.hid hls0
  clear hb2 kA kB hmk hls hr hlong hls0
  have n0 : ((n : Int) == 0) = false := by simp; omega
  have n1 : (0 : Int) ≤ (n : Int) := by omega
  have n2 : (n : Int) < 5 := by omega
  have q2 : wrap32 (r : Int) = (r : Int) := by unfold wrap32; omega
  have n3 : 0 < s.size := by omega
  go_enter Tryd.func63, Tryd.ntmps63
  go_wp2_with fail
  refine (HL.out _).mono ?_
  rintro e w1 ⟨rfl, rfl⟩
  go_wp2_with fail
  rw [← hW2]
  clear hW2
  go_quiet (fail)
  go_wp2_with fail
  go_loopw [8, 9, 10] (fun lv hv iv wr => ∃ i v : Nat, iv = .int .i64 (i : Int) ∧ lv = .int .i32 (v : Int) ∧ hv = .int .i32 (v : Int) ∧ 1 ≤ i ∧ i ≤ n ∧ Hid ((v : Int) = acc (sI s) (r : Int) (i - 1) ∧ Tails (sI s) i ∧ ∃ nq, wr = W2.drewN nq)) (fun _ _ iv _ => n - (intOf iv).toNat)
  case atStart => exact ⟨1, r, rfl, rfl, rfl, by omega, by omega, Lib.hid ⟨rfl, fun j a b => by omega, _, rfl⟩⟩
  case round =>
    obtain ⟨i, v, rfl, rfl, rfl, hi1, hin, HV⟩ := hrel
    obtain ⟨nq', rfl⟩ := HV.out.2.2
    obtain ⟨v', hv', hvb⟩ := acc_bd (l := sI s) (r := r) (i - 1) (by rw [show i - 1 + 1 = i by omega]; exact HV.out.2.1)
    obtain rfl : v = v' := by have := HV.out.1; omega
    have HVB := Lib.hid hvb
    clear hv' hvb
    have i0 : (0 : Int) ≤ (i : Int) := by omega
    by_cases hlt : i < n
    · obtain ⟨bb, hbb⟩ : ∃ bb : Nat, (s[i]'(by omega)).toNat = bb := ⟨_, rfl⟩
      have hgi : (sI s)[i]? = some (bb : Int) := by rw [sI_get s i (by omega), hbb]
      have hbb256 : bb < 256 := by rw [← hbb]; exact UInt8.toNat_lt _
      have HGI := Lib.hid hgi
      clear hgi
      have i1 : i < s.size := by omega
      have i2 : (i : Int) < (n : Int) := by omega
      by_cases c1 : bb < 128
      · go_wp2_with fail
        refine bodyPost_ret (v := .tuple #[.int .i32 0, .int .i32 0, .bool false]) (by simp [results, Tryd.results63, go_sem]) rfl ?_
        exact ⟨HB2.out.trans ((below_draws W2 _).mono HB2.out.size), .inr ⟨fun hg => by have h := hg.1 i (by omega) hlt; rw [HGI.out] at h; simp [tl] at h; omega, _, _, rfl⟩⟩
      · by_cases c2 : 191 < bb
        · go_wp2_with fail
          refine bodyPost_ret (v := .tuple #[.int .i32 0, .int .i32 0, .bool false]) (by simp [results, Tryd.results63, go_sem]) rfl ?_
          exact ⟨HB2.out.trans ((below_draws W2 _).mono HB2.out.size), .inr ⟨fun hg => by have h := hg.1 i (by omega) hlt; rw [HGI.out] at h; simp [tl] at h; omega, _, _, rfl⟩⟩
        · obtain ⟨aa, haa⟩ : ∃ aa, aa = bb - 128 := ⟨_, rfl⟩
          have zz : aa < 64 := by clear q1 q2; omega
          have q3 : bits BinOp.and IntKind.u8 (bb : Int) 63 = (aa : Int) := by have := and63 ⟨bb, hbb256⟩; simp only at this; rw [this]; congr 1; clear this q1 q2; omega
          have q4 : wrap32 (aa : Int) = (aa : Int) := by clear q1 q2 q3; unfold wrap32; omega
          have hvs : v < 20480 := by
            clear q1 q2 q3 q4
            have h1 : 64 ^ (i - 1) ≤ 64 ^ (n - 2) := Nat.pow_le_pow_right (by omega) (by omega)
            have h2 := Nat.mul_le_mul_left (r + 1) h1
            have h3 := HR.out
            have h4 := HVB.out
            omega
          obtain ⟨v2, hv2⟩ : ∃ v2, v2 = 64 * v + aa := ⟨_, rfl⟩
          obtain ⟨q5, q6⟩ := shl_or hvs zz hv2
          have HV2 := Lib.hid (And.intro hv2 (And.intro haa (And.intro c1 c2)))
          clear hv2 hvs haa zz hr32
          go_wp2_with fail
          go_roundw
          case rel =>
            clear q1 q2 q3 q4 q5 q6
            obtain ⟨g1, g0, g2, g3⟩ := HV2.out
            refine ⟨i + 1, v2, by go_num, rfl, rfl, by omega, by omega, Lib.hid ⟨?_, fun j a b => ?_, _, rfl⟩⟩
            · rw [show i + 1 - 1 = (i - 1) + 1 by omega]
              show _ = 64 * acc (sI s) (r : Int) (i - 1) + (sI s)[i - 1 + 1]?.getD 0 - 128
              rw [show i - 1 + 1 = i by omega, HGI.out, ← HV.out.1, g1]
              simp; omega
            · by_cases hj : j < i
              · exact HV.out.2.1 j a hj
              · obtain rfl : j = i := by omega
                rw [HGI.out]; simp [tl]; omega
          case measure => clear q1 q2 q3 q4 q5 q6; simp [intOf]; omega
    · obtain rfl : i = n := by omega
      have HX := Lib.hid (And.intro HV.out.1 HV.out.2.1)
      by_cases d1 : ls ≤ (v : Int)
      · by_cases d2 : (v : Int) ≤ 1114111
        · have q3 : max (v : Int) ls = (v : Int) := by omega
          have q4 : min (v : Int) 1114111 = (v : Int) := by omega
          go_wp2_with fail
          refine bodyPost_ret (v := .tuple #[.int .i32 (v : Int), .int .i32 (v : Int), .bool true]) (by simp [results, Tryd.results63, go_sem]) rfl ?_
          exact ⟨HB2.out.trans ((below_draws W2 _).mono HB2.out.size), .inl ⟨⟨HX.out.2, by rw [← HX.out.1]; exact d1, by rw [← HX.out.1]; exact d2⟩, by rw [← HX.out.1]⟩⟩
        · have q3 : max (v : Int) ls = (v : Int) := by omega
          have q4 : min (v : Int) 1114111 = 1114111 := by omega
          go_wp2_with fail
          refine bodyPost_ret (v := .tuple #[.int .i32 (v : Int), .int .i32 1114111, .bool false]) (by simp [results, Tryd.results63, go_sem]) rfl ?_
          exact ⟨HB2.out.trans ((below_draws W2 _).mono HB2.out.size), .inr ⟨fun hg => by have := hg.2.2; rw [← HX.out.1] at this; omega, _, _, rfl⟩⟩
      · have d3 : (v : Int) ≤ 1114111 := by have := HLS.out; omega
        have d4 : ¬ ls ≤ (v : Int) := d1
        have q3 : max (v : Int) ls = ls := by omega
        have q4 : min (v : Int) 1114111 = (v : Int) := by omega
        go_wp2_with fail
        refine bodyPost_ret (v := .tuple #[.int .i32 ls, .int .i32 (v : Int), .bool false]) (by simp [results, Tryd.results63, go_sem]) rfl ?_
        exact ⟨HB2.out.trans ((below_draws W2 _).mono HB2.out.size), .inr ⟨fun hg => by have := hg.2.1; rw [← HX.out.1] at this; omega, _, _, rfl⟩⟩
end Go.Proofs.YtnpchkohfomagaaDoor.Rgm
