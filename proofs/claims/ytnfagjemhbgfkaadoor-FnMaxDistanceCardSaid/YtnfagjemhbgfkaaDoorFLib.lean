/- Own lemmas for the frames: what an argument's reading gives of memory, as rows that read (Reads). -/
import Derived.Test.YtnfagjemhbgfkaaDoorLib
import Derived.Deep.Slices
import Derived.Lib.SmallJoins
import Derived.Deep.Fields
namespace Go.Trav
open Go.ChangeShapes Go.WideShapes Go.ChangeAt Go.RowKit Go.Joins Go.Deep
set_option linter.unusedVariables false
section
variable {H : Type} {enc : TypeId × Value → H} {P : Program} {w : World} {spare : Nat → Bool} {held : Bool}

theorem at_bound {k : Nat} {l : List (List Value)} {s : Nat} (hs : 0 < s) (hl : ∀ c ∈ l, c.length = s) (hk : k < l.flatten.length) :
    k / s < l.length ∧ l.flatten[k]? = (l[k / s]?).bind (·[k % s]?) := by
  induction l generalizing k with
  | nil => simp at hk
  | cons c r ih =>
    have hc : c.length = s := hl c (by simp)
    by_cases h : k < s
    · have e1 : k / s = 0 := Nat.div_eq_of_lt h
      have e2 : k % s = k := Nat.mod_eq_of_lt h
      rw [e1, e2]
      simp [List.getElem?_append_left (show k < c.length by omega)]
    · have e1 : k / s = (k - s) / s + 1 := by
        have : k = (k - s) + s := by omega
        conv => lhs; rw [this]
        rw [Nat.add_div_right _ hs]
      have e2 : k % s = (k - s) % s := by
        have : k = (k - s) + s := by omega
        conv => lhs; rw [this]
        rw [Nat.add_mod_right]
      have hk' : k - s < r.flatten.length := by simp at hk; simp; omega
      obtain ⟨i1, i2⟩ := ih (fun x hx => hl x (by simp [hx])) hk'
      rw [e1, e2]
      refine ⟨by simp; omega, ?_⟩
      simp only [List.flatten_cons, List.getElem?_cons_succ]
      rw [List.getElem?_append_right (by omega), hc, i2]

theorem flatten_len {l : List (List Value)} {s : Nat} (hl : ∀ c ∈ l, c.length = s) : l.flatten.length = l.length * s := by
  induction l with
  | nil => simp
  | cons c r ih =>
    have hc : c.length = s := hl c (by simp)
    simp only [List.flatten_cons, List.length_append, hc, ih (fun x hx => hl x (by simp [hx])), List.length_cons]
    rw [Nat.add_mul]; omega

/-- A slice that came in: its elements' cells, and of each what its own reading gives (q). -/
theorem slice_reads {t e : TypeId} {s : Nat} {v : Value} {d : DataW H} {ps : List MemPlace} {a0 : Option Addr} {l0 c0 : Nat} (ht : P.underlying t = some (.slice e)) (hs : P.cellsOf e = s) (hsp : 0 < s)
    (hv : v = .slice a0 l0 c0) (h : DataW.Trod enc P w 0 spare held t v d ps) (q : List Value → Prop)
    (hq : ∀ n cs x, cs.length = s → DataW.trod enc P w 0 spare held n e cs = some x → q cs) :
    ∃ css : List (List Value), (∀ cs ∈ css, cs.length = s ∧ q cs) ∧ Reads w v css.length s css.flatten := by
  subst hv
  obtain ⟨fuel, hf⟩ := h
  rcases Deep.open_slice ht hf with ⟨h1, _⟩ | ⟨a, len, cap, m, n, D, Pl, h1, _, hl, hm, hmm, _, hel⟩
  · simp [Value.cells] at h1
    obtain ⟨rfl, rfl, rfl⟩ := h1
    exact ⟨[], by simp, none, 0, rfl, by simp, by simp, fun _ => rfl, by simp, by simp⟩
  · simp [Value.cells] at h1
    obtain ⟨rfl, rfl, rfl⟩ := h1
    have hlm : l0 ≤ m := by rw [hmm]; split <;> omega
    have hall : ∀ i, i < l0 → ∃ cs : List Value, (cs.length = s ∧ q cs) ∧ ∀ j, j < s → w.cell? ((a.add (i * s)).add j) = cs[j]? := by
      intro i hi
      obtain ⟨cs, hc, htr⟩ := hel i (by omega)
      rw [hs] at hc
      obtain ⟨_, hcl, hcc⟩ := World.cells?_some hc
      exact ⟨cs, ⟨hcl, hq _ _ _ hcl htr⟩, hcc⟩
    have hex : ∃ css : List (List Value), css.length = l0 ∧ ∀ i, i < l0 → ∃ cs, css[i]? = some cs ∧ (cs.length = s ∧ q cs) ∧ ∀ j, j < s → w.cell? ((a.add (i * s)).add j) = cs[j]? := by
      obtain ⟨f, hf⟩ := Deep.choose_lt hall
      refine ⟨(List.range l0).map f, by simp, fun i hi => ⟨f i, by simp [hi], (hf i hi).1, (hf i hi).2⟩⟩
    obtain ⟨css, hlen, hcs⟩ := hex
    have hmem : ∀ cs ∈ css, cs.length = s ∧ q cs := by
      intro cs hc
      obtain ⟨i, hi, rfl⟩ := List.getElem_of_mem hc
      obtain ⟨cs', e1, e2, _⟩ := hcs i (by omega)
      rw [List.getElem?_eq_getElem hi] at e1
      cases e1
      exact e2
    have hfl := flatten_len (fun c hc => (hmem c hc).1)
    refine ⟨css, hmem, some a, c0, by rw [hlen], by omega, hm, by simp, hfl, fun hp => ?_⟩
    have hl0 : 0 < l0 := by
      rcases Nat.eq_zero_or_pos l0 with h | h
      · rw [hfl, hlen, h] at hp; simp at hp
      · exact h
    have hcell : ∀ k u, css.flatten[k]? = some u → w.cell? (a.add k) = some u := by
      intro k u hk
      have hkl : k < css.flatten.length := (List.getElem?_eq_some_iff.1 hk).1
      obtain ⟨b1, b2⟩ := at_bound hsp (fun c hc => (hmem c hc).1) hkl
      obtain ⟨cs', e1, _, e3⟩ := hcs (k / s) (by omega)
      rw [b2, e1] at hk
      have := e3 (k % s) (Nat.mod_lt _ hsp)
      rw [Deep.add_add] at this
      have ek : k / s * s + k % s = k := Nat.div_add_mod' k s
      rw [ek] at this
      rw [this]; exact hk
    obtain ⟨b, off, sp⟩ := a
    have h00 : ∃ u, css.flatten[0]? = some u := ⟨css.flatten[0], List.getElem?_eq_getElem hp⟩
    obtain ⟨u0, hu0⟩ := h00
    have h0 := hcell 0 u0 hu0
    have hspot : sp = none := by simpa [Addr.add] using World.cell?_spot h0
    subst hspot
    refine ⟨b, off, rfl, fun j u hj => ?_⟩
    have := hcell j u hj
    rwa [addr_add] at this

/-- An integer's cell. -/
theorem int_cell {t : TypeId} {k : IntKind} (ht : P.underlying t = some (.int k)) {n : Nat} {cs : List Value} {x} (hl : cs.length = 1) (h : DataW.trod enc P w 0 spare held n t cs = some x) : ∃ z, cs = [.int k z] ∧ (Lit.int k z).wf = true := by
  obtain ⟨z, hz, _, hw⟩ := DataW.trod_int ht h
  exact ⟨z, hz, hw⟩
/-- A struct of one-cell fields: each field's cell. -/
theorem field_cells {t : TypeId} {fs : Array Field} (hs : P.underlying t = some (.struct fs)) (hone : oneCellFields P fs = true) {n : Nat} {cs : List Value} {x} (h : DataW.trod enc P w 0 spare held n t cs = some x) :
    ∀ (i : Nat) (f : Field), fs[i]? = some f → ∃ m y, DataW.trod enc P w 0 spare held m f.type (cs[i]?.toList) = some y := by
  obtain ⟨xs, m, _, _, _, hxl, hf⟩ := DataW.trod_struct hs h
  intro i f hif
  obtain ⟨o0, k0⟩ := hone_of hone i f hif
  have h1 := hf i f hif
  have hi : i < xs.length := by rw [hxl]; exact (Array.getElem?_eq_some_iff.1 hif).1
  rw [List.getElem?_eq_getElem hi, o0, k0] at h1
  have e : (cs.drop i).take 1 = cs[i]?.toList := by
    rw [List.take_one, List.head?_drop]
  rw [e] at h1
  exact ⟨m, _, h1⟩
theorem int_one {t : TypeId} {k : IntKind} (ht : P.underlying t = some (.int k)) {n : Nat} {v : Value} {x} (h : DataW.trod enc P w 0 spare held n t [v] = some x) : ∃ z, v = .int k z ∧ (Lit.int k z).wf = true := by
  obtain ⟨z, hz, _, hw⟩ := DataW.trod_int ht h
  simp at hz
  exact ⟨z, hz, hw⟩
theorem bool_one {t : TypeId} (ht : P.underlying t = some .bool) {n : Nat} {v : Value} {x} (h : DataW.trod enc P w 0 spare held n t [v] = some x) : ∃ b, v = .bool b := by
  obtain ⟨b, hb, _⟩ := DataW.trod_bool ht h
  simp at hb
  exact ⟨b, hb⟩
theorem string_one {t : TypeId} (ht : P.underlying t = some .string) {n : Nat} {v : Value} {x} (h : DataW.trod enc P w 0 spare held n t [v] = some x) : ∃ s : ByteArray, v = .string s ∧ s.size ≤ maxLen := by
  obtain ⟨s, hs, _, hl⟩ := DataW.trod_string ht h
  simp at hs
  exact ⟨s, hs, hl⟩
/-- A slice that is a field: its value is one. -/
theorem slice_one {t e : TypeId} (ht : P.underlying t = some (.slice e)) {n : Nat} {v : Value} {x} (h : DataW.trod enc P w 0 spare held n t [v] = some x) : ∃ ao len cap, v = .slice ao len cap := by
  rcases Deep.open_slice ht h with ⟨h1, _⟩ | ⟨a, len, cap, _, _, _, _, h1, _⟩
  · simp at h1; exact ⟨_, _, _, h1⟩
  · simp at h1; exact ⟨_, _, _, h1⟩
/-- Rows of records out of a slice's elements. -/
theorem flat_recs {α : Type} (f : α → List Value) {s : Nat} {css : List (List Value)} (h : ∀ cs ∈ css, cs.length = s ∧ ∃ y, cs = f y) : ∃ l : List α, l.length = css.length ∧ css.flatten = l.flatMap f := by
  induction css with
  | nil => exact ⟨[], rfl, rfl⟩
  | cons c r ih =>
    obtain ⟨l, hl, e⟩ := ih (fun x hx => h x (by simp [hx]))
    obtain ⟨_, y, rfl⟩ := h c (by simp)
    exact ⟨y :: l, by simp [hl], by simp [e]⟩
end
end Go.Trav
