/- spec.Letters: the letters of a text. -/
import Derived.Test.YtanimdajohpggaaDoorUtf1
import Derived.Laws.IdiomStrings
namespace Go.Proofs.YtanimdajohpggaaDoor.Utf0
open Go.ChangeShapes Go.WideShapes Go.ChangeAt Go.RowKit Go.Trav Go.Utf
set_option linter.unusedVariables false
set_option maxRecDepth 100000
theorem Tryd.info3 : (Tryd.prog.info? 3).map (fun i => (i.zero, i.size, i.bytes)) = some (some (.int .i64 0), 1, 8) := by kernel_rfl
def iV (x : Int) : Value := .int .i64 x
/-- The bytes of a string. -/
def bytesL (s : ByteArray) : List Int := s.data.toList.map fun b => (b.toNat : Int)
/-- l is the text of the letters qs. -/
def IsText (l qs : List Int) : Prop := (∀ q ∈ qs, Let q) ∧ l = qs.flatMap ubytes
theorem begins_one {l : List Int} {a b : Int} (ha : Let a) (hb : Let b) (h1 : ubytes a <+: l) (h2 : ubytes b <+: l) : a = b := by
  obtain ⟨c, e1, e2, _, e3, _⟩ := begins_acc ha h1
  obtain ⟨c', f1, f2, _, f3, _⟩ := begins_acc hb h2
  obtain rfl : c = c' := Option.some.inj (e1.symm.trans f1)
  rw [← e3, ← f3, ← e2, ← f2]
theorem text_rest {qs qs' rest : List Int} (h : ∀ q ∈ qs, Let q) (h' : ∀ q ∈ qs', Let q) (e : qs.flatMap ubytes ++ rest = qs'.flatMap ubytes) : ∃ t, qs' = qs ++ t ∧ rest = t.flatMap ubytes := by
  induction qs generalizing qs' with
  | nil => exact ⟨qs', rfl, by simpa using e⟩
  | cons a r ih =>
    cases qs' with
    | nil =>
      have h1 := congrArg List.length e
      simp [wid_len] at h1
      have := wid_pos a
      omega
    | cons b s =>
      rw [List.flatMap_cons, List.flatMap_cons, List.append_assoc] at e
      have hab : a = b := begins_one (l := ubytes a ++ (r.flatMap ubytes ++ rest)) (h a (by simp)) (h' b (by simp)) ⟨_, rfl⟩ ⟨_, e.symm⟩
      subst hab
      obtain ⟨t, e1, e2⟩ := ih (fun q hq => h q (by simp [hq])) (fun q hq => h' q (by simp [hq])) (List.append_cancel_left e)
      exact ⟨t, by rw [e1]; rfl, e2⟩
theorem no_text {l qs rest : List Int} (hq : ∀ q ∈ qs, Let q) (e : l = qs.flatMap ubytes ++ rest) (hr : rest ≠ []) (hb : ∀ x, Let x → ¬ ubytes x <+: rest) : ∀ qs', ¬ IsText l qs' := by
  rintro qs' ⟨h1, h2⟩
  obtain ⟨t, rfl, e2⟩ := text_rest hq h1 (e.symm.trans h2)
  cases t with
  | nil => exact hr (by simpa using e2)
  | cons a s => exact hb a (h1 a (by simp)) ⟨s.flatMap ubytes, by rw [e2]; rfl⟩
/-- A text has one list of letters. -/
theorem text_one {l a b : List Int} (ha : IsText l a) (hb : IsText l b) : a = b := by
  obtain ⟨t, e1, e2⟩ := text_rest (rest := []) ha.1 hb.1 (by rw [List.append_nil, ← ha.2, ← hb.2])
  cases t with
  | nil => rw [e1, List.append_nil]
  | cons x s =>
    have h1 := congrArg List.length e2
    simp [wid_len] at h1
    have := wid_pos x
    omega
theorem len_text (qs : List Int) : qs.length ≤ (qs.flatMap ubytes).length := by
  induction qs with
  | nil => simp
  | cons a r ih =>
    have := wid_pos a
    rw [List.flatMap_cons, List.length_append, wid_len, List.length_cons]
    omega
/-- What stands behind the first k elements. -/
theorem Reads.from {w : World} {b off n cap k : Nat} {xs : List Value} (h : Reads w (.slice (some ⟨b, off, none⟩) n cap) n 1 xs) (hk : k ≤ n) : Reads w (.slice (some ⟨b, off + k, none⟩) (n - k) (cap - k)) (n - k) 1 (xs.drop k) := by
  obtain ⟨ao, cap', e, h1, h2, h3, h4, h5⟩ := h
  cases e
  refine ⟨_, _, rfl, by omega, by omega, fun h => by simp at h, by rw [List.length_drop]; omega, fun hp => ⟨b, off + k, rfl, fun j u hj => ?_⟩⟩
  rw [List.length_drop] at hp
  obtain ⟨b', off', e, hc⟩ := h5 (by omega)
  cases e
  rw [List.getElem?_drop] at hj
  have := hc (k + j) u hj
  rwa [← Nat.add_assoc] at this
theorem reads_bytes (w : World) (s : ByteArray) (cap : Nat) (e : TypeId) (fr : Nat × Nat) (hs : s.size ≤ cap) (hc : cap ≤ maxLen) : Reads (w.alloc (.cells (bytesRow s cap) e fr)) (.slice (some ⟨w.heap.size, 0, none⟩) s.size cap) s.size 1 ((bytesL s).map bI) := by
  refine ⟨some ⟨w.heap.size, 0, none⟩, cap, rfl, hs, hc, (by intro h; cases h), by rw [List.length_map, bytesL, List.length_map, Array.length_toList, Nat.mul_one]; rfl, fun hp => ⟨_, 0, rfl, fun j u hj => ?_⟩⟩
  rw [Nat.zero_add]
  refine block_cell (heap_alloc_new _ _) ?_
  unfold bytesRow
  have hj2 : j < s.data.size := by have := (List.getElem?_eq_some_iff.1 hj).1; simpa [bytesL] using this
  rw [Array.getElem?_append_left (by simpa using hj2)]
  simp [bytesL, bI] at hj
  obtain ⟨y, hy, rfl⟩ := hj
  simp [hy]
/-- What spec.Letters answers. -/
def LettersOut (w' : World) (l : List Int) (e : Ending) : Prop :=
  (∃ ov qs, e = .returned (.tuple #[ov, .bool true]) ∧ Reads w' ov qs.length 1 (qs.map iV) ∧ IsText l qs) ∨ (e = .returned (.tuple #[.slice none 0 0, .bool false]) ∧ ∀ qs, ¬ IsText l qs)
set_option maxHeartbeats 4000000 in
theorem letters_any (s : ByteArray) (w : World) (hs : s.size ≤ 2147483647) :
    Calls Tryd.prog 28 #[.string s] w fun e w' => LettersOut w' (bytesL s) e ∧ Below w.heap.size w w' := by
  have kc := fun (w : World) => run_bytes_of_string (P := Tryd.prog) w 9 24 5 s Tryd.underlying9 Tryd.underlying24 Tryd.underlying5
  have hB : ∀ x ∈ bytesL s, 0 ≤ x ∧ x ≤ 255 := fun x hx => by
    unfold bytesL at hx
    obtain ⟨y, _, rfl⟩ := List.mem_map.1 hx
    have := y.toNat_lt
    omega
  have hBL : (bytesL s).length = s.size := by unfold bytesL; rw [List.length_map, Array.length_toList]; rfl
  have HB := Lib.hid hB
  have HBL := Lib.hid hBL
  clear hB hBL
  go_enter Tryd.func28, Tryd.ntmps28
  go_wp2_with fail
  have hc1 := grownCap_ge w s.size 0 5
  have hc2 := grownCap_le_maxLen w s.size 0 5 (by unfold maxLen; omega)
  have hR0 := reads_bytes w s (grownCap w s.size 0 5) 5 ((bytesRow s (grownCap w s.size 0 5)).size, (bytesRow s (grownCap w s.size 0 5)).size + 1) hc1 hc2
  have hb0 : Below w.heap.size w (w.alloc (.cells (bytesRow s (grownCap w s.size 0 5)) 5 ((bytesRow s (grownCap w s.size 0 5)).size, (bytesRow s (grownCap w s.size 0 5)).size + 1))).drew := ((Below.refl _ _).alloc (Nat.le_refl _) _).drew
  have hR1 := hR0.drewN 1
  rw [show ∀ x : World, x.drewN 1 = x.drew from fun _ => rfl] at hR1
  clear kc hR0 hc1 hc2
  generalize grownCap w s.size 0 5 = cap at *
  generalize hw1 : (w.alloc (.cells (bytesRow s cap) 5 ((bytesRow s cap).size, (bytesRow s cap).size + 1))).drew = w1 at *
  have hsz : w.heap.size ≤ w1.heap.size := hb0.size
  clear hw1
  have HR1 := Lib.hid hR1
  clear hR1
  go_loopw [4, 5] (fun bv ov wr => ∃ (B O : Value) (qs rest : List Int), B = bv ∧ O = ov ∧ qs.length ≤ s.size ∧ Hid (Reads w1 B rest.length 1 (rest.map bI)) ∧ Hid (∃ b off n c, B = .slice (some ⟨b, off, none⟩) n c) ∧ Hid (bytesL s = qs.flatMap ubytes ++ rest) ∧ Hid (∀ q ∈ qs, Let q) ∧ Hid (wr.ownsRow w1.heap.size 3 1 O qs.length (qs.map iV)) ∧ Below w1.heap.size w1 wr) (fun bv _ _ => match bv with | .slice _ n _ => n | _ => 0)
  case atStart => exact ⟨_, _, [], bytesL s, rfl, rfl, Nat.zero_le _, Lib.hid (by rw [HBL.out]; exact HR1.out), Lib.hid ⟨_, _, _, _, rfl⟩, Lib.hid (by simp), Lib.hid (by simp), Lib.hid (World.ownsRow_nil _ _ _ _), Below.refl _ _⟩
  case round =>
    obtain ⟨B, O, qs, rest, e1, e2, hq, HRB, HFB, HE, HQ, HO, hb⟩ := hrel
    subst e1 e2
    rename World => wr
    obtain ⟨b, off, n, c, rfl⟩ := HFB.out
    have hbw : Below w.heap.size w wr := hb0.trans (hb.mono hsz)
    have hnr : n = rest.length := by obtain ⟨_, _, e, _⟩ := HRB.out; cases e; rfl
    have hnc : n ≤ c := by obtain ⟨_, _, e, h1, _⟩ := HRB.out; cases e; exact h1
    have hbd := HRB.out.bound
    rw [← hnr] at hbd
    have HNR := Lib.hid hnr
    clear hnr
    rcases Nat.eq_zero_or_pos n with hn | hn
    · subst hn
      go_wp2_with fail
      go_ret2
      have hr : rest = [] := List.eq_nil_of_length_eq_zero HNR.out.symm
      exact ⟨Or.inl ⟨_, qs, rfl, reads_of_owns HO.out, HQ.out, by rw [HE.out, hr, List.append_nil]⟩, hbw⟩
    · have HL := Lib.hid (letter_any _ rest.length rest wr (HRB.out.below hb) (fun x hx => HB.out x (by rw [HE.out]; exact List.mem_append_right _ hx)))
      go_wp2_with fail
      refine HL.out.mono ?_
      rintro e w2 ⟨r, k, rfl, hbg, hb2⟩
      have HBG := Lib.hid hbg
      clear hbg HL
      have hbw2 : Below w.heap.size w w2 := hbw.trans (hb2.mono hbw.size)
      have hb12 : Below w1.heap.size w1 w2 := hb.trans (hb2.mono hb.size)
      by_cases hk : k = 0
      · subst hk
        go_wp2_with fail
        go_ret2
        refine ⟨Or.inr ⟨rfl, no_text HQ.out HE.out (fun e => by have := HNR.out; rw [e] at this; simp at this; omega) ?_⟩, hbw2⟩
        rcases HBG.out with ⟨_, _, h1⟩ | ⟨h1, h2, _⟩
        · exact h1
        · have := wid_pos r
          omega
      · have hq1 : ((k : Int) == 0) = false := beq_eq_false_iff_ne.2 (by omega)
        have hbg : Let r ∧ k = wid r ∧ ubytes r <+: rest := by
          rcases HBG.out with ⟨h1, _, _⟩ | h1
          · exact absurd h1 hk
          · exact h1
        obtain ⟨hr1, hr2, t, ht⟩ := hbg
        have hrl : rest.length = k + t.length := by rw [← ht, List.length_append, wid_len, hr2]
        have HO2 : Hid (w2.ownsRow w1.heap.size 3 1 O qs.length (qs.map iV)) := Lib.hid (ownsRow_below HO.out hb2 fun g hg => (HO.out.lt g hg).2)
        have HT := Lib.hid ht
        have HR := Lib.hid hr1
        have HRL := Lib.hid hrl
        have HK := Lib.hid hr2
        have hq9 : qs.length + k ≤ s.size := by
          have h1 := HBL.out
          rw [HE.out, List.length_append, hrl] at h1
          have h2 := len_text qs
          omega
        clear hr1 hr2 ht hrl
        have hkn : k ≤ n := by have := HNR.out; have := HRL.out; omega
        have hI1 : (0 : Int) ≤ (k : Int) := by omega
        have hI2 : (k : Int) ≤ (n : Int) := by omega
        have hI3 : (k : Int) ≤ (c : Int) := by omega
        have hs12 : w1.heap.size ≤ w2.heap.size := hb12.size
        have hnext : ∀ (w5 : World) (ao5 : Option Addr) (cap5 : Nat), (w5.ownsRow w1.heap.size 3 1 (.slice ao5 (qs.length + 1) cap5) (qs.length + 1) (qs.map iV ++ #[iV r].toList)) → Hid (w5.ownsRow w1.heap.size 3 1 (.slice ao5 (qs.length + 1) cap5) (qs ++ [r]).length ((qs ++ [r]).map iV)) := fun w5 ao5 cap5 h => Lib.hid (by simpa using h)
        have HNX := Lib.hid hnext
        have HE2 : Hid (bytesL s = (qs ++ [r]).flatMap ubytes ++ t) := Lib.hid (by rw [HE.out, ← HT.out]; simp)
        have HQ2 : Hid (∀ q ∈ qs ++ [r], Let q) := Lib.hid (fun q hq => by
          rcases List.mem_append.1 hq with h | h
          · exact HQ.out q h
          · rw [List.mem_singleton.1 h]; exact HR.out)
        have HR2 : Hid (n - k = t.length ∧ (rest.map bI).drop k = t.map bI) := Lib.hid ⟨by rw [HNR.out, HRL.out]; omega, by rw [← List.map_drop, ← HT.out, List.drop_left' (by rw [wid_len]; exact HK.out.symm)]⟩
        clear hnext
        by_cases hck : c = k
        · obtain rfl : n = k := by omega
          subst hck
          have ht0 : t = [] := List.eq_nil_of_length_eq_zero (by have := HR2.out.1; omega)
          subst ht0
          have HS : Hid (∀ o : Nat, Reads w1 (.slice (some ⟨b, o, none⟩) 0 0) 0 1 ([].map bI)) := Lib.hid (fun o => ⟨some ⟨b, o, none⟩, 0, rfl, Nat.le_refl _, Nat.zero_le _, (fun h => by cases h), rfl, fun h => by simp at h⟩)
          go_wp2_with (at_builtin; refine wpList_append_one rfl (.tmp 20) (.tmp 22) 46 rfl w1.heap.size 3 _ 1 8 Tryd.underlying46 Tryd.info3 rfl (by decide) (by decide) _ _ _ rfl HO2.out #[iV r] _ _ rfl (by simp) rfl (by simp [Value.oneCell', iV]) (by omega) hs12 ?_; intro ao5 cap5 w5 hown5 hgr5 hat5; have HX := HNX.out _ _ _ hown5; have hbl5 := below_own hb12 HO2.out _ hgr5 hs12; clear hown5 hgr5 hat5)
          go_roundw
          case rel => exact ⟨_, _, qs ++ [r], [], rfl, rfl, by simp; omega, Lib.hid (HS.out _), Lib.hid ⟨_, _, _, _, rfl⟩, HE2, HQ2, HX, hbl5⟩
          case measure => simp; omega
        · have HS : Hid (Reads w1 (.slice (some ⟨b, off + k, none⟩) (n - k) (c - k)) t.length 1 (t.map bI)) := Lib.hid (by
            have h1 := HRB.out
            rw [← HNR.out] at h1
            have h2 := Reads.from h1 hkn
            rw [HR2.out.2] at h2
            rw [← HR2.out.1]
            exact h2)
          go_wp2_with (at_builtin; refine wpList_append_one rfl (.tmp 20) (.tmp 22) 46 rfl w1.heap.size 3 _ 1 8 Tryd.underlying46 Tryd.info3 rfl (by decide) (by decide) _ _ _ rfl HO2.out #[iV r] _ _ rfl (by simp) rfl (by simp [Value.oneCell', iV]) (by omega) hs12 ?_; intro ao5 cap5 w5 hown5 hgr5 hat5; have HX := HNX.out _ _ _ hown5; have hbl5 := below_own hb12 HO2.out _ hgr5 hs12; clear hown5 hgr5 hat5)
          go_roundw
          case rel => exact ⟨_, _, qs ++ [r], t, rfl, rfl, by simp; omega, HS, Lib.hid ⟨_, _, _, _, rfl⟩, HE2, HQ2, HX, hbl5⟩
          case measure => simp; omega
end Go.Proofs.YtanimdajohpggaaDoor.Utf0
