/- spec.Rune: the letter at the beginning of a text. (and what follows) (and what follows) -/
import Derived.Test.YtnpchkohfomagaaDoorRgMx
import Derived.Test.YtnpchkohfomagaaDoorRgY1
import Derived.Test.YtnpchkohfomagaaDoorRgHb
import Derived.Test.YtnpchkohfomagaaDoorRgH2
import Derived.Deep.DeepCutAuto
import Derived.Deep.QuietTactic
import Derived.BigQuiet
import Derived.Test.YtnpchkohfomagaaDoorRgPa
import Derived.Test.YtnpchkohfomagaaDoorRgX4
import Derived.Test.YtnpchkohfomagaaDoorRgJa
import Derived.Test.YtnpchkohfomagaaDoorLib
import Derived.Test.YtnpchkohfomagaaDoorFLib
import Derived.Test.YtnpchkohfomagaaDoorSeq1
import Derived.Test.YtnpchkohfomagaaDoorRgW6
import Derived.ArgAppend
import Derived.Deep.CutBlock
import Derived.Deep.Slices
/-! spec.Rune: the letter at the beginning of a text. (and what follows) -/
/-! spec.Rune: the letter at the beginning of a text. -/
namespace Go.Proofs.YtnpchkohfomagaaDoor.Rgm
open Go.ChangeShapes Go.WideShapes Go.ChangeAt Go.RowKit Go.Trav Go.Rg Go.Utf Go.Proofs.YtnpchkohfomagaaDoor.Rgw Go.Proofs.YtnpchkohfomagaaDoor.Rgy Go.Proofs.YtnpchkohfomagaaDoor.Utf0
set_option linter.unusedVariables false
set_option linter.unusedSimpArgs false
set_option maxRecDepth 100000
theorem wideP_long (b : Nat) (hb : b < 256) : (wideP (b : Int)).1 = longN b := by
  unfold wideP longN
  by_cases h1 : b < 128
  · rw [if_pos (by omega), if_pos h1]
  rw [if_neg (by omega), if_neg h1]
  by_cases h2 : 194 ≤ b ∧ b < 224
  · rw [if_pos (by omega), if_pos h2]
  rw [if_neg (by omega), if_neg h2]
  by_cases h3 : 224 ≤ b ∧ b < 240
  · rw [if_pos (by omega), if_pos h3]
  rw [if_neg (by omega), if_neg h3]
  by_cases h4 : 240 ≤ b ∧ b < 245
  · rw [if_pos (by omega), if_pos h4]
  · rw [if_neg (by omega), if_neg h4]
/-- What the first byte says, for letters of more than one byte. -/
theorem first_of (b n : Nat) (hb : b < 256) (hn : longN b = n) (h2 : 2 ≤ n) : ∃ (r : Nat) (mk ls : Int), (wideP (b : Int)).2 = (r : Int) ∧ ([.int .u8 0, .int .u8 127, .int .u8 31, .int .u8 15, .int .u8 7] : List Value)[n]? = some (.int .u8 mk) ∧ ([.int .i32 0, .int .i32 0, .int .i32 128, .int .i32 2048, .int .i32 65536] : List Value)[n]? = some (.int .i32 ls) ∧
    bits BinOp.and IntKind.u8 (b : Int) mk = (r : Int) ∧ (r + 1) * 64 ^ (n - 2) ≤ 20480 ∧ n ≤ 4 ∧ (n = 2 → r ≤ 31) ∧ (n = 3 → r ≤ 15) ∧ (∀ x : Int, Let x → (wid x = n ↔ ls ≤ x ∧ (n = 2 → x ≤ 2047) ∧ (n = 3 → x ≤ 65535))) := by
  unfold longN at hn
  unfold wideP
  split at hn
  · omega
  rename_i h1
  rw [if_neg (by omega)]
  split at hn
  · rename_i h3
    subst hn
    rw [if_pos (by omega)]
    refine ⟨b - 192, 31, 128, by simp only; omega, rfl, rfl, ?_, by omega, by omega, by omega, by omega, fun x hx => ?_⟩
    · have := and31 ⟨b, hb⟩; simp only at this; rw [this]; congr 1; omega
    · unfold wid; have := hx.1; have := hx.2.1
      split
      · omega
      · split
        · omega
        · split <;> omega
  rename_i h3
  rw [if_neg (by omega)]
  split at hn
  · rename_i h4
    subst hn
    rw [if_pos (by omega)]
    refine ⟨b - 224, 15, 2048, by simp only; omega, rfl, rfl, ?_, by omega, by omega, by omega, by omega, fun x hx => ?_⟩
    · have := and15 ⟨b, hb⟩; simp only at this; rw [this]; congr 1; omega
    · unfold wid; have := hx.1; have := hx.2.1
      split
      · omega
      · split
        · omega
        · split <;> omega
  rename_i h4
  rw [if_neg (by omega)]
  split at hn
  · rename_i h5
    subst hn
    rw [if_pos (by omega)]
    refine ⟨b - 240, 7, 65536, by simp only; omega, rfl, rfl, ?_, by omega, by omega, by omega, by omega, fun x hx => ?_⟩
    · have := and7 ⟨b, hb⟩; simp only at this; rw [this]; congr 1; omega
    · unfold wid; have := hx.1; have := hx.2.1
      split
      · omega
      · split
        · omega
        · split <;> omega
  · omega
theorem acc_congr {l l' : List Int} {r : Int} : ∀ k, (∀ j, 1 ≤ j → j ≤ k → l[j]? = l'[j]?) → acc l r k = acc l' r k
  | 0, _ => rfl
  | k + 1, h => by
    show 64 * acc l r k + l[k + 1]?.getD 0 - 128 = 64 * acc l' r k + l'[k + 1]?.getD 0 - 128
    rw [acc_congr k fun j a b => h j a (by omega), h (k + 1) (by omega) (Nat.le_refl _)]
theorem sI_take (s : ByteArray) (n : Nat) (hn : n ≤ s.size) (j : Nat) (hj : j < n) (s' : ByteArray) (hs' : s'.size = n) (hg : ∀ (i : Nat) (h : i < n), s'[i]'(by omega) = s[i]'(by omega)) : (sI s')[j]? = (sI s)[j]? := by
  rw [sI_get s' j (by omega), sI_get s j (by omega), hg j hj]
/-- Good bytes are a letter's, if their number is one. -/
theorem good_begins {s s' : ByteArray} {b n r : Nat} {ls : Int} (hb : b < 256) (h0 : (sI s)[0]? = some (b : Int)) (hlong : longN b = n) (hn2 : 2 ≤ n) (hns : n ≤ s.size) (hr : (wideP (b : Int)).2 = (r : Int)) (hn4 : n ≤ 4) (hrb : (r + 1) * 64 ^ (n - 2) ≤ 20480) (hr2 : n = 2 → r ≤ 31) (hr3 : n = 3 → r ≤ 15)
    (hw : ∀ x : Int, Let x → (wid x = n ↔ ls ≤ x ∧ (n = 2 → x ≤ 2047) ∧ (n = 3 → x ≤ 65535))) (heq : ∀ j, j < n → (sI s')[j]? = (sI s)[j]?) :
    (GoodR (sI s') r n ls → Let (acc (sI s') r (n - 1)) → Begins (sI s) (acc (sI s') r (n - 1)) n) ∧
    ((¬ GoodR (sI s') r n ls ∨ ¬ Let (acc (sI s') r (n - 1))) → Begins (sI s) 0 0) := by
  have e1 : acc (sI s') (r : Int) (n - 1) = acc (sI s) (r : Int) (n - 1) := acc_congr _ fun j a b => heq j (by omega)
  have hw1 : (wideP (b : Int)).1 = n := by rw [wideP_long b hb, hlong]
  have ht : Tails (sI s') n ↔ Tails (sI s) n := by
    unfold Tails
    exact ⟨fun h j a b => by rw [← heq j b]; exact h j a b, fun h j a b => by rw [heq j b]; exact h j a b⟩
  refine ⟨fun hg hl => Or.inr ⟨hl, ?_, ?_⟩, fun hor => Or.inl ⟨rfl, rfl, fun x hx hpre => ?_⟩⟩
  · obtain ⟨g1, g2, g3⟩ := hg
    obtain ⟨v, hv1, hv2⟩ := acc_bd (l := sI s') (r := r) (n - 1) (by rw [show n - 1 + 1 = n by omega]; exact g1)
    refine (((hw _ hl).2 ⟨g2, fun h => ?_, fun h => ?_⟩)).symm
    · subst h; have := hr2; have := hr3; simp at hrb hv2; omega
    · subst h; have := hr2; have := hr3; simp at hrb hv2; omega
  · obtain ⟨g1, g2, g3⟩ := hg
    obtain ⟨v, hv1, hv2⟩ := acc_bd (l := sI s') (r := r) (n - 1) (by rw [show n - 1 + 1 = n by omega]; exact g1)
    have hwid : wid (acc (sI s') (r : Int) (n - 1)) = n := (hw _ hl).2 ⟨g2, fun h => by subst h; simp at hrb hv2; omega, fun h => by subst h; simp at hrb hv2; omega⟩
    refine acc_begins h0 (by omega) (by rw [hw1, sI_len]; exact hns) (by rw [hw1, hr]; exact e1) (by rw [hw1]; exact hwid) fun j a b => ?_
    rw [hw1] at b
    exact ht.1 g1 j a b
  · obtain ⟨c, hc, k1, k2, k3, k4⟩ := begins_acc hx hpre
    rw [h0] at hc
    obtain rfl : (b : Int) = c := by simpa using hc
    rw [hw1] at k1
    rw [← k1, hr] at k3
    rw [e1, k3] at hor
    rcases hor with h | h
    · refine h ⟨ht.2 fun j a b => k4 j a (by omega), ?_, ?_⟩
      · rw [e1, k3]; exact ((hw x hx).1 k1.symm).1
      · rw [e1, k3]; exact hx.2.1
    · exact h hx
theorem no_begins {s : ByteArray} {b : Nat} (hb : b < 256) (h0 : (sI s)[0]? = some (b : Int)) (h : longN b = 0 ∨ s.size < longN b) : Begins (sI s) 0 0 := by
  refine Or.inl ⟨rfl, rfl, fun x hx hpre => ?_⟩
  obtain ⟨c, hc, k1, k2, k3, k4⟩ := begins_acc hx hpre
  rw [h0] at hc
  obtain rfl : (b : Int) = c := by simpa using hc
  rw [wideP_long b hb] at k1
  rw [sI_len] at k2
  have : 1 ≤ wid x := by unfold wid; split <;> (try split) <;> (try split) <;> omega
  omega
theorem none_begins (s : ByteArray) : Begins (sI s) 0 0 ∨ 0 < (sI s).length := by
  by_cases h : 0 < (sI s).length
  · exact .inr h
  · refine .inl (Or.inl ⟨rfl, rfl, fun x hx hpre => ?_⟩)
    obtain ⟨c, hc, _⟩ := begins_acc hx hpre
    have := (List.getElem?_eq_some_iff.1 hc).1
    omega
theorem one_begins {s : ByteArray} {b : Nat} (h0 : (sI s)[0]? = some (b : Int)) (h : b < 128) (hs : 0 < s.size) : Begins (sI s) (b : Int) 1 := by
  have hl : Let (b : Int) := ⟨by omega, by omega, by omega⟩
  have hw : wid (b : Int) = 1 := by unfold wid; rw [if_pos (by omega)]
  have hp : wideP (b : Int) = (1, (b : Int)) := by unfold wideP; rw [if_pos (by omega)]
  exact Or.inr ⟨hl, hw.symm, acc_begins h0 (by omega) (by rw [hp, sI_len]; exact hs) (by rw [hp]; rfl) (by rw [hp, hw]) fun j a b => by rw [hp] at b; simp at b; omega⟩
theorem loop_len (s : ByteArray) (i : Nat) (r : List UInt8) : r.length ≤ (ByteArray.toList.loop s i r).length := by
  unfold ByteArray.toList.loop
  split
  · refine Nat.le_trans ?_ (loop_len s (i + 1) _)
    simp
  · simp
termination_by s.size - i
theorem toList_ne (s : ByteArray) (h : 0 < s.size) : s.toList.isEmpty = false := by
  unfold ByteArray.toList ByteArray.toList.loop
  rw [if_pos h]
  have := loop_len s 1 [s.get! 0]
  cases hq : ByteArray.toList.loop s (0 + 1) [s.get! 0] with
  | nil => rw [hq] at this; simp at this
  | cons => rfl
/-- The letter at the beginning of a text. -/
def RuneP (s : ByteArray) (e : Ending) : Prop := ∃ (r : Int) (k : Nat), e = .returned (.tuple #[.int .i32 r, .int .i64 (k : Int)]) ∧ Begins (sI s) r k
set_option maxHeartbeats 4000000 in
theorem rune_any (s : ByteArray) (w : World) (hs : s.size ≤ 100) : Calls Tryd.prog 46 #[.string s] w fun e w' => Below w.heap.size w w' ∧ RuneP s e := by
  by_cases hz : s.size = 0
  · have hse : s = ⟨#[]⟩ := by
      apply ByteArray.ext
      apply Array.eq_empty_of_size_eq_zero
      exact hz
    subst hse
    go_enter Tryd.func46, Tryd.ntmps46
    go_wp2_with fail
    refine bodyPost_ret (v := .tuple #[.int .i32 0, .int .i64 0]) (by simp [results, Tryd.results46, go_sem]) rfl ?_
    exact ⟨Below.refl _ _, 0, 0, rfl, Or.resolve_right (none_begins _) (by simp [sI])⟩
  obtain ⟨b, hb⟩ : ∃ b, b = (s[0]'(by omega)).toNat := ⟨_, rfl⟩
  have hb256 : b < 256 := by rw [hb]; exact UInt8.toNat_lt _
  have h0 : (sI s)[0]? = some (b : Int) := by rw [sI_get s 0 (by omega), hb]
  have hl := fun W => long_any b hb256 W
  obtain ⟨n, hn⟩ : ∃ n, n = longN b := ⟨_, rfl⟩
  rw [← hn] at hl
  have HN := Lib.hid hn
  clear hn
  have HL := Lib.hid hl
  have H0 := Lib.hid h0
  have HB := Lib.hid hb256
  have hs0 : 0 < s.size := by omega
  have hse : s.toList.isEmpty = false := toList_ne s hs0
  clear hl h0 hb256
  rw [eq_comm] at hb
  go_enter Tryd.func46, Tryd.ntmps46
  go_wp2_with fail
  refine (HL.out _).mono ?_
  rintro e w1 ⟨rfl, rfl⟩
  clear HL
  by_cases hn0 : n = 0
  · subst hn0
    go_wp2_with fail
    refine bodyPost_ret (v := .tuple #[.int .i32 0, .int .i64 0]) (by simp [results, Tryd.results46, go_sem]) rfl ?_
    exact ⟨Below.refl _ _, 0, 0, rfl, no_begins HB.out H0.out (.inl HN.out.symm)⟩
  have q0 : ((n : Int) == 0) = false := by simp; omega
  by_cases hlt : s.size < n
  · go_wp2_with fail
    refine bodyPost_ret (v := .tuple #[.int .i32 0, .int .i64 0]) (by simp [results, Tryd.results46, go_sem]) rfl ?_
    exact ⟨Below.refl _ _, 0, 0, rfl, no_begins HB.out H0.out (.inr (by rw [← HN.out]; exact hlt))⟩
  have hle : n ≤ s.size := by omega
  have i0 : (0 : Int) ≤ (n : Int) := by omega
  have i1 : (n : Int) ≤ (s.size : Int) := by omega
  have hnl : n ≤ 4 := by rw [HN.out]; unfold longN; split <;> (try split) <;> (try split) <;> (try split) <;> omega
  go_wp2_with fail
  obtain ⟨s', hs'⟩ : ∃ s', s' = s.extract 0 n := ⟨_, rfl⟩
  have hsz : s'.size = n := by rw [hs', ByteArray.size_extract]; omega
  have hg : ∀ (i : Nat) (h : i < n), s'[i]'(by omega) = s[i]'(by omega) := fun i h => by
    subst hs'
    rw [ByteArray.getElem_extract]
    congr 1
    omega
  have heq : ∀ j, j < n → (sI s')[j]? = (sI s)[j]? := fun j hj => sI_take s n hle j hj s' hsz hg
  have hb0 : (s'[0]'(by omega)).toNat = b := by rw [hg 0 (by omega)]; exact hb
  rw [← hs']
  by_cases hn1 : n = 1
  · subst hn1
    have hb128 : b < 128 := by
      have h := HN.out
      unfold longN at h
      split at h
      · assumption
      · split at h
        · cases h
        · split at h
          · cases h
          · split at h <;> cases h
    refine (runes_one s' _ hsz b hb128 hb0).mono ?_
    rintro e w2 ⟨rfl, hb2⟩
    have q3 : LetB (b : Int) = true := (letB_iff _).2 ⟨by omega, by omega, by omega⟩
    have hv := fun W => valid_any (b : Int) W
    rw [q3] at hv
    have HV := Lib.hid hv
    have HB2 := Lib.hid hb2
    have H1 := Lib.hid (one_begins H0.out hb128 hs0)
    clear q3 hv hb2 hb128 hb0 heq hg hs'
    go_wp2_with fail
    refine (HV.out _).mono ?_
    rintro e w3 ⟨rfl, hb3⟩
    have HB3 := Lib.hid (HB2.out.trans (hb3.mono HB2.out.size))
    clear hb3
    go_wp2_with fail
    refine bodyPost_ret (v := .tuple #[.int .i32 (b : Int), .int .i64 1]) (by simp [results, Tryd.results46, go_sem]) rfl ?_
    exact ⟨HB3.out, _, 1, rfl, H1.out⟩
  obtain ⟨r, mk, ls, k1, k2, k3, k4, k5, k6, k7, k8, k9⟩ := first_of b n HB.out HN.out.symm (by omega)
  have hgb := good_begins HB.out H0.out HN.out.symm (by omega) hle k1 k6 k5 k7 k8 k9 heq
  refine (runes_full n (by omega) k6 s' _ hsz b r mk ls HB.out hb0 HN.out.symm k2 k3 k4 k5).mono ?_
  rintro e w2 ⟨hb2, hr⟩
  have HB2 := Lib.hid hb2
  clear hb2 k1 k2 k3 k4 k5 k6 k7 k8 k9 hb0 heq hg hs' hsz
  rcases hr with ⟨hg, rfl⟩ | ⟨hg, lo, hi, rfl⟩
  · obtain ⟨x, hx⟩ : ∃ x, x = acc (sI s') (r : Int) (n - 1) := ⟨_, rfl⟩
    rw [← hx] at hgb ⊢
    have HX := Lib.hid hx
    by_cases hlet : Let x
    · have q3 : LetB x = true := (letB_iff _).2 hlet
      have hv := fun W => valid_any x W
      rw [q3] at hv
      have HV := Lib.hid hv
      have H1 := Lib.hid (hgb.1 hg hlet)
      clear q3 hv hgb hg hlet hx
      go_wp2_with fail
      refine (HV.out _).mono ?_
      rintro e w3 ⟨rfl, hb3⟩
      have HB3 := Lib.hid (HB2.out.trans (hb3.mono HB2.out.size))
      clear hb3
      go_wp2_with fail
      refine bodyPost_ret (v := .tuple #[.int .i32 x, .int .i64 (n : Int)]) (by simp [results, Tryd.results46, go_sem]) rfl ?_
      exact ⟨HB3.out, _, n, rfl, H1.out⟩
    · have q3 : LetB x = false := Bool.eq_false_iff.2 fun h => hlet ((letB_iff _).1 h)
      have hv := fun W => valid_any x W
      rw [q3] at hv
      have HV := Lib.hid hv
      have H1 := Lib.hid (hgb.2 (.inr hlet))
      clear q3 hv hgb hg hlet hx
      go_wp2_with fail
      refine (HV.out _).mono ?_
      rintro e w3 ⟨rfl, hb3⟩
      have HB3 := Lib.hid (HB2.out.trans (hb3.mono HB2.out.size))
      clear hb3
      go_wp2_with fail
      refine bodyPost_ret (v := .tuple #[.int .i32 0, .int .i64 0]) (by simp [results, Tryd.results46, go_sem]) rfl ?_
      exact ⟨HB3.out, _, 0, rfl, H1.out⟩
  · have H1 := Lib.hid (hgb.2 (.inl hg))
    clear hgb hg
    go_wp2_with fail
    refine bodyPost_ret (v := .tuple #[.int .i32 0, .int .i64 0]) (by simp [results, Tryd.results46, go_sem]) rfl ?_
    exact ⟨HB2.out, _, 0, rfl, H1.out⟩
end Go.Proofs.YtnpchkohfomagaaDoor.Rgm
/-! Letters at places of a text: plain. -/
namespace Go.Proofs.YtnpchkohfomagaaDoor.Rgm
open Go Go.Rg Go.Utf Go.Proofs.YtnpchkohfomagaaDoor.Utf0
set_option linter.unusedVariables false
/-- The bytes of a text. -/
def sN (s : ByteArray) : List Nat := s.data.toList.map UInt8.toNat
theorem sN_len (s : ByteArray) : (sN s).length = s.size := by unfold sN; rw [List.length_map]; rfl
theorem sI_sN (s : ByteArray) : sI s = (sN s).map fun b => ((b : Nat) : Int) := by unfold sI sN; rw [List.map_map]; rfl
theorem sN_extract (s : ByteArray) (i j : Nat) : sN (s.extract i j) = ((sN s).take j).drop i := by
  unfold sN
  rw [ByteArray.data_extract, Array.toList_extract, List.extract_eq_take_drop, ← List.map_take, ← List.map_drop, List.drop_take]
theorem sN_append (a b : ByteArray) : sN (a ++ b) = sN a ++ sN b := by
  unfold sN
  rw [ByteArray.data_append, Array.toList_append, List.map_append]
theorem ub_cast (c : Int) (h : Let c) : (ub c).map (fun b => ((b : Nat) : Int)) = ubytes c := by
  unfold ub
  rw [List.map_map]
  conv => rhs; rw [← List.map_id (ubytes c)]
  apply List.map_congr_left
  intro x hx
  have : 0 ≤ x := by
    have h0 := h.1
    unfold ubytes at hx
    split at hx
    · simp at hx; omega
    · split at hx
      · simp at hx; omega
      · split at hx
        · simp at hx; omega
        · simp at hx; omega
  simp; omega
theorem wid_pos (c : Int) : 1 ≤ wid c := by unfold wid; split <;> (try split) <;> (try split) <;> omega
theorem wid_le4 (c : Int) : wid c ≤ 4 := by unfold wid; split <;> (try split) <;> (try split) <;> omega
theorem seg_iff (L : List Nat) (i : Nat) (c : Int) (hc : Let c) : ubytes c <+: (L.drop i).map (fun b => ((b : Nat) : Int)) ↔ (L.take (i + wid c)).drop i = ub c := by
  rw [← ub_cast c hc, List.drop_take, show i + wid c - i = wid c by omega]
  constructor
  · intro h
    have h1 := List.prefix_iff_eq_take.1 h
    rw [List.length_map, ub_len, ← List.map_take] at h1
    exact ((List.map_inj_right (fun a b h => Int.ofNat.inj h)).1 h1).symm
  · intro h
    rw [← h, List.map_take]
    exact List.take_prefix _ _
theorem seg_bd {L : List Nat} {i : Nat} {c : Int} (h : (L.take (i + wid c)).drop i = ub c) : i + wid c ≤ L.length := by
  have := congrArg List.length h
  rw [ub_len, List.length_drop, List.length_take] at this
  have := wid_pos c
  omega
theorem two_let {l : List Int} {x y : Int} (hx : Let x) (hy : Let y) (h1 : ubytes x <+: l) (h2 : ubytes y <+: l) : x = y := by
  obtain ⟨c, hc, a1, a2, a3, a4⟩ := begins_acc hx h1
  obtain ⟨c', hc', b1, b2, b3, b4⟩ := begins_acc hy h2
  rw [hc] at hc'
  cases hc'
  rw [← a3, ← b3, ← a1, ← b1]
/-- Where letters of pairs can end that begin at one of the first m places. -/
def CPre (L : List Nat) (zs : List Int) (P : Nat → Prop) (m j : Nat) : Prop := ∃ (i : Nat) (c : Int), i < m ∧ P i ∧ Let c ∧ inB zs c = true ∧ i + wid c = j ∧ (L.take j).drop i = ub c
theorem cpre_zero (L : List Nat) (zs : List Int) (P : Nat → Prop) (j : Nat) : ¬ CPre L zs P 0 j := fun ⟨i, c, h, _⟩ => by omega
theorem cpre_step {L : List Nat} {zs : List Int} {P : Nat → Prop} {i k : Nat} {c : Int} (h : Begins ((L.drop i).map fun b => ((b : Nat) : Int)) c k) (j : Nat) :
    CPre L zs P (i + 1) j ↔ CPre L zs P i j ∨ (P i ∧ 0 < k ∧ inB zs c = true ∧ j = i + k) := by
  constructor
  · rintro ⟨i', c', h1, h2, h3, h4, h5, h6⟩
    by_cases he : i' = i
    · subst he
      right
      subst h5
      have hp := (seg_iff L i' c' h3).2 h6
      rcases h with ⟨hk, hc, hno⟩ | ⟨hc, hk, hpre⟩
      · exact absurd hp (hno c' h3)
      · have := two_let h3 hc hp hpre
        subst this
        exact ⟨h2, by have := wid_pos c'; omega, h4, by omega⟩
    · exact .inl ⟨i', c', by omega, h2, h3, h4, h5, h6⟩
  · rintro (⟨i', c', h1, h2, h3, h4, h5, h6⟩ | ⟨h1, h2, h3, h4⟩)
    · exact ⟨i', c', by omega, h2, h3, h4, h5, h6⟩
    · rcases h with ⟨hk, _⟩ | ⟨hc, hk, hpre⟩
      · omega
      · subst h4 hk
        exact ⟨i, c, by omega, h1, hc, h3, rfl, (seg_iff L i c hc).1 hpre⟩
theorem cpre_all (L : List Nat) (zs : List Int) (P : Nat → Prop) (j : Nat) : CPre L zs P L.length j ↔ Rch (Cls zs) L P j := by
  rw [rch_cls]
  constructor
  · rintro ⟨i, c, h1, h2, h3, h4, h5, h6⟩
    exact ⟨i, c, h2, h3, h4, h5, by subst h5; exact seg_bd h6, h6⟩
  · rintro ⟨i, c, h2, h3, h4, h5, h7, h6⟩
    exact ⟨i, c, by have := wid_pos c; omega, h2, h3, h4, h5, h6⟩
theorem begins_bd {L : List Nat} {i k : Nat} {c : Int} (h : Begins ((L.drop i).map fun b => ((b : Nat) : Int)) c k) (hk : 0 < k) : i + k ≤ L.length := by
  rcases h with ⟨h1, _⟩ | ⟨hc, rfl, hpre⟩
  · omega
  · exact seg_bd ((seg_iff L i c hc).1 hpre)
/-- Where a word ends that begins at one of the first m places. -/
def LPre (L w : List Nat) (P : Nat → Prop) (m j : Nat) : Prop := ∃ i, i < m ∧ P i ∧ i + w.length = j ∧ j ≤ L.length ∧ (L.take j).drop i = w
theorem lpre_step {L w : List Nat} {P : Nat → Prop} {i : Nat} (hi : i + w.length ≤ L.length) (j : Nat) :
    LPre L w P (i + 1) j ↔ LPre L w P i j ∨ (P i ∧ (L.take (i + w.length)).drop i = w ∧ j = i + w.length) := by
  constructor
  · rintro ⟨i', h1, h2, h3, h4, h5⟩
    by_cases he : i' = i
    · subst he
      subst h3
      exact .inr ⟨h2, h5, rfl⟩
    · exact .inl ⟨i', by omega, h2, h3, h4, h5⟩
  · rintro (⟨i', h1, h2, h3, h4, h5⟩ | ⟨h1, h2, h3⟩)
    · exact ⟨i', by omega, h2, h3, h4, h5⟩
    · subst h3
      exact ⟨i, by omega, h1, rfl, hi, h2⟩
theorem lpre_all {L w : List Nat} {P : Nat → Prop} {m : Nat} (hm : L.length < m + w.length) (rs : List Int) (hw : w = word rs) (j : Nat) : LPre L w P m j ↔ Rch (fun x => x = word rs) L P j := by
  subst hw
  rw [rch_lit]
  constructor
  · rintro ⟨i, h1, h2, h3, h4, h5⟩
    exact ⟨i, h2, h3, h4, h5⟩
  · rintro ⟨i, h2, h3, h4, h5⟩
    exact ⟨i, by omega, h2, h3, h4, h5⟩
end Go.Proofs.YtnpchkohfomagaaDoor.Rgm
/-! How many states a program has that is rows of ranges, parted by splits: plain. -/
namespace Go.Rg
set_option linter.unusedVariables false
/-- All sublists. -/
def subl : List Nat → List (List Nat)
  | [] => [[]]
  | a :: r => subl r ++ (subl r).map (a :: ·)
theorem subl_len : ∀ L : List Nat, (subl L).length = 2 ^ L.length
  | [] => rfl
  | a :: r => by rw [subl, List.length_append, List.length_map, subl_len r, List.length_cons, Nat.pow_succ]; omega
theorem mem_subl {T L : List Nat} (h : T.Sublist L) : T ∈ subl L := by
  induction h with
  | slnil => simp [subl]
  | cons a _ ih => rw [subl, List.mem_append]; exact .inl ih
  | cons_cons a _ ih => rw [subl, List.mem_append]; exact .inr (List.mem_map.2 ⟨_, ih, rfl⟩)
theorem nodup_sub {α : Type} [DecidableEq α] : ∀ (A B : List α), A.Nodup → (∀ x ∈ A, x ∈ B) → A.length ≤ B.length := by
  intro A
  induction A with
  | nil => intro B _ _; simp
  | cons a A ih =>
    intro B hn h
    have ha := h a (by simp)
    have h1 := ih (B.erase a) (List.nodup_cons.1 hn).2 fun x hx => by
      have hne : x ≠ a := fun e => (List.nodup_cons.1 hn).1 (e ▸ hx)
      exact (List.mem_erase_of_ne hne).2 (h x (by simp [hx]))
    rw [List.length_erase_of_mem ha] at h1
    have : 0 < B.length := List.length_pos_of_mem ha
    rw [List.length_cons]
    omega
def isR (l : List In) (x : Nat) : Bool := match l[x]? with
  | some i => i.op == 3
  | none => false
theorem takes_of_isR {l : List In} {x : Nat} (h : isR l x = true) : takes l x = true := by
  cases hx : l[x]? with
  | none => simp [isR, hx] at h
  | some i =>
    simp [isR, hx] at h
    simp [takes, hx, h]
theorem isR_of_into {l : List In} {c x : Nat} (h : into l c x = true) : isR l x = true := by
  cases hx : l[x]? with
  | none => simp [into, hx] at h
  | some i =>
    simp [into, hx] at h
    simp [isR, hx, h]
/-- Rows of ranges, each of at most four, from a place of bs on; behind each the end e, or a jump to it. -/
structure Leaf (l : List In) (e : Nat) (bs : List Nat) : Prop where
  fin : ∃ i, l[e]? = some i ∧ i.op = 0
  start : ∀ x ∈ startK l, isR l x = true → x ∈ bs
  row : ∀ b ∈ bs, ∃ w, w ≤ 4 ∧ (∀ j, j < w → isR l (b + j) = true) ∧ (b + w = e ∨ ∃ i, l[b + w]? = some i ∧ i.op = 1 ∧ i.to = e)
/-- A root of a step: a range, the end, or a jump to it. -/
def Root (l : List In) (e x : Nat) : Prop := isR l x = true ∨ x = e ∨ ∃ i, l[x]? = some i ∧ i.op = 1 ∧ i.to = e
theorem add_root {l : List In} {e : Nat} (hf : ∃ i, l[e]? = some i ∧ i.op = 0) {S : List Nat} {x f : Nat} (hx : Root l e x) (hS : x ∉ S ∨ isR l x = false) (hlen : 0 < l.length) (hn : l.length + 1 = f + 2) :
    (add l (f + 2) S x).filter (isR l) = S.filter (isR l) ++ [x].filter (isR l) ∧ (∀ y ∈ add l (f + 2) S x, y ∈ S ∨ y = x ∨ y = e) := by
  obtain ⟨ie, he, he0⟩ := hf
  have hre : isR l e = false := by simp [isR, he, he0]
  unfold add
  by_cases hm : x ∈ S
  · rw [if_pos hm]
    have hr : isR l x = false := hS.resolve_left (fun h => h hm)
    exact ⟨by simp [hr], fun y hy => .inl hy⟩
  · rw [if_neg hm]
    rcases hx with hr | rfl | ⟨i, hi, h1, h2⟩
    · cases hi : l[x]? with
      | none => simp [isR, hi] at hr
      | some i =>
        have h3 : i.op = 3 := by simpa [isR, hi] using hr
        simp only [h3, show ¬ (3 : Nat) = 1 by decide, show ¬ (3 : Nat) = 2 by decide, if_false]
        exact ⟨by rw [List.filter_append], fun y hy => by simp at hy; rcases hy with h | h; exact .inl h; exact .inr (.inl h)⟩
    · rw [he]
      simp only [he0, show ¬ (0 : Nat) = 1 by decide, show ¬ (0 : Nat) = 2 by decide, if_false]
      exact ⟨by rw [List.filter_append], fun y hy => by simp at hy; rcases hy with h | h; exact .inl h; exact .inr (.inl h)⟩
    · rw [hi]
      simp only [h1, if_true, h2]
      have hrx : isR l x = false := by simp [isR, hi, h1]
      unfold add
      by_cases hme : e ∈ S ++ [x]
      · rw [if_pos hme]
        exact ⟨by rw [List.filter_append], fun y hy => by simp at hy; rcases hy with h | h; exact .inl h; exact .inr (.inl h)⟩
      · rw [if_neg hme, he]
        simp only [he0, show ¬ (0 : Nat) = 1 by decide, show ¬ (0 : Nat) = 2 by decide, if_false]
        refine ⟨by rw [List.filter_append, List.filter_append]; simp [hre], fun y hy => ?_⟩
        simp at hy
        rcases hy with h | h | h
        · exact .inl h
        · exact .inr (.inl h)
        · exact .inr (.inr h)
theorem addAll_roots {l : List In} {e : Nat} (hf : ∃ i, l[e]? = some i ∧ i.op = 0) (hlen : 1 < l.length) : ∀ (n : Nat) (r : List Nat), r.length = n → r.Nodup → (∀ x ∈ r, Root l e x) →
    (addAll l [] r).filter (isR l) = r.filter (isR l) ∧ (∀ y ∈ addAll l [] r, y ∈ r ∨ y = e) := by
  intro n
  induction n with
  | zero =>
    intro r h _ _
    obtain rfl := List.eq_nil_of_length_eq_zero h
    exact ⟨rfl, fun y hy => by simp [addAll] at hy⟩
  | succ n ih =>
    intro r h hn hr
    obtain ⟨r', x, rfl⟩ : ∃ r' x, r = r' ++ [x] := by
      rcases List.eq_nil_or_concat r with rfl | ⟨r', x, rfl⟩
      · simp at h
      · exact ⟨r', x, by simp⟩
    have hn' := List.nodup_append.1 hn
    obtain ⟨h1, h2⟩ := ih r' (by simpa using h) hn'.1 fun y hy => hr y (by simp [hy])
    have hx := hr x (by simp)
    have hxr : x ∉ r' := fun hm => hn'.2.2 x hm x (by simp) rfl
    obtain ⟨f, hff⟩ : ∃ f, l.length + 1 = f + 2 := ⟨l.length - 1, by omega⟩
    have hS : x ∉ addAll l [] r' ∨ isR l x = false := by
      by_cases hm : x ∈ addAll l [] r'
      · right
        rcases h2 x hm with h | h
        · exact absurd h hxr
        · obtain ⟨i, hi, hi0⟩ := hf
          rw [h]; simp [isR, hi, hi0]
      · exact .inl hm
    obtain ⟨k1, k2⟩ := add_root hf (f := f) hx hS (by omega) hff
    rw [addAll_snoc, hff]
    refine ⟨by rw [k1, h1, List.filter_append], fun y hy => ?_⟩
    rcases k2 y hy with h | h | h
    · rcases h2 y h with h | h
      · exact .inl (by simp [h])
      · exact .inr h
    · exact .inl (by simp [h])
    · exact .inr h
/-- The states of such a program: the first one, and behind each number of bytes one a sublist of the rows. -/
def states4 (l : List In) : List (List Nat) := startK l :: (List.range 4).flatMap fun d => (subl ((startK l).filter (isR l))).map fun R => key l (addAll l [] (R.map (· + (d + 1))))
theorem states4_len (l : List In) : (states4 l).length = 1 + 4 * 2 ^ ((startK l).filter (isR l)).length := by
  unfold states4
  rw [List.length_cons, List.length_flatMap]
  simp only [List.length_map, subl_len, List.map_const']
  simp [List.range, List.range.loop, List.replicate, List.sum_cons]
  omega
theorem leaf_rk {l : List In} {e : Nat} {bs : List Nat} (h : Leaf l e bs) (hs : Sound l) (hlen : 1 < l.length) {K : List Nat} (hK : Rk l K) : K ∈ states4 l ∧
    ∃ (w : Nat → Nat) (d : Nat), (∀ b ∈ bs, w b ≤ 4 ∧ (∀ j, j < w b → isR l (b + j) = true) ∧ (b + w b = e ∨ ∃ i, l[b + w b]? = some i ∧ i.op = 1 ∧ i.to = e)) ∧
      (K.filter (isR l)).Sublist ((((startK l).filter (isR l)).filter fun b => decide (d < w b)).map (· + d)) := by
  obtain ⟨ie, hie, hie0⟩ := h.fin
  have hre : isR l e = false := by simp [isR, hie, hie0]
  have hB : ∀ b ∈ (startK l).filter (isR l), b ∈ bs ∧ isR l b = true := fun b hb => by
    have := List.mem_filter.1 hb
    exact ⟨h.start b this.1 this.2, this.2⟩
  have hBn : ((startK l).filter (isR l)).Nodup := (isK_start hs (by omega)).nd.sublist List.filter_sublist
  induction hK with
  | start =>
    refine ⟨by simp [states4], ?_⟩
    obtain ⟨w, hw⟩ : ∃ w : Nat → Nat, ∀ b ∈ bs, w b ≤ 4 ∧ (∀ j, j < w b → isR l (b + j) = true) ∧ (b + w b = e ∨ ∃ i, l[b + w b]? = some i ∧ i.op = 1 ∧ i.to = e) :=
      ⟨fun b => if hb : b ∈ bs then (h.row b hb).choose else 0, fun b hb => by simp only [hb, dif_pos]; exact (h.row b hb).choose_spec⟩
    refine ⟨w, 0, hw, ?_⟩
    have : (((startK l).filter (isR l)).filter fun b => decide (0 < w b)) = (startK l).filter (isR l) := List.filter_eq_self.2 fun b hb => by
      obtain ⟨h1, h2⟩ := hB b hb
      obtain ⟨_, _, h5⟩ := hw b h1
      rw [decide_eq_true_iff]
      rcases Nat.eq_zero_or_pos (w b) with h0 | h0
      · rw [h0, Nat.add_zero] at h5
        rcases h5 with h5 | ⟨i, hi, h6, _⟩
        · rw [h5, hre] at h2; cases h2
        · simp [isR, hi, h6] at h2
      · exact h0
    rw [this]
    simp
  | @step K c hK hc ih =>
    obtain ⟨_, w, d, hw, hsub⟩ := ih
    have h1 : (K.filter (into l c)).Sublist (K.filter (isR l)) := by
      have : K.filter (into l c) = (K.filter (isR l)).filter (into l c) := by
        rw [List.filter_filter]
        apply List.filter_congr
        intro x _
        cases hx : into l c x with
        | false => simp
        | true => simp [isR_of_into hx]
      rw [this]
      exact List.filter_sublist
    obtain ⟨R, hR, hRe⟩ := List.sublist_map_iff.1 (h1.trans hsub)
    have hroots : rootsOf l K c = R.map (· + (d + 1)) := by
      unfold rootsOf
      rw [hRe, List.map_map]
      apply List.map_congr_left
      intro x _
      simp; omega
    have hRB : R.Sublist ((startK l).filter (isR l)) := hR.trans List.filter_sublist
    have hRm : ∀ b ∈ R, b ∈ bs ∧ d < w b := fun b hb => by
      have := List.mem_filter.1 (hR.subset hb)
      exact ⟨(hB b this.1).1, by simpa using this.2⟩
    have hrn : (R.map (· + (d + 1))).Nodup := by
      rw [List.nodup_iff_pairwise_ne, List.pairwise_map]
      exact (hBn.sublist hRB).imp fun h e => h (by omega)
    have hrr : ∀ x ∈ R.map (· + (d + 1)), Root l e x := fun x hx => by
      obtain ⟨b, hb, rfl⟩ := List.mem_map.1 hx
      obtain ⟨h3, h4⟩ := hRm b hb
      obtain ⟨_, h5, h6⟩ := hw b h3
      rcases Nat.lt_or_ge (d + 1) (w b) with h7 | h7
      · exact .inl (h5 (d + 1) h7)
      · have : w b = d + 1 := by omega
        rw [this] at h6
        exact .inr h6
    obtain ⟨k1, _⟩ := addAll_roots h.fin hlen _ _ rfl hrn hrr
    have hstep : stepK l K c = key l (addAll l [] (R.map (· + (d + 1)))) := by unfold stepK; rw [hroots]
    constructor
    · rw [hstep]
      unfold states4
      apply List.mem_cons_of_mem
      rw [List.mem_flatMap]
      by_cases hd : d < 4
      · exact ⟨d, List.mem_range.2 hd, List.mem_map.2 ⟨R, mem_subl hRB, rfl⟩⟩
      · have hR0 : R = [] := List.eq_nil_iff_forall_not_mem.2 fun b hb => by
          obtain ⟨h3, h4⟩ := hRm b hb
          have := (hw b h3).1
          omega
        subst hR0
        exact ⟨0, by simp, List.mem_map.2 ⟨[], mem_subl (List.nil_sublist _), rfl⟩⟩
    · refine ⟨w, d + 1, hw, ?_⟩
      rw [hstep]
      have e1 : (key l (addAll l [] (R.map (· + (d + 1))))).filter (isR l) = (R.map (· + (d + 1))).filter (isR l) := by
        unfold key
        rw [List.filter_filter, ← k1]
        apply List.filter_congr
        intro x _
        cases hx : isR l x with
        | false => simp
        | true => simp [takes_of_isR hx]
      rw [e1, List.filter_map]
      apply List.Sublist.map
      have e2 : R.filter (isR l ∘ (· + (d + 1))) = R.filter fun b => decide (d + 1 < w b) := by
        apply List.filter_congr
        intro b hb
        obtain ⟨h3, h4⟩ := hRm b hb
        obtain ⟨_, h5, h6⟩ := hw b h3
        rcases Nat.lt_or_ge (d + 1) (w b) with h7 | h7
        · simp only [Function.comp, h5 (d + 1) h7, h7, decide_true]
        · have hwd : w b = d + 1 := by omega
          rw [hwd] at h6
          have : isR l (b + (d + 1)) = false := by
            rcases h6 with h6 | ⟨i, hi, h8, _⟩
            · rw [h6]; exact hre
            · simp [isR, hi, h8]
          simp only [Function.comp, this]
          simp; omega
      rw [e2]
      exact hRB.filter _
theorem leaf_few {l : List In} {e : Nat} {bs : List Nat} (h : Leaf l e bs) (hs : Sound l) (hlen : 1 < l.length) (hb : bs.length ≤ 11) : ¬ Many l := by
  rintro ⟨Ks, h1, h2, h3⟩
  have h4 := nodup_sub Ks (states4 l) h1 fun K hK => (leaf_rk h hs hlen (h3 K hK).1).1
  rw [states4_len] at h4
  have hBn : ((startK l).filter (isR l)).Nodup := (isK_start hs (by omega)).nd.sublist List.filter_sublist
  have h5 := nodup_sub _ bs hBn fun b hb => by
    have := List.mem_filter.1 hb
    exact h.start b this.1 this.2
  have h6 : 2 ^ ((startK l).filter (isR l)).length ≤ 2 ^ 11 := Nat.pow_le_pow_right (by omega) (by omega)
  have : (2 : Nat) ^ 11 = 2048 := by decide
  omega
theorem wid_pos1 (x : Int) : 1 ≤ Utf.wid x := by unfold Utf.wid; split <;> (try split) <;> (try split) <;> omega
def nodes : Nat → List (Int × Int) → List Nat
  | q, [] => [q]
  | q, x :: r => q :: (q + 1) :: nodes (q + (seqIns x).length + 2) r
def bsOf : Nat → List (Int × Int) → List Nat
  | q, [] => [q]
  | q, x :: r => (q + 1) :: bsOf (q + (seqIns x).length + 2) r
theorem bsOf_len : ∀ (r : List (Int × Int)) (q : Nat), (bsOf q r).length = r.length + 1
  | [], _ => rfl
  | x :: r, q => by rw [bsOf, List.length_cons, bsOf_len r, List.length_cons]
theorem nodes_head : ∀ (r : List (Int × Int)) (q : Nat), q ∈ nodes q r
  | [], _ => by simp [nodes]
  | _ :: _, _ => by simp [nodes]
theorem nodes_are {l : List In} {E : Nat} {last : Int × Int} : ∀ (r : List (Int × Int)) (q : Nat), Holds l q (segs E q (r.map seqPc) ++ seqIns last) → ∀ x ∈ nodes q r, x ∈ bsOf q r ∨ ∃ i, l[x]? = some i ∧ i.op = 2 ∧ i.a ∈ nodes q r ∧ i.b ∈ nodes q r
  | [], q, _, x, hx => .inl (by simpa [nodes, bsOf] using hx)
  | y :: r, q, h, x, hx => by
    rw [List.map_cons, segs, List.append_assoc] at h
    obtain ⟨h1, h2⟩ := h.app
    rw [seg_len] at h2
    have h2' : Holds l (q + (seqIns y).length + 2) (segs E (q + (seqIns y).length + 2) (r.map seqPc) ++ seqIns last) := h2
    have hs := h1.cons.1
    simp only [nodes, List.mem_cons] at hx
    rcases hx with rfl | rfl | hx
    · exact .inr ⟨_, hs, rfl, by simp [nodes, In.spl], by
        show (x + (seqIns y).length + 2) ∈ nodes x (y :: r)
        simp only [nodes, List.mem_cons]
        exact .inr (.inr (nodes_head _ _))⟩
    · exact .inl (by simp [bsOf])
    · rcases nodes_are r _ h2' x hx with h3 | ⟨i, h3, h4, h5, h6⟩
      · exact .inl (by simp [bsOf, h3])
      · exact .inr ⟨i, h3, h4, by simp [nodes, h5], by simp [nodes, h6]⟩
theorem seqIns_rng {q : Int × Int} {k : Nat} {i : In} (h : (seqIns q)[k]? = some i) : i.op = 3 := by
  unfold seqIns at h
  rw [List.getElem?_map] at h
  obtain ⟨x, _, rfl⟩ := Option.map_eq_some_iff.1 h
  rfl
theorem holds_row {l : List In} {p : Nat} {q : Int × Int} (h : Holds l p (seqIns q)) : ∀ j, j < (seqIns q).length → isR l (p + j) = true := fun j hj => by
  have h1 : (seqIns q)[j]? = some (seqIns q)[j] := List.getElem?_eq_getElem hj
  have h2 := h j _ h1
  simp [isR, h2, seqIns_rng h1]
theorem rows_are4 {l : List In} {E : Nat} {last : Int × Int} (hl : Utf.Good last.1 last.2) : ∀ (r : List (Int × Int)) (q : Nat), (∀ x ∈ r, Utf.Good x.1 x.2) → Holds l q (segs E q (r.map seqPc) ++ seqIns last) → E = q + plen (r.map seqPc) + (seqIns last).length →
    ∀ b ∈ bsOf q r, ∃ w, 1 ≤ w ∧ w ≤ 4 ∧ (∀ j, j < w → isR l (b + j) = true) ∧ (b + w = E ∨ ∃ i, l[b + w]? = some i ∧ i.op = 1 ∧ i.to = E)
  | [], q, _, h, hE, b, hb => by
    simp only [bsOf, List.mem_singleton] at hb
    subst hb
    have hw := seqIns_len hl
    refine ⟨(seqIns last).length, by rw [hw]; exact wid_pos1 _, by rw [hw]; exact (wid_le4 _).2, ?_, .inl (by rw [hE]; simp [plen])⟩
    exact holds_row (by simpa [segs] using h)
  | y :: r, q, hg, h, hE, b, hb => by
    rw [List.map_cons, segs, List.append_assoc] at h
    obtain ⟨h1, h2⟩ := h.app
    rw [seg_len] at h2
    have h2' : Holds l (q + (seqIns y).length + 2) (segs E (q + (seqIns y).length + 2) (r.map seqPc) ++ seqIns last) := h2
    simp only [bsOf, List.mem_cons] at hb
    rcases hb with rfl | hb
    · have hw := seqIns_len (hg y (by simp))
      have h3 := h1.cons.2
      have h3' : Holds l (q + 1) (seqIns y ++ [In.jmp E]) := h3
      obtain ⟨h4, h5⟩ := h3'.app
      refine ⟨(seqIns y).length, by rw [hw]; exact wid_pos1 _, by rw [hw]; exact (wid_le4 _).2, holds_row h4, .inr ⟨In.jmp E, h5.cons.1, rfl, rfl⟩⟩
    · exact rows_are4 hl r _ (fun x hx => hg x (by simp [hx])) h2' (by
        rw [hE, List.map_cons, plen_cons]
        show q + ((seqIns y).length + 2 + plen (r.map seqPc)) + _ = _
        omega) b hb
/-- All letters are cut into at most nine ranges. -/
theorem done_nine {out : List (Int × Int)} (h : Utf.Done 0 1114111 out) : out.length ≤ 9 := by
  have h1 := nodup_sub (out.map Prod.fst) [0, 128, 2048, 4096, 53248, 57344, 65536, 262144, 1048576] (by
    rw [List.nodup_iff_pairwise_ne, List.pairwise_map]
    refine List.Pairwise.imp_of_mem ?_ h.rise
    intro a b ha _ hab e
    have := (h.good a ha).1.2.2.1
    omega) (fun x hx => by
    obtain ⟨q, hq, rfl⟩ := List.mem_map.1 hx
    have := h.st rfl rfl q hq
    unfold Utf.Fst at this
    simp
    exact this)
  simpa using h1
theorem any_few {c : List In} (h : RngC 0 1114111 0 c) (hs : Sound (c ++ [In.fin])) : ¬ Many (c ++ [In.fin]) := by
  obtain ⟨init, q, hd, hc⟩ := h
  have h9 := done_nine hd
  rw [List.length_append, List.length_singleton] at h9
  have hgq := (hd.good q (by simp)).1
  have hgi : ∀ x ∈ init, Utf.Good x.1 x.2 := fun x hx => (hd.good x (by simp [hx])).1
  have hE : c.length = 0 + plen (init.map seqPc) + (seqIns q).length := by rw [hc, List.length_append, segs_len]; omega
  have hc' : c = segs c.length 0 (init.map seqPc) ++ seqIns q := by
    conv => lhs; rw [hc]
    rw [hE]
  have hh : Holds (c ++ [In.fin]) 0 (segs c.length 0 (init.map seqPc) ++ seqIns q) := by
    rw [← hc']
    intro k i hk
    rw [Nat.zero_add, List.getElem?_append_left (List.getElem?_eq_some_iff.1 hk).1]
    exact hk
  have hrow := rows_are4 hgq init 0 hgi hh hE
  have hpos : 1 ≤ (seqIns q).length := by rw [seqIns_len hgq]; exact wid_pos1 _
  have hlen : 1 < (c ++ [In.fin]).length := by rw [List.length_append, List.length_singleton]; omega
  refine leaf_few (e := c.length) (bs := bsOf 0 init) ⟨⟨In.fin, by simp, rfl⟩, fun x hx hr => ?_, fun b hb => ?_⟩ hs hlen (by rw [bsOf_len]; omega)
  · have hcl := addAll_closure (c ++ [In.fin]) hs [0] (by simp)
    have hx1 := (List.mem_filter.1 hx).1
    have hn := hcl.least (fun x => x ∈ nodes 0 init) (by simpa using nodes_head init 0) (fun x i hx hi y hy => by
      rcases nodes_are init 0 hh x hx with hb | ⟨j, hj, hj2, hja, hjb⟩
      · obtain ⟨w, hw1, _, hw3, _⟩ := hrow x hb
        have := hw3 0 hw1
        rw [Nat.add_zero] at this
        simp [isR, hi] at this
        simp [In.succ, this] at hy
      · rw [hi] at hj
        cases hj
        simp [In.succ, hj2] at hy
        rcases hy with rfl | rfl
        · exact hja
        · exact hjb) x hx1
    rcases nodes_are init 0 hh x hn with hb | ⟨j, hj, hj2, _⟩
    · exact hb
    · simp [isR, hj, hj2] at hr
  · obtain ⟨w, _, h2, h3, h4⟩ := hrow b hb
    exact ⟨w, h2, h3, h4⟩
end Go.Rg
/-! unicode.SimpleFold at the letters of ASCII, the Kelvin sign, the long s. (and what follows) -/
/-! unicode.SimpleFold at the letters of ASCII, the Kelvin sign, the long s. -/
namespace Go.Proofs.YtnpchkohfomagaaDoor.Rgf
open Go.ChangeShapes Go.WideShapes Go.ChangeAt Go.RowKit Go.Trav
set_option linter.unusedVariables false
set_option maxRecDepth 100000
theorem sf_ascii (r v : Nat) (w : World) (hr : r < 128) (hv : v < 65536) (h : w.cell? ⟨5, r, none⟩ = some (.int .u16 (v : Int))) :
    Calls Tryd.prog 72 #[.int .i32 (r : Int)] w fun e w' => e = .returned (.int .i32 (v : Int)) ∧ w = w' := by
  have t0 : (0 : Int) ≤ (r : Int) := by omega
  have t1 : (r : Int) ≤ 1114111 := by omega
  have t2 : (r : Int) < 128 := by omega
  go_enter Tryd.func72, Tryd.ntmps72
  go_wp2_with fail
  go_ret
  exact ⟨rfl, rfl⟩
set_option maxHeartbeats 4000000 in
theorem sf_orbit (r i0 n B off cap : Nat) (F T : Nat → Nat) (w : World) (hr : 128 ≤ r) (hr9 : r ≤ 65535) (h0 : w.cell? ⟨6, 0, none⟩ = some (.slice (some ⟨B, off, none⟩) n cap)) (hn : n ≤ 1000)
    (hF : ∀ k, k < n → w.cell? ⟨B, off + k * 2, none⟩ = some (.int .u16 (F k : Int)) ∧ w.cell? ⟨B, off + k * 2 + 1, none⟩ = some (.int .u16 (T k : Int)) ∧ F k < 65536 ∧ T k < 65536) (hs : ∀ i j, i < j → j < n → F i < F j) (hi : i0 < n) (hri : F i0 = r) :
    Calls Tryd.prog 72 #[.int .i32 (r : Int)] w fun e w' => e = .returned (.int .i32 (T i0 : Int)) ∧ w = w' := by
  have t0 : (0 : Int) ≤ (r : Int) := by omega
  have t1 : (r : Int) ≤ 1114111 := by omega
  have t2 : ¬ (r : Int) < 128 := by omega
  obtain ⟨v, hv⟩ : ∃ v, v = T i0 := ⟨_, rfl⟩
  rw [← hv]
  have HF := Lib.hid hF
  have HS := Lib.hid (And.intro hs (And.intro hi hri))
  have HV := Lib.hid hv
  clear hF hs hi hri hv
  go_enter Tryd.func72, Tryd.ntmps72
  go_wp2_with fail
  go_loopw [3, 4] (fun lv hv wr => ∃ lo hi : Nat, lv = .int .i64 (lo : Int) ∧ hv = .int .i64 (hi : Int) ∧ lo ≤ hi ∧ hi ≤ n ∧ wr = w ∧ Hid (lo ≤ i0 ∧ i0 ≤ hi)) (fun lv hv _ => (intOf hv).toNat - (intOf lv).toNat)
  case atStart => exact ⟨0, n, rfl, rfl, by omega, by omega, rfl, Lib.hid ⟨by omega, by have := HS.out.2.1; omega⟩⟩
  case round =>
    obtain ⟨lo, hi, rfl, rfl, hlh, hhn, rfl, HI⟩ := hrel
    by_cases hlt : lo < hi
    · obtain ⟨m, hm⟩ : ∃ m, m = (lo + hi) / 2 := ⟨_, rfl⟩
      obtain ⟨c0, c1, b0, b1⟩ := HF.out m (by omega)
      obtain ⟨f, hf⟩ : ∃ f, f = F m := ⟨_, rfl⟩
      rw [← hf] at c0
      have wr1 : IntKind.i64.wrap ((lo : Int) + (hi : Int)) = (lo : Int) + (hi : Int) := IntWalk.i64_in _ (by omega)
      have e5 : ((lo : Int) + (hi : Int)) / 2 = (m : Int) := by omega
      have t3 : (0 : Int) ≤ (m : Int) := by omega
      have t4 : (m : Int) < (n : Int) := by omega
      have HM := Lib.hid (And.intro hm hf)
      have hfr : f < r → m < i0 := fun h => by
        obtain ⟨k1, k2, k3⟩ := HS.out
        rcases Nat.lt_or_ge m i0 with h1 | h1
        · exact h1
        · rcases Nat.lt_or_eq_of_le h1 with h2 | h2
          · have := k1 i0 m h2 (by omega); omega
          · rw [← h2] at hf; omega
      have hfr2 : ¬ f < r → i0 ≤ m := fun h => by
        obtain ⟨k1, k2, k3⟩ := HS.out
        rcases Nat.lt_or_ge m i0 with h1 | h1
        · have := k1 m i0 h1 k2; omega
        · exact h1
      have HFR := Lib.hid (And.intro hfr hfr2)
      have q5 : wrap32 (f : Int) = (f : Int) := by rw [← hf] at b0; clear hfr hfr2; unfold wrap32; omega
      clear hm hf hfr hfr2 c1 b1
      have wr2 : IntKind.i64.wrap ((m : Int) + 1) = (m : Int) + 1 := IntWalk.i64_in _ (by omega)
      by_cases hfl : f < r
      · go_wp2_with fail
        go_roundw
        case rel => exact ⟨m + 1, hi, by go_num, rfl, by have := HM.out.1; omega, hhn, (by first | trivial | rfl), Lib.hid ⟨HFR.out.1 hfl, HI.out.2⟩⟩
        case measure => have := HM.out.1; simp [intOf]; omega
      · go_wp2_with fail
        go_roundw
        case rel => exact ⟨lo, m, rfl, rfl, by have := HM.out.1; omega, by have := HM.out.1; omega, (by first | trivial | rfl), Lib.hid ⟨HI.out.1, HFR.out.2 hfl⟩⟩
        case measure => have := HM.out.1; simp [intOf]; omega
    · have hl0 : lo = i0 := by have := HI.out; omega
      obtain rfl : lo = hi := by omega
      subst hl0
      obtain ⟨c0, c1, b0, b1⟩ := HF.out lo HS.out.2.1
      rw [HS.out.2.2] at c0
      rw [← HV.out] at c1 b1
      have q5 : wrap32 (r : Int) = (r : Int) := by unfold wrap32; omega
      have q6 : wrap32 (v : Int) = (v : Int) := by unfold wrap32; omega
      have t3 : (0 : Int) ≤ (lo : Int) := by omega
      have t4 : (lo : Int) < (n : Int) := by have := HS.out.2.1; omega
      clear HS
      go_wp2_with fail
      go_ret
      exact ⟨rfl, rfl⟩
end Go.Proofs.YtnpchkohfomagaaDoor.Rgf
/-! Folded letters: the program of a row of classes of single letters has few states (plain). -/
namespace Go.Rg
open Go.Utf
set_option linter.unusedVariables false
/-- From each place behind a range, and from the start: a closed set of places of which a byte enters at most one. -/
def DetP (l : List In) : Prop := ∀ y, (y = 0 ∨ ∃ x, isR l x = true ∧ y = x + 1) → ∃ N : List Nat, y ∈ N ∧ (∀ z ∈ N, ∀ i, l[z]? = some i → ∀ y' ∈ i.succ, y' ∈ N) ∧ ∀ a ∈ N, ∀ b ∈ N, ∀ c, into l c a = true → into l c b = true → a = b
theorem det_key {l : List In} (hs : Sound l) (h : DetP l) {y : Nat} (hy : y = 0 ∨ ∃ x, isR l x = true ∧ y = x + 1) (hyl : y < l.length) : ∀ a ∈ key l (addAll l [] [y]), ∀ b ∈ key l (addAll l [] [y]), ∀ c, into l c a = true → into l c b = true → a = b := by
  obtain ⟨N, h1, h2, h3⟩ := h y hy
  have hc := addAll_closure l hs [y] (by simpa using hyl)
  have hm : ∀ a ∈ key l (addAll l [] [y]), a ∈ N := fun a ha => hc.least (· ∈ N) (by simpa using h1) (fun x i hx hi z hz => h2 x hx i hi z hz) a (List.mem_filter.1 ha).1
  exact fun a ha b hb c => h3 a (hm a ha) b (hm b hb) c
theorem det_rk {l : List In} (hs : Sound l) (hlen : 0 < l.length) (h : DetP l) {K : List Nat} (hK : Rk l K) : K ∈ (startK l :: key l (addAll l [] []) :: (List.range l.length).map fun y => key l (addAll l [] [y])) ∧ (∀ a ∈ K, ∀ b ∈ K, ∀ c, into l c a = true → into l c b = true → a = b) ∧ K.Nodup := by
  induction hK with
  | start => exact ⟨by simp, det_key hs h (.inl rfl) hlen, (isK_start hs hlen).nd⟩
  | @step K c hK hc ih =>
    obtain ⟨_, hd, hn⟩ := ih
    have hfn : (K.filter (into l c)).length ≤ 1 := by
      have hn2 : (K.filter (into l c)).Nodup := hn.sublist List.filter_sublist
      match hf : K.filter (into l c), hn2 with
      | [], _ => simp
      | [a], _ => simp
      | a :: b :: r, hn2 =>
        have ha := List.mem_filter.1 (show a ∈ K.filter (into l c) by rw [hf]; simp)
        have hb := List.mem_filter.1 (show b ∈ K.filter (into l c) by rw [hf]; simp)
        have := hd a ha.1 b hb.1 c ha.2 hb.2
        subst this
        simp at hn2
    have hnd := (isK_step hs K c).nd
    match hf : K.filter (into l c), hfn with
    | [], _ =>
      have e : stepK l K c = key l (addAll l [] []) := by unfold stepK rootsOf; rw [hf]; rfl
      rw [e] at hnd ⊢
      exact ⟨by simp, fun a ha => by simp [key, addAll] at ha, hnd⟩
    | [x], _ =>
      have e : stepK l K c = key l (addAll l [] [x + 1]) := by unfold stepK rootsOf; rw [hf]; rfl
      have hx := List.mem_filter.1 (show x ∈ K.filter (into l c) by rw [hf]; simp)
      have hlt : x + 1 < l.length := by
        have := roots_lt hs (K := K) (c := c) (x + 1)
        exact this (by unfold rootsOf; rw [hf]; simp)
      rw [e] at hnd ⊢
      refine ⟨?_, det_key hs h (.inr ⟨x, isR_of_into hx.2, rfl⟩) hlt, hnd⟩
      apply List.mem_cons_of_mem
      apply List.mem_cons_of_mem
      exact List.mem_map.2 ⟨x + 1, List.mem_range.2 hlt, rfl⟩
    | _ :: _ :: _, hfn => simp at hfn
theorem det_few {l : List In} (hs : Sound l) (hlen : 0 < l.length) (h : DetP l) (h9 : l.length ≤ 9900) : ¬ Many l := by
  rintro ⟨Ks, h1, h2, h3⟩
  have h4 := nodup_sub Ks _ h1 fun K hK => (det_rk hs hlen h (h3 K hK).1).1
  simp at h4
  omega
/-- The classes of a word, each letters, the last one apart; the code. -/
def rowsC (E p : Nat) (c : List Int × Int) : List In := segs E p ((c.1.map fun x => (x, x)).map seqPc) ++ seqIns (c.2, c.2)
def endC (p : Nat) (c : List Int × Int) : Nat := p + plen ((c.1.map fun x => (x, x)).map seqPc) + (seqIns (c.2, c.2)).length
def fcode : Nat → List (List Int × Int) → List In
  | _, [] => []
  | p, c :: r => rowsC (endC p c) p c ++ fcode (endC p c) r
theorem rowsC_len (E p : Nat) (c : List Int × Int) : (rowsC E p c).length = plen ((c.1.map fun x => (x, x)).map seqPc) + (seqIns (c.2, c.2)).length := by rw [rowsC, List.length_append, segs_len]
theorem endC_eq (E p : Nat) (c : List Int × Int) : p + (rowsC E p c).length = endC p c := by rw [rowsC_len, endC]; omega
/-- Where a class begins; or the end. -/
def entry : Nat → List (List Int × Int) → List Nat
  | p, [] => [p]
  | p, c :: _ => nodes p (c.1.map fun x => (x, x))
theorem entry_head (p : Nat) (r : List (List Int × Int)) : p ∈ entry p r := by
  cases r with
  | nil => simp [entry]
  | cons c r => exact nodes_head _ _
/-- The first byte of a letter. -/
def fb (x : Int) : Nat := (ub x).headD 0
theorem seqIns_at {x : Int} (hx : Let x) (k : Nat) : (seqIns (x, x))[k]? = ((ub x)[k]?).map fun b => In.rng b b := by
  unfold seqIns seqN
  rw [List.map_map, List.getElem?_map]
  have h1 := seqOf_fst (let_good hx)
  have h2 := seqOf_snd (let_good hx)
  have e1 : (ub x)[k]? = ((seqOf (x, x))[k]?).map fun q => q.1.toNat := by
    unfold ub
    rw [← h1, List.map_map, List.getElem?_map]; rfl
  have e2 : (ub x)[k]? = ((seqOf (x, x))[k]?).map fun q => q.2.toNat := by
    unfold ub
    rw [← h2, List.map_map, List.getElem?_map]; rfl
  cases hq : (seqOf (x, x))[k]? with
  | none => rw [e1, hq]; rfl
  | some q =>
    rw [hq] at e1 e2
    rw [e1]
    simp only [Option.map_some] at e1 e2 ⊢
    rw [e1] at e2
    simp only [Option.some.injEq] at e2
    simp [e2]
theorem seqIns_len' {x : Int} (hx : Let x) : (seqIns (x, x)).length = wid x := seqIns_len (let_good hx)
theorem fb_row {l : List In} {p : Nat} {x : Int} (hx : Let x) (h : Holds l p (seqIns (x, x))) (c : Nat) : into l c p = true ↔ c = fb x := by
  have h0 := seqIns_at hx 0
  have hl : 0 < (ub x).length := by rw [ub_len]; exact wid_pos1 x
  have h1 : (ub x)[0]? = some (fb x) := by
    unfold fb
    cases hu : ub x with
    | nil => rw [hu] at hl; simp at hl
    | cons b r => rfl
  rw [h1] at h0
  have h2 := h 0 _ h0
  rw [Nat.add_zero] at h2
  simp [into, h2, In.rng]
  omega
/-- The rows' beginnings, letter by letter. -/
theorem bs_row {l : List In} {E : Nat} {last : Int} : ∀ (r : List Int) (q : Nat), Holds l q (segs E q ((r.map fun x => (x, x)).map seqPc) ++ seqIns (last, last)) →
    ∀ b ∈ bsOf q (r.map fun x => (x, x)), ∃ (k : Nat) (x : Int), (r ++ [last])[k]? = some x ∧ (bsOf q (r.map fun x => (x, x)))[k]? = some b ∧ Holds l b (seqIns (x, x))
  | [], q, h, b, hb => by
    simp [bsOf] at hb
    subst hb
    exact ⟨0, last, rfl, rfl, by simpa [segs] using h⟩
  | y :: r, q, h, b, hb => by
    rw [List.map_cons, List.map_cons, segs, List.append_assoc] at h
    obtain ⟨h1, h2⟩ := h.app
    rw [seg_len] at h2
    have h2' : Holds l (q + (seqIns (y, y)).length + 2) (segs E (q + (seqIns (y, y)).length + 2) ((r.map fun x => (x, x)).map seqPc) ++ seqIns (last, last)) := h2
    simp only [List.map_cons, bsOf, List.mem_cons] at hb
    rcases hb with rfl | hb
    · have h3 : Holds l (q + 1) (seqIns (y, y) ++ [In.jmp E]) := h1.cons.2
      exact ⟨0, y, rfl, rfl, h3.app.1⟩
    · obtain ⟨k, x, k1, k2, k3⟩ := bs_row r _ h2' b hb
      exact ⟨k + 1, x, by simpa using k1, by simpa [bsOf] using k2, k3⟩
theorem nodup_at {α : Type} {l : List α} (h : l.Nodup) {i j : Nat} {a : α} (hi : l[i]? = some a) (hj : l[j]? = some a) : i = j := by
  obtain ⟨h1, e1⟩ := List.getElem?_eq_some_iff.1 hi
  obtain ⟨h2, e2⟩ := List.getElem?_eq_some_iff.1 hj
  have hp := List.pairwise_iff_getElem.1 h
  rcases Nat.lt_trichotomy i j with h3 | h3 | h3
  · exact absurd (e1.trans e2.symm) (hp i j h1 h2 h3)
  · exact h3
  · exact absurd (e2.trans e1.symm) (hp j i h2 h1 h3)
/-- The letters of a class differ in their first bytes. -/
def Apart (c : List Int × Int) : Prop := (∀ x ∈ c.1 ++ [c.2], Let x) ∧ ((c.1 ++ [c.2]).map fb).Nodup
theorem entry_ok {l : List In} : ∀ (r : List (List Int × Int)) (p : Nat), (∀ c ∈ r, Apart c) → Holds l p (fcode p r ++ [In.fin]) → (∀ z ∈ entry p r, ∀ i, l[z]? = some i → ∀ y' ∈ i.succ, y' ∈ entry p r) ∧ ∀ a ∈ entry p r, ∀ b ∈ entry p r, ∀ c, into l c a = true → into l c b = true → a = b
  | [], p, _, h => by
    have h0 := h 0 In.fin rfl
    rw [Nat.add_zero] at h0
    refine ⟨fun z hz i hi y' hy => ?_, fun a ha b hb c h1 h2 => ?_⟩
    · simp [entry] at hz
      subst hz
      rw [h0] at hi
      cases hi
      simp [In.succ, In.fin] at hy
    · simp [entry] at ha hb
      rw [ha, hb]
  | c :: r, p, hA, h => by
    rw [fcode, List.append_assoc] at h
    have h1 := h.app.1
    have hc := hA c (by simp)
    have hg : ∀ x ∈ (c.1.map fun x => (x, x)), Utf.Good x.1 x.2 := fun q hq => by
      obtain ⟨x, hx, rfl⟩ := List.mem_map.1 hq
      exact let_good (hc.1 x (by simp [hx]))
    have hrow := rows_are4 (last := (c.2, c.2)) (let_good (hc.1 c.2 (by simp))) _ p hg h1 rfl
    have hbs := bs_row c.1 p h1
    have hisb : ∀ a ∈ nodes p (c.1.map fun x => (x, x)), ∀ e, into l e a = true → a ∈ bsOf p (c.1.map fun x => (x, x)) := fun a ha e he => by
      rcases nodes_are _ p h1 a ha with hb | ⟨i, hi, h2, _⟩
      · exact hb
      · simp [into, hi, h2] at he
    refine ⟨fun z hz i hi y' hy => ?_, fun a ha b hb e h2 h3 => ?_⟩
    · rcases nodes_are _ p h1 z hz with hb | ⟨j, hj, hj2, hja, hjb⟩
      · obtain ⟨w, hw1, _, hw3, _⟩ := hrow z hb
        have := hw3 0 hw1
        rw [Nat.add_zero] at this
        simp [isR, hi] at this
        simp [In.succ, this] at hy
      · rw [hi] at hj
        cases hj
        simp [In.succ, hj2] at hy
        rcases hy with rfl | rfl
        · exact hja
        · exact hjb
    · obtain ⟨k, x, k1, k2, k3⟩ := hbs a (hisb a ha e h2)
      obtain ⟨k', x', k1', k2', k3'⟩ := hbs b (hisb b hb e h3)
      have hx := hc.1 x (List.mem_of_getElem? k1)
      have hx' := hc.1 x' (List.mem_of_getElem? k1')
      have e1 := (fb_row hx k3 e).1 h2
      have e2 := (fb_row hx' k3' e).1 h3
      have : k = k' := nodup_at hc.2 (a := e) (by rw [List.getElem?_map, k1, e1]; rfl) (by rw [List.getElem?_map, k1', e2]; rfl)
      subst this
      rw [k2] at k2'
      exact Option.some.inj k2'
/-- What stands behind a range of a class: a range of the same row, the class's end, or a jump to it. -/
theorem behind {l : List In} {E : Nat} {last : Int} (hlast : Let last) : ∀ (r : List Int) (q : Nat), (∀ x ∈ r, Let x) → Holds l q (segs E q ((r.map fun x => (x, x)).map seqPc) ++ seqIns (last, last)) → E = q + plen ((r.map fun x => (x, x)).map seqPc) + (seqIns (last, last)).length →
    ∀ x, q ≤ x → x < E → isR l x = true → isR l (x + 1) = true ∧ x + 1 < E ∨ x + 1 = E ∨ ∃ i, l[x + 1]? = some i ∧ i.op = 1 ∧ i.to = E
  | [], q, _, h, hE, x, hq, hx, hr => by
    have hE' : E = q + (seqIns (last, last)).length := by simpa [plen] using hE
    have hh : Holds l q (seqIns (last, last)) := by simpa [segs] using h
    by_cases h1 : x + 1 = E
    · exact .inr (.inl h1)
    · left
      have := holds_row hh (x + 1 - q) (by omega)
      rw [show q + (x + 1 - q) = x + 1 by omega] at this
      exact ⟨this, by omega⟩
  | y :: r, q, hL, h, hE, x, hq, hx, hr => by
    rw [List.map_cons, List.map_cons, segs, List.append_assoc] at h
    obtain ⟨h1, h2⟩ := h.app
    rw [seg_len] at h2
    have h2' : Holds l (q + (seqIns (y, y)).length + 2) (segs E (q + (seqIns (y, y)).length + 2) ((r.map fun x => (x, x)).map seqPc) ++ seqIns (last, last)) := h2
    have hs := h1.cons.1
    have h3 : Holds l (q + 1) (seqIns (y, y) ++ [In.jmp E]) := h1.cons.2
    have hj : l[q + 1 + (seqIns (y, y)).length]? = some (In.jmp E) := h3.app.2.cons.1
    rcases Nat.lt_or_ge x (q + (seqIns (y, y)).length + 2) with hlt | hge
    · have hne : x ≠ q := fun e => by subst e; simp [isR, hs, In.spl] at hr
      have hne2 : x ≠ q + 1 + (seqIns (y, y)).length := fun e => by subst e; simp [isR, hj, In.jmp] at hr
      by_cases h4 : x + 1 = q + 1 + (seqIns (y, y)).length
      · exact .inr (.inr ⟨_, by rw [h4]; exact hj, rfl, rfl⟩)
      · left
        have := holds_row h3.app.1 (x - q) (by omega)
        rw [show q + 1 + (x - q) = x + 1 by omega] at this
        refine ⟨this, ?_⟩
        rw [hE, List.map_cons, List.map_cons, plen_cons]
        show x + 1 < q + ((seqIns (y, y)).length + 2 + _) + _
        omega
    · exact behind hlast r _ (fun z hz => hL z (by simp [hz])) h2' (by
        rw [hE, List.map_cons, List.map_cons, plen_cons]
        show q + ((seqIns (y, y)).length + 2 + _) + _ = _
        omega) x hge hx hr
theorem fcode_len : ∀ (r : List (List Int × Int)) (p : Nat), ∀ c, (fcode p (c :: r)).length = (rowsC (endC p c) p c).length + (fcode (endC p c) r).length := fun r p c => by rw [fcode, List.length_append]
theorem fcode_det {l : List In} : ∀ (r : List (List Int × Int)) (p : Nat), (∀ c ∈ r, Apart c) → Holds l p (fcode p r ++ [In.fin]) → ∀ x, p ≤ x → x < p + (fcode p r).length → isR l x = true →
    ∃ N : List Nat, x + 1 ∈ N ∧ (∀ z ∈ N, ∀ i, l[z]? = some i → ∀ y' ∈ i.succ, y' ∈ N) ∧ ∀ a ∈ N, ∀ b ∈ N, ∀ c, into l c a = true → into l c b = true → a = b
  | [], p, _, _, x, h1, h2, _ => by simp [fcode] at h2; omega
  | c :: r, p, hA, h, x, h1, h2, hr => by
    have hc := hA c (by simp)
    have h' := h
    rw [fcode, List.append_assoc] at h'
    have ha := h'.app.1
    have hb := h'.app.2
    rw [endC_eq] at hb
    have hen := entry_ok r (endC p c) (fun z hz => hA z (by simp [hz])) hb
    by_cases hx : x < endC p c
    · rcases behind (hc.1 c.2 (by simp)) c.1 p (fun z hz => hc.1 z (by simp [hz])) ha rfl x h1 hx hr with ⟨k1, k2⟩ | k1 | ⟨i, k1, k2, k3⟩
      · refine ⟨[x + 1], by simp, fun z hz i hi y' hy => ?_, fun a ha b hb _ _ _ => by simp at ha hb; rw [ha, hb]⟩
        simp at hz
        subst hz
        simp [isR, hi] at k1
        simp [In.succ, k1] at hy
      · rw [k1]
        exact ⟨entry (endC p c) r, entry_head _ _, hen.1, hen.2⟩
      · refine ⟨(x + 1) :: entry (endC p c) r, by simp, fun z hz j hj y' hy => ?_, fun a ha b hb e e1 e2 => ?_⟩
        · rcases List.mem_cons.1 hz with rfl | hz
          · rw [k1] at hj
            cases hj
            simp [In.succ, k2, k3] at hy
            subst hy
            exact List.mem_cons_of_mem _ (entry_head _ _)
          · exact List.mem_cons_of_mem _ (hen.1 z hz j hj y' hy)
        · have hno : ∀ e, into l e (x + 1) = false := fun e => by simp [into, k1, k2]
          rcases List.mem_cons.1 ha with rfl | ha
          · rw [hno] at e1; cases e1
          · rcases List.mem_cons.1 hb with rfl | hb
            · rw [hno] at e2; cases e2
            · exact hen.2 a ha b hb e e1 e2
    · refine fcode_det r (endC p c) (fun z hz => hA z (by simp [hz])) hb x (by omega) ?_ hr
      have := fcode_len r p c
      have := endC_eq (endC p c) p c
      omega
/-- A word of such classes: few states. -/
theorem fold_few {r : List (List Int × Int)} (hA : ∀ c ∈ r, Apart c) (hs : Sound (fcode 0 r ++ [In.fin])) (h9 : (fcode 0 r).length ≤ 9000) : ¬ Many (fcode 0 r ++ [In.fin]) := by
  have hh : Holds (fcode 0 r ++ [In.fin]) 0 (fcode 0 r ++ [In.fin]) := fun k i hk => by rw [Nat.zero_add]; exact hk
  refine det_few hs (by simp) (fun y hy => ?_) (by simp; omega)
  rcases hy with rfl | ⟨x, hx, rfl⟩
  · obtain ⟨h1, h2⟩ := entry_ok r 0 hA hh
    exact ⟨_, entry_head 0 r, h1, h2⟩
  · have hxl : x < (fcode 0 r).length := by
      rcases Nat.lt_or_ge x (fcode 0 r).length with h | h
      · exact h
      · exfalso
        unfold isR at hx
        rw [List.getElem?_append_right h] at hx
        rcases Nat.eq_zero_or_pos (x - (fcode 0 r).length) with h0 | h0
        · rw [h0] at hx; simp [In.fin] at hx
        · rw [List.getElem?_eq_none (by simp; omega)] at hx; cases hx
    exact fcode_det r 0 hA hh x (by omega) (by omega) hx
end Go.Rg
/-! compileClass at a class of single letters: its code (printed by tools/gen_f3.py out of RgW6). -/
namespace Go.Proofs.YtnpchkohfomagaaDoor.Rgw
open Go.ChangeShapes Go.WideShapes Go.ChangeAt Go.RowKit Go.Trav Go.Rg Go.Proofs.YtnpchkohfomagaaDoor.Seq Go.Utf Go.Proofs.YtnpchkohfomagaaDoor.Sparse
set_option linter.unusedVariables false
set_option linter.unusedSimpArgs false
set_option maxRecDepth 100000
theorem rngC_one {x : Int} (hx : Let x) {p : Nat} {c : List In} (h : RngC x x p c) : c = seqIns (x, x) := by
  obtain ⟨init, q, hd, hc⟩ := h
  have h1 := done_one hx hd
  have hi : init = [] := by
    have := congrArg List.length h1
    simp at this
    exact this
  subst hi
  simp at h1
  subst h1
  simpa [segs, plen] using hc
theorem segs_cs : ∀ {P Q : List Pc}, P.map (·.c) = Q.map (·.c) → plen P = plen Q ∧ ∀ (E q : Nat), segs E q P = segs E q Q
  | [], [], _ => ⟨rfl, fun _ _ => rfl⟩
  | [], _ :: _, h => by simp at h
  | _ :: _, [], h => by simp at h
  | x :: P, y :: Q, h => by
    simp only [List.map_cons, List.cons.injEq] at h
    obtain ⟨h1, h2⟩ := h
    obtain ⟨k1, k2⟩ := segs_cs h2
    exact ⟨by rw [plen_cons, plen_cons, k1, h1], fun E q => by rw [segs, segs, seg, seg, h1, k2]⟩
set_option maxHeartbeats 8000000 in
theorem class_f (base C gs ge tb M m : Nat) (qv sv rv : Value) (rs : List Int) (l : List In) (w : World) (hM : CI w base C gs ge qv sv l) (hG : Glob w) (hGb : 8 < base ∧ 9 < base) (hT : CC w tb 4 rv) (hR : RR w rv rs)
    (hn : rs.length = M + 2) (hMm : M = 2 * m) (hm : m ≤ 30) (hok : ∀ q ∈ prs rs, Let q.1 ∧ Let q.2 ∧ q.1 ≤ q.2) (hl : l.length + 300000000 ≤ 50000000000) (hsg : ∀ q ∈ prs rs, q.1 = q.2) :
    Calls Tryd.prog 75 #[.pointer (some ⟨C, 0, none⟩), .pointer (some ⟨tb, 0, none⟩)] w fun e w' => e = .returned .nilIface ∧ (∃ qv' sv' c, CI w' base C gs ge qv' sv' (l ++ c) ∧ Ok (Cls rs) (((prs rs).map fun q => rngN q.2).sum) (((prs rs).map fun q => rngZ q.2 + 2).sum) l.length c ∧ ∃ xs last, prs rs = (xs ++ [last]).map (fun x => (x, x)) ∧ c = rowsC (endC l.length (xs, last)) l.length (xs, last)) ∧ Mod (TF cA base w) w w' := by
  have hpl := prs_len rs (m + 1) (by omega)
  obtain ⟨rb, ro, rcap, _, e0, _, _⟩ := Reads.one rV hR.rd (k := 0) (by omega)
  subst e0
  rw [hn] at hT
  have hget : ∀ k, k < m + 1 → ∃ a b, (prs rs)[k]? = some (a, b) ∧ rs[2 * k]? = some a ∧ rs[2 * k + 1]? = some b := fun k hk => by
    have h1 : rs[2 * k]? = some rs[2 * k] := List.getElem?_eq_getElem (by omega)
    have h2 : rs[2 * k + 1]? = some rs[2 * k + 1] := List.getElem?_eq_getElem (by omega)
    exact ⟨_, _, prs_at rs k _ _ h1 h2, h1, h2⟩
  have hcell : ∀ W : World, RR W (.slice (some ⟨rb, ro, none⟩) rs.length rcap) rs → ∀ (j : Nat) x, rs[j]? = some x → W.cell? ⟨rb, ro + j, none⟩ = some (.int .i32 x) := fun W h j x hx => by
    obtain ⟨b', o', _, y, e, hy, hc⟩ := Reads.one rV h.rd (List.getElem?_eq_some_iff.mp hx).1
    cases e
    rw [hx] at hy; cases hy
    exact hc
  have HOK := Lib.hid hok
  have HSG := Lib.hid hsg
  have HGT := Lib.hid hget
  have HCL := Lib.hid hcell
  have HR := Lib.hid hR
  have HT := Lib.hid hT
  have HN := Lib.hid (And.intro hn (And.intro hMm hpl))
  have hmk := fun W => make_uints M (by omega) W
  have hwM : IntKind.i64.wrap (M : Int) = (M : Int) := IntWalk.i64_in _ (by omega)
  have c4 := hT.cl
  have HM0 := Lib.hid hM
  have HG := Lib.hid hG
  have hM60 : M ≤ 60 := by omega
  have hbase := hM.base_le
  clear hok hget hcell hR hT hn hMm hpl hM hG hsg
  go_enter Tryd.func75, Tryd.ntmps75
  go_wp2_with fail
  have hwb : Below w.heap.size w (w.alloc (.cells (madeCells #[.int .u64 0] M) 54)) := (Below.refl _ _).alloc (Nat.le_refl _) _
  go_loopw [4, 5, 6, 7, 8, 9, 10, 11, 12] (fun ev jv ix _ _ _ _ _ _ wr => ∃ (k i : Nat) (P : List Pc) (q1 s1 : Value), ev = .nilIface ∧ ix = .int .i64 (i : Int) ∧ Hid (i = 2 * k) ∧ k ≤ m ∧ Hid (CI wr base C gs ge q1 s1 (l ++ segs 0 l.length P)) ∧ Hid (Cps l.length ((prs rs).take k) P ∧ plen P ≤ k * 7000002 ∧ ∀ (j : Nat) (z : Pc) (x : Int), P[j]? = some z → (prs rs)[j]? = some (x, x) → z.c = seqIns (x, x)) ∧ Hid (wr.ownsRow w.heap.size 54 1 jv k ((jpos l.length P).map uV)) ∧ Hid (Mod (TF cA base w) w wr)) (fun _ _ ix _ _ _ _ _ _ _ => M - (intOf ix).toNat)
  case atStart => exact ⟨0, 0, [], qv, sv, rfl, rfl, Lib.hid rfl, Nat.zero_le _, Lib.hid (by simpa [segs] using HM0.out.below hwb), Lib.hid ⟨by simpa using cps_nil l.length, by simp [plen], fun j z x h => by simp at h⟩, Lib.hid (by simpa [jpos] using own_made_uints M w.heap.size (by omega) w (Nat.le_refl _)), Lib.hid (Mod.of_below hwb)⟩
  case round =>
    obtain ⟨k, i, P, q1, s1, rfl, rfl, HIK, hk, HC, HP, HJ, HW⟩ := hrel
    have hik := HIK.out
    have hT2 := HT.out.mod HW.out
    have hR2 := HR.out.mod HW.out
    have c4r := hT2.cl
    have hMm := HN.out.2.1
    by_cases hlt : k < m
    · obtain ⟨a, b, hab, ha, hb⟩ := HGT.out k (by omega)
      have ca := HCL.out _ hR2 _ _ ha
      have cb := HCL.out _ hR2 _ _ hb
      rw [← hik] at ca cb
      have hpr := HOK.out (a, b) (List.mem_of_getElem? hab)
      have hiM : (i : Int) < (M : Int) := by omega
      have hi0 : (0 : Int) ≤ (i : Int) := by omega
      have hi1 : (i : Int) < (M : Int) + 2 := by omega
      have hi2 : (i : Int) + 1 < (M : Int) + 2 := by omega
      have hw1 : IntKind.i64.wrap ((i : Int) + 1) = (i : Int) + 1 := IntWalk.i64_in _ (by omega)
      have hw2 : IntKind.i64.wrap ((i : Int) + 2) = (i : Int) + 2 := IntWalk.i64_in _ (by omega)
      have hpl := HP.out.2.1
      obtain ⟨p0, hp0⟩ : ∃ p0, (l ++ segs 0 l.length P).length = p0 := ⟨_, rfl⟩
      obtain ⟨p1, hp1⟩ : ∃ p1, p1 = p0 + 1 := ⟨_, rfl⟩
      have e0 : p0 = l.length + plen P := by rw [← hp0, List.length_append, segs_len]
      have e1 : (l ++ segs 0 l.length P ++ [In.spl 0 0]).length = p1 := by rw [List.length_append, hp0, hp1]; rfl
      have hb0 : p0 ≤ l.length + 210000060 := by omega
      have HPS := Lib.hid (And.intro hp0 (And.intro hp1 (And.intro e0 (And.intro e1 (And.intro hab (And.intro hpr hik))))))
      have HT2 := Lib.hid hT2
      have HR2 := Lib.hid hR2
      clear hab ha hb hpr hpl hp0 hp1 e0 e1 hT2 hR2 hMm hik
      go_wp2_with fail
      refine (split_at HC.out HPS.out.1 (by have := HPS.out.1; omega)).mono ?_
      rintro e w1 ⟨rfl, hC1, hm1⟩
      have HC1 := Lib.hid hC1
      have HM1 := Lib.hid (TF.trans HW.out (TF.mono hm1 cE_cA))
      have HMa := Lib.hid (TF.mono hm1 cE_cA)
      clear hC1 hm1
      go_wp2_with fail
      refine (top_at HC1.out HPS.out.2.2.2.1).mono ?_
      rintro e w1' ⟨rfl, rfl⟩
      go_wp2_with fail
      refine (crange_ci base C gs ge _ _ a b _ _ HC1.out (glob_tf HG.out HM1.out hGb) hGb HPS.out.2.2.2.2.2.1.1 HPS.out.2.2.2.2.2.1.2.1 HPS.out.2.2.2.2.2.1.2.2 (by have := HPS.out.2.2.2.1; have := HPS.out.2.1; omega)).mono ?_
      rintro e w2 ⟨rfl, ⟨q2, s2, c, hC2, hok2, hrc2⟩, hm2⟩
      have hcl := hok2.len
      have hrz := rngZ_le b
      obtain ⟨p2, hp2⟩ : ∃ p2, p2 = p1 + c.length := ⟨_, rfl⟩
      obtain ⟨p3, hp3⟩ : ∃ p3, p3 = p2 + 1 := ⟨_, rfl⟩
      have e2 : (l ++ segs 0 l.length P ++ [In.spl 0 0] ++ c).length = p2 := by rw [List.length_append, HPS.out.2.2.2.1, hp2]
      have e3 : (l ++ segs 0 l.length P ++ [In.spl 0 0] ++ c ++ [In.jmp 0]).length = p3 := by rw [List.length_append, e2, hp3]; rfl
      have hb2 : p2 ≤ 49990000000 := by have := HPS.out.2.1; omega
      have HPT := Lib.hid (And.intro hp2 (And.intro hp3 (And.intro e2 (And.intro e3 (And.intro hok2 hcl)))))
      have HC2 := Lib.hid hC2
      have HM2 := Lib.hid (TF.trans HM1.out hm2)
      have HMb := Lib.hid (TF.trans HMa.out hm2)
      have HRC := Lib.hid hrc2
      clear hC2 hm2 hok2 hrc2 hcl hrz hp2 hp3 e2 e3 HC1 HM1 HMa
      go_wp2_with fail
      refine (jump_at HC2.out HPT.out.2.2.1 (by have := HPT.out.2.2.1; omega)).mono ?_
      rintro e w3 ⟨rfl, hC3, hm3⟩
      have hmA3 := TF.mono hm3 cE_cA
      have hJ3 := own_tf HJ.out (TF.trans HMb.out hmA3) (by decide)
      have hm03 := TF.trans HM2.out hmA3
      have hb3 : w.heap.size ≤ w3.heap.size := hm03.size
      have HC3 := Lib.hid hC3
      have HM3 := Lib.hid hm03
      have HJ3 := Lib.hid hJ3
      clear hC3 hm3 hm03 hmA3 hJ3 HC2 HM2 HMb
      go_wp2_with (at_builtin; (refine wpList_append_one rfl (.tmp 68) (.tmp 71) 116 rfl w.heap.size 54 _ 1 8 Tryd.underlying116 Tryd.infoUint rfl (by decide) (by decide) _ _ _ rfl HJ3.out #[.int .u64 (p2 : Int)] _ _ rfl (by simp) rfl (by simp [Value.oneCell']) (by omega) hb3 ?_; intro ao5 cap5 w4 hown hgr hat; have hC4 := HC3.out.own HJ3.out hgr; have hm4 : Mod (TF cA base w) w w4 := HM3.out.step ((((Mod.refl (fun k => u5.ownBlock = some k) w3).alloc _).grown hgr fun k hk _ => hk)) (fun i hi e => by have := (HJ3.out.lt i e).1; omega); have HC4 := Lib.hid hC4; have HM4 := Lib.hid hm4; have HJ4 := Lib.hid hown; clear hC4 hm4 hown hgr hat))
      refine (top_at HC4.out HPT.out.2.2.2.1).mono ?_
      rintro e w4' ⟨rfl, rfl⟩
      go_wp2_with fail
      refine (setS_ci base C gs ge p0 p1 p3 _ _ _ (In.spl 0 0) _ HC4.out (by rw [← HPS.out.1]; exact get_seg _ ⟨c, Rng a b, rngN b, rngZ b⟩)).mono ?_
      rintro e w5 ⟨rfl, hC5, hm5⟩
      have HC5 := Lib.hid hC5
      have HM5 := Lib.hid (TF.trans HM4.out (TF.mono hm5 cE_cA))
      have HJ5 := Lib.hid (own_tf HJ4.out hm5 (by decide))
      clear hC5 hm5
      go_wp2_with fail
      refine ⟨?_, ?measure⟩
      (repeat apply Exists.intro)
      refine ⟨?rel, rfl⟩
      case rel =>
        obtain ⟨hp0, hp1, e0, e1, hab, hpr, hik⟩ := HPS.out
        obtain ⟨hp2, hp3, e2, e3, hok2, hcl⟩ := HPT.out
        have hrz := rngZ_le b
        have hsn : (prs rs).take (k + 1) = (prs rs).take k ++ [(a, b)] := take_get hab
        refine ⟨k + 1, i + 2, P ++ [⟨c, Rng a b, rngN b, rngZ b⟩], q2, s2, rfl, by go_num, Lib.hid (by omega), by omega, Lib.hid ?_, Lib.hid ⟨?_, ?_, ?_⟩, Lib.hid ?_, HM5⟩
        · have h9 := HC5.out
          have hx := put_seg' (l ++ segs 0 l.length P) ⟨c, Rng a b, rngN b, rngZ b⟩ p0 p1 p3 hp0 hp1 (by show p3 = p0 + c.length + 2; omega)
          rw [show (⟨c, Rng a b, rngN b, rngZ b⟩ : Pc).c = c from rfl] at hx
          rw [hx] at h9
          rw [segs_snoc, ← List.append_assoc, ← e0]
          exact h9
        · rw [hsn]
          refine HP.out.1.snoc ?_
          rw [← e0, ← hp1, ← e1]
          exact hok2
        · rw [plen_snoc]
          have := HP.out.2.1
          show plen P + (c.length + 2) ≤ _
          omega
        · intro j z x hz hx
          have hPl : P.length = k := by rw [HP.out.1.len, List.length_take]; have := HN.out.2.2; omega
          by_cases hj : j < P.length
          · rw [List.getElem?_append_left hj] at hz
            exact HP.out.2.2 j z x hz hx
          · have hj2 : j = k := by
              have := (List.getElem?_eq_some_iff.1 hz).1
              simp at this; omega
            subst hj2
            rw [List.getElem?_append_right (by omega), show j - P.length = 0 by omega] at hz
            simp at hz
            subst hz
            rw [hab] at hx
            simp only [Option.some.injEq, Prod.mk.injEq] at hx
            obtain ⟨rfl, rfl⟩ := hx
            exact rngC_one hpr.1 HRC.out
        · rw [jpos_snoc, List.map_append]
          have h9 := HJ5.out
          rw [show l.length + plen P + (⟨c, Rng a b, rngN b, rngZ b⟩ : Pc).c.length + 1 = p2 by show l.length + plen P + c.length + 1 = p2; omega]
          exact h9
      case measure => simp [intOf]; omega
    · obtain rfl : m = k := by omega
      obtain ⟨a, b, hab, ha, hb⟩ := HGT.out m (by omega)
      have hpr := HOK.out (a, b) (List.mem_of_getElem? hab)
      have ca := HCL.out _ hR2 _ _ ha
      have cb := HCL.out _ hR2 _ _ hb
      rw [← hMm] at ca cb
      have hiM : i = M := by omega
      have hw1 : IntKind.i64.wrap ((M : Int) + 1) = (M : Int) + 1 := IntWalk.i64_in _ (by omega)
      have hpl := HP.out.2.1
      obtain ⟨p0, hp0⟩ : ∃ p0, (l ++ segs 0 l.length P).length = p0 := ⟨_, rfl⟩
      have e0 : p0 = l.length + plen P := by rw [← hp0, List.length_append, segs_len]
      have hCd := fun n => HC.out.below (below_draws wr n)
      have hWd : ∀ n, Mod (TF cA base w) w (wr.drewN n) := fun n => TF.trans HW.out (Mod.of_below (below_draws wr n))
      have hJd := fun n => ownsRow_below HJ.out (below_draws wr n) (fun k hk => (HJ.out.lt k hk).2)
      obtain ⟨jo, jc, hju⟩ := ownsRow_form HJ.out
      have HPS := Lib.hid (And.intro hp0 (And.intro e0 (And.intro hab (And.intro hpr hpl))))
      have HCD := Lib.hid hCd
      have HWD := Lib.hid hWd
      have HJD := Lib.hid hJd
      subst hiM
      clear hab ha hb hpr hpl hp0 e0 hT2 hR2 hMm hik HIK hCd hWd hJd HC HW HJ
      have hi1 : (i : Int) < (i : Int) + 2 := by omega
      have hi2 : (i : Int) + 1 < (i : Int) + 2 := by omega
      have hi0 : (0 : Int) ≤ (i : Int) := by omega
      have hi3 : (0 : Int) ≤ (i : Int) + 1 := by omega
      go_wp2_with fail
      go_quiet (fail)
      go_wp2_with fail
      go_quiet (fail)
      go_wp2_with fail
      refine (crange_ci base C gs ge _ _ a b _ _ (HCD.out _) (glob_tf HG.out (HWD.out _) hGb) hGb HPS.out.2.2.2.1.1 HPS.out.2.2.2.1.2.1 HPS.out.2.2.2.1.2.2 (by have := HPS.out.1; have := HPS.out.2.1; have := HPS.out.2.2.2.2; omega)).mono ?_
      rintro e w2 ⟨rfl, ⟨q2, s2, c, hC2, hok2, hrc2⟩, hm2⟩
      have hJ2 := own_tf (HJD.out _) hm2 (by decide)
      obtain ⟨p2, hp2⟩ : ∃ p2, p2 = p0 + c.length := ⟨_, rfl⟩
      have e2 : (l ++ segs 0 l.length P ++ c).length = p2 := by rw [List.length_append, HPS.out.1, hp2]
      have hC6 : CI w2 base C gs ge q2 s2 (half l p2 0 P c) := by rw [half_zero]; exact hC2
      have HPT := Lib.hid (And.intro hp2 (And.intro e2 (And.intro hok2 hrc2)))
      clear hrc2
      have HC2 := Lib.hid hC2
      have HC6 := Lib.hid hC6
      have HM2 := Lib.hid (TF.trans (HWD.out _) hm2)
      have HJ2 := Lib.hid hJ2
      clear hC2 hm2 hok2 hp2 e2 hC6 hJ2 HCD HWD HJD
      go_wp2_with fail
      refine (top_at HC2.out HPT.out.2.1).mono ?_
      rintro e w2' ⟨rfl, rfl⟩
      subst hju
      clear HC2 ca cb
      go_wp2_with fail
      go_loopw [18, 115] (fun _ ix wr => ∃ j : Nat, ix = .int .i64 j ∧ j ≤ m ∧ Hid (CI wr base C gs ge q2 s2 (half l p2 j P c)) ∧ Hid (Mod (TF cE base w2) w2 wr)) (fun _ ix _ => m - (intOf ix).toNat)
      case atStart => exact ⟨0, rfl, Nat.zero_le _, HC6, Lib.hid (Mod.refl _ _)⟩
      case round =>
        clear HC6
        rename World => w3
        obtain ⟨j, rfl, hj, HC, HW⟩ := hrel
        have hPl : P.length = m := by rw [HP.out.1.len, List.length_take]; have := HN.out.2.2; omega
        by_cases hlt2 : j < m
        · obtain ⟨x, hx⟩ : ∃ x, P[j]? = some x := ⟨_, List.getElem?_eq_getElem (by omega)⟩
          have hjp := jpos_at P l.length j x hx
          obtain ⟨A, B, hA, hh1, hh2⟩ := half_split l p2 j P c x hx
          have hrr := own_tf HJ2.out HW.out (by decide)
          obtain ⟨jb, joff, jcap, z, ejo, hz, hcz⟩ := Reads.one uV (reads_of_owns hrr) hlt2
          cases ejo
          rw [hjp] at hz
          obtain rfl := Option.some.inj hz
          obtain ⟨pj, hpj⟩ : ∃ pj, pj = l.length + plen (P.take j) + x.c.length + 1 := ⟨_, rfl⟩
          rw [← hpj] at hcz
          have hcz' : w3.cell? ⟨jb, joff + j, none⟩ = some (.int .u64 (pj : Int)) := hcz
          have hset := setJ_ci base C gs ge pj p2 _ _ _ (In.jmp 0) w3 HC.out (by rw [hh1]; exact get_mid _ _ _ _ (by omega))
          have HST := Lib.hid hset
          have HHH := Lib.hid (And.intro hh1 (And.intro hh2 (And.intro hA hpj)))
          clear hx hjp hA hh1 hh2 hrr hz hpj hcz hset hPl
          go_wp2_with fail
          refine HST.out.mono ?_
          rintro e w7 ⟨rfl, hC7, hm7⟩
          have HC7 := Lib.hid hC7
          have HM7 := Lib.hid (TF.trans HW.out hm7)
          clear hC7 hm7 HST
          go_wp2_with fail
          go_roundw
          case rel =>
            refine ⟨j + 1, by go_num, by omega, Lib.hid ?_, HM7⟩
            obtain ⟨hh1, hh2, hA, hpj⟩ := HHH.out
            have h9 := HC7.out
            rw [hh1, set_mid _ _ _ _ _ (by omega)] at h9
            rw [hh2]
            exact h9
          case measure => simp [intOf]; omega
        · obtain rfl : m = j := by omega
          go_wp2_with fail
          go_ret
          obtain ⟨hp2, e2, hok2, hrc2⟩ := HPT.out
          obtain ⟨hp0, e0, hab, hpr, hpl⟩ := HPS.out
          have h9 := HC.out
          rw [← hPl, half_all] at h9
          have hpr2 : prs rs = (prs rs).take m ++ [(a, b)] := by
            have := take_get hab
            rwa [List.take_of_length_le (by have := HN.out.2.2; omega)] at this
          rw [hp0] at hok2
          have hfin := HP.out.1.fin (p := (a, b)) (c := c) (by rw [← e0]; exact hok2) hpr2
          rw [← e0, ← hp2] at hfin
          refine ⟨rfl, ⟨_, _, _, h9, hfin, ?_⟩, TF.trans HM2.out (TF.mono HW.out cE_cA)⟩
          have hsg := HSG.out
          have hab2 := hsg (a, b) (List.mem_of_getElem? hab)
          simp only at hab2
          subst hab2
          have hca := rngC_one hpr.1 hrc2
          subst hca
          refine ⟨((prs rs).take m).map (·.1), a, ?_, ?_⟩
          · conv => lhs; rw [hpr2]
            rw [List.map_append]
            congr 1
            rw [List.map_map]
            conv => lhs; rw [← List.map_id ((prs rs).take m)]
            exact List.map_congr_left fun q hq => Prod.ext rfl (hsg q (List.mem_of_mem_take hq)).symm
          · have hPc : P.map (·.c) = ((((prs rs).take m).map (·.1)).map fun x => seqPc (x, x)).map (·.c) := by
              apply List.ext_getElem?
              intro j
              rw [List.getElem?_map, List.getElem?_map, List.getElem?_map, List.getElem?_map]
              rcases Nat.lt_or_ge j m with hj | hj
              · obtain ⟨z, hz⟩ : ∃ z, P[j]? = some z := ⟨_, List.getElem?_eq_getElem (by omega)⟩
                obtain ⟨q9, hq⟩ : ∃ q9, (prs rs)[j]? = some q9 := ⟨_, List.getElem?_eq_getElem (by have := HN.out.2.2; omega)⟩
                have hqe := hsg _ (List.mem_of_getElem? hq)
                have := HP.out.2.2 j z q9.1 hz (by rw [hq]; congr 1; exact Prod.ext rfl hqe.symm)
                rw [hz, List.getElem?_take_of_lt hj, hq]
                simp only [Option.map_some, this, seqPc]
              · rw [List.getElem?_eq_none (by omega), List.getElem?_take_eq_none (by omega)]
                rfl
            have hsl := segs_cs hPc
            unfold rowsC endC
            rw [hp2, e0, List.map_map]
            have e9 : ((((prs rs).take m).map (·.1)).map (seqPc ∘ fun x => (x, x))) = ((((prs rs).take m).map (·.1)).map fun x => seqPc (x, x)) := rfl
            rw [e9, hsl.1, hsl.2]
end Go.Proofs.YtnpchkohfomagaaDoor.Rgw
/-! The compiler of expressions: a class of single letters, its flags for folding; folded letters, plain. -/
namespace Go.Proofs.YtnpchkohfomagaaDoor.Rgw
open Go.ChangeShapes Go.WideShapes Go.ChangeAt Go.RowKit Go.Trav Go.Rg Go.Proofs.YtnpchkohfomagaaDoor.Seq Go.Utf Go.Proofs.YtnpchkohfomagaaDoor.Sparse
set_option linter.unusedVariables false
set_option linter.unusedSimpArgs false
set_option maxRecDepth 100000
/-- A class of single letters, whatever its fold flag. -/
theorem c_cls_f (base C gs ge tb m : Nat) (qv sv rv : Value) (rs : List Int) (l : List In) (w : World) (fl : Int) (hfl : fl = 0 ∨ fl = 1) (hM : CI w base C gs ge qv sv l) (hG : Glob w) (hGb : 8 < base ∧ 9 < base) (h0 : w.cell? ⟨tb, 0, none⟩ = some (.int .u8 4)) (h1 : w.cell? ⟨tb, 1, none⟩ = some (.int .u16 fl)) (hT : CC w tb 4 rv) (hR : RR w rv rs)
    (hn : rs.length = 2 * m + 2) (hm : m ≤ 30) (hok : ∀ q ∈ prs rs, Let q.1 ∧ Let q.2 ∧ q.1 ≤ q.2) (hl : l.length + 300000000 ≤ 50000000000) (hsg : ∀ q ∈ prs rs, q.1 = q.2) :
    Calls Tryd.prog 64 #[.pointer (some ⟨C, 0, none⟩), .pointer (some ⟨tb, 0, none⟩)] w fun e w' => e = .returned .nilIface ∧ (∃ qv' sv' c, CI w' base C gs ge qv' sv' (l ++ c) ∧ Ok (Cls rs) (((prs rs).map fun q => rngN q.2).sum) (((prs rs).map fun q => rngZ q.2 + 2).sum) l.length c ∧
      ∃ xs last, prs rs = (xs ++ [last]).map (fun x => (x, x)) ∧ c = rowsC (endC l.length (xs, last)) l.length (xs, last)) ∧ Mod (TF cA base w) w w' := by
  have hcl := class_f base C gs ge tb (2 * m) m qv sv rv rs l w hM hG hGb hT hR hn rfl hm hok hl hsg
  have HCL := Lib.hid hcl
  have hb : bits BinOp.and IntKind.u16 fl 32 = 0 := by rcases hfl with rfl | rfl <;> decide
  clear hM hT hR hcl hfl
  go_enter Tryd.func64, Tryd.ntmps64
  go_wp2_with fail
  refine HCL.out.mono ?_
  rintro e w1 ⟨rfl, hx, hm1⟩
  have HX := Lib.hid (And.intro hx hm1)
  clear hx hm1 HCL
  go_wp2_with fail
  go_ret
  exact ⟨rfl, HX.out.1, HX.out.2⟩
end Go.Proofs.YtnpchkohfomagaaDoor.Rgw
/-! The compiler of expressions: folded letters. -/
namespace Go.Proofs.YtnpchkohfomagaaDoor.Rgw
open Go.ChangeShapes Go.WideShapes Go.ChangeAt Go.RowKit Go.Trav Go.Rg Go.Proofs.YtnpchkohfomagaaDoor.Seq Go.Utf Go.Proofs.YtnpchkohfomagaaDoor.Sparse Go.Proofs.YtnpchkohfomagaaDoor.Rgf
set_option linter.unusedVariables false
set_option linter.unusedSimpArgs false
set_option maxRecDepth 100000
/-- The next letter that is folded alike. -/
def fF (x : Int) : Int := if x = 107 then 8490 else if x = 115 then 383 else if x = 8490 then 75 else if x = 383 then 83 else if x ≤ 90 then x + 32 else x - 32
def AZ (x : Int) : Prop := (65 ≤ x ∧ x ≤ 90) ∨ (97 ≤ x ∧ x ≤ 122)
/-- Letters that are folded with one more. -/
def KS (x : Int) : Prop := x = 75 ∨ x = 107 ∨ x = 83 ∨ x = 115
instance (x : Int) : Decidable (KS x) := inferInstanceAs (Decidable (_ ∨ _))
def fO (x : Int) : List Int := if KS x then [x, fF x, fF (fF x)] else [x, fF x]
def dup (l : List Int) : List Int := l.flatMap fun x => [x, x]
theorem prs_dup : ∀ l : List Int, prs (dup l) = l.map fun x => (x, x)
  | [] => rfl
  | x :: l => by
    show prs (x :: x :: dup l) = _
    rw [prs, prs_dup l]; rfl
theorem dup_len : ∀ l : List Int, (dup l).length = 2 * l.length
  | [] => rfl
  | x :: l => by
    show (dup l).length + 1 + 1 = _
    rw [dup_len l, List.length_cons]; omega
theorem dup_snoc (l : List Int) (x : Int) : dup (l ++ [x]) = dup l ++ [x, x] := by unfold dup; rw [List.flatMap_append]; rfl
/-- The tables that folding reads. -/
structure FoldT (w : World) (base : Nat) : Prop where
  asc : ∀ r : Nat, AZ (r : Int) → w.cell? ⟨5, r, none⟩ = some (.int .u16 (fF (r : Int)))
  orb : ∃ (B off n cap : Nat) (F T : Nat → Nat), B < base ∧ w.cell? ⟨6, 0, none⟩ = some (.slice (some ⟨B, off, none⟩) n cap) ∧ n ≤ 1000 ∧
    (∀ k, k < n → w.cell? ⟨B, off + k * 2, none⟩ = some (.int .u16 (F k : Int)) ∧ w.cell? ⟨B, off + k * 2 + 1, none⟩ = some (.int .u16 (T k : Int)) ∧ F k < 65536 ∧ T k < 65536) ∧ (∀ i j, i < j → j < n → F i < F j) ∧ (∃ i, i < n ∧ F i = 8490 ∧ T i = 75) ∧ ∃ i, i < n ∧ F i = 383 ∧ T i = 83
  gb : 5 < base ∧ 6 < base
theorem FoldT.keep {w w' : World} {base : Nat} (h : FoldT w base) (hk : ∀ a v, a.block < base → w.cell? a = some v → w'.cell? a = some v) : FoldT w' base := by
  obtain ⟨h1, ⟨B, off, n, cap, F, T, hB, h2, h3, h4, h5, h6, h7⟩, h8⟩ := h
  exact ⟨fun r hr => hk _ _ h8.1 (h1 r hr), ⟨B, off, n, cap, F, T, hB, hk _ _ h8.2 h2, h3, fun k hk' => ⟨hk _ _ hB (h4 k hk').1, hk _ _ hB (h4 k hk').2.1, (h4 k hk').2.2⟩, h5, h6, h7⟩, h8⟩
theorem FoldT.mod {w w' : World} {base : Nat} {Ts : List TypeId} (h : FoldT w base) (m : Mod (TF Ts base w) w w') : FoldT w' base :=
  h.keep fun a v ha hv => m.cell hv (fun hf => by have := hf.1; omega)
theorem FoldT.below {w w' : World} {base : Nat} (h : FoldT w base) (hb : Below w.heap.size w w') : FoldT w' base :=
  h.keep fun a v _ hv => (Mod.of_below (F := fun _ => False) hb).cell hv (fun x => x)
theorem sfold_any (x : Int) (base : Nat) (w : World) (h : FoldT w base) (hx : AZ x ∨ x = 8490 ∨ x = 383) : Calls Tryd.prog 72 #[.int .i32 x] w fun e w' => e = .returned (.int .i32 (fF x)) ∧ w = w' := by
  obtain ⟨h1, ⟨B, off, n, cap, F, T, hB, h2, h3, h4, h5, ⟨i, i1, i2, i3⟩, j, j1, j2, j3⟩, h8⟩ := h
  rcases hx with hx | rfl | rfl
  · obtain ⟨r, rfl⟩ := Int.eq_ofNat_of_zero_le (show 0 ≤ x by unfold AZ at hx; omega)
    have h9 := h1 r hx
    obtain ⟨v, hv⟩ := Int.eq_ofNat_of_zero_le (show 0 ≤ fF (r : Int) by unfold AZ at hx; unfold fF; split <;> (try split) <;> (try split) <;> (try split) <;> (try split) <;> omega)
    rw [hv] at h9 ⊢
    refine sf_ascii r v w (by unfold AZ at hx; omega) ?_ h9
    have : fF (r : Int) < 65536 := by unfold AZ at hx; unfold fF; split <;> (try split) <;> (try split) <;> (try split) <;> (try split) <;> omega
    omega
  · have := sf_orbit 8490 i n B off cap F T w (by decide) (by decide) h2 h3 h4 h5 i1 i2
    rw [i3] at this
    exact this
  · have := sf_orbit 383 j n B off cap F T w (by decide) (by decide) h2 h3 h4 h5 j1 j2
    rw [j3] at this
    exact this
/-- The letters of a class for folding, the last one apart. -/
def fC (x : Int) : List Int × Int := if KS x then ([x, fF x], fF (fF x)) else ([x], fF x)
theorem fcode_snoc : ∀ (r : List (List Int × Int)) (p : Nat) (c : List Int × Int), fcode p (r ++ [c]) = fcode p r ++ rowsC (endC (p + (fcode p r).length) c) (p + (fcode p r).length) c
  | [], p, c => by simp [fcode]
  | d :: r, p, c => by
    rw [List.cons_append, fcode, fcode_snoc r (endC p d) c, fcode, List.append_assoc, List.length_append]
    have := endC_eq (endC p d) p d
    rw [show p + ((rowsC (endC p d) p d).length + (fcode (endC p d) r).length) = endC p d + (fcode (endC p d) r).length by omega]
/-- The words of folded letters, as classes. -/
def fL (rs : List Int) (s : List Nat) : Prop := CatL (rs.map fun x => Cls (dup (fO x))) s
def fN (rs : List Int) : Nat := (rs.map fun x => (((prs (dup (fO x))).map fun q => rngN q.2).sum)).sum
def fZ (rs : List Int) : Nat := (rs.map fun x => (((prs (dup (fO x))).map fun q => rngZ q.2 + 2).sum)).sum
/-- A class that is being made for a letter: the letters that it has so far. -/
structure NX (x : Int) (acc : List Int) (nb : Nat) (rv : Value) (w wr : World) : Prop where
  bl : Below nb w wr
  blk : wr.heap[nb]? = some (.cells #[.int .u8 4, .int .u16 1, .slice none 0 0, .pointer none, rv, .int .i32 x, .int .i32 x, .int .i64 0, .int .i64 0, .int .i64 0, .string ⟨#[]⟩] 77 (0, 0))
  row : (acc = [x] ∧ rv = .slice (some ⟨nb, 5, none⟩) 2 2) ∨ (1 < acc.length ∧ wr.ownsRow (nb + 1) 21 1 rv (2 * acc.length) ((dup acc).map rV))
theorem NX.put {x r1 : Int} {acc : List Int} {nb : Nat} {rv v' : Value} {w wi w' : World} (h : NX x acc nb rv w wi) (hown : w'.ownsRow (nb + 1) 21 1 v' (2 * (acc ++ [r1]).length) ((dup (acc ++ [r1])).map rV)) (m : Mod (fun k => nb < k) wi w') (h1 : 1 ≤ acc.length) : NX x (acc ++ [r1]) nb v' w (w'.setCell ⟨nb, 4, none⟩ v') := by
  have hlt := block_lt h.blk
  refine ⟨(h.bl.trans (m.toBelow (by omega) fun k _ hk => by omega)).setCell (p := ⟨nb, 4, none⟩) (Nat.le_refl _) _, ?_, .inr ⟨by rw [List.length_append, List.length_singleton]; omega, ?_⟩⟩
  · have := block_set (i := 4) (u := v') (m.heap h.blk (Nat.lt_irrefl _))
    simpa using this
  · exact ownsRow_mod hown ((Mod.refl (fun k => k = nb) w').setCell (p := ⟨nb, 4, none⟩) (fun _ => rfl) _) fun g hg e => by have := (hown.lt g hg).1; omega
theorem NX.mid {x : Int} {acc : List Int} {nb : Nat} {rv : Value} {w wi w' : World} (h : NX x acc nb rv w wi) (m : Mod (fun k => nb < k) wi w') : w'.cell? ⟨nb, 4, none⟩ = some rv ∧ w'.frozen? ⟨nb, 4, none⟩ = false := by
  have := m.heap h.blk (Nat.lt_irrefl _)
  exact ⟨block_cell this rfl, block_free this⟩
def Stg (x : Int) (acc : List Int) (r1 : Int) : Prop := (acc = [x] ∧ r1 = fF x) ∨ (acc = [x, fF x] ∧ r1 = fF (fF x)) ∨ (KS x ∧ acc = [x, fF x, fF (fF x)] ∧ r1 = x)
theorem fF_facts {x : Int} (h : AZ x) : fF x ≠ x ∧ (KS x → fF (fF x) ≠ x ∧ fF (fF x) ≠ fF x ∧ fF (fF (fF x)) = x) ∧ (¬ KS x → fF (fF x) = x) ∧ (AZ (fF x) ∨ fF x = 8490 ∨ fF x = 383) ∧ (AZ (fF (fF x)) ∨ fF (fF x) = 8490 ∨ fF (fF x) = 383) := by
  by_cases hk : KS x
  · unfold KS at hk
    rcases hk with rfl | rfl | rfl | rfl <;> (unfold KS AZ; decide)
  · have hne : x ≠ 75 ∧ x ≠ 107 ∧ x ≠ 83 ∧ x ≠ 115 := by unfold KS at hk; omega
    unfold AZ at h
    rcases h with h | h
    · have e1 : fF x = x + 32 := by unfold fF; rw [if_neg (by omega), if_neg (by omega), if_neg (by omega), if_neg (by omega), if_pos (by omega)]
      have e2 : fF (x + 32) = x := by unfold fF; rw [if_neg (by omega), if_neg (by omega), if_neg (by omega), if_neg (by omega), if_neg (by omega)]; omega
      rw [e1, e2]
      exact ⟨by omega, fun h => absurd h hk, fun _ => rfl, .inl (.inr (by omega)), .inl (.inl h)⟩
    · have e1 : fF x = x - 32 := by unfold fF; rw [if_neg (by omega), if_neg (by omega), if_neg (by omega), if_neg (by omega), if_neg (by omega)]
      have e2 : fF (x - 32) = x := by unfold fF; rw [if_neg (by omega), if_neg (by omega), if_neg (by omega), if_neg (by omega), if_pos (by omega)]; omega
      rw [e1, e2]
      exact ⟨by omega, fun h => absurd h hk, fun _ => rfl, .inl (.inl (by omega)), .inl (.inr h)⟩
theorem own_lower {w : World} {base base' : Nat} {e : TypeId} {size : Nat} {v : Value} {n : Nat} {xs : List Value} (h : w.ownsRow base e size v n xs) (hb : base' ≤ base) : w.ownsRow base' e size v n xs := by
  obtain ⟨h1, h2⟩ := h
  refine ⟨h1, h2.imp id ?_⟩
  rintro ⟨g, cap, cur, hv, hg, r⟩
  exact ⟨g, cap, cur, hv, Nat.le_trans hb hg, r⟩
theorem fO_len (x : Int) : (fO x).length = 2 ∨ (fO x).length = 3 := by unfold fO; split <;> simp
theorem fO_fC (x : Int) : fO x = (fC x).1 ++ [(fC x).2] := by unfold fO fC; split <;> rfl
theorem let_dom {z : Int} (h : AZ z ∨ z = 8490 ∨ z = 383) : Let z := by unfold AZ at h; unfold Let; omega
theorem fO_let {x : Int} (h : AZ x) : ∀ z ∈ fO x, Let z := by
  obtain ⟨_, _, _, h4, h5⟩ := fF_facts h
  intro z hz
  unfold fO at hz
  split at hz
  · simp at hz
    rcases hz with rfl | rfl | rfl
    · exact let_dom (.inl h)
    · exact let_dom h4
    · exact let_dom h5
  · simp at hz
    rcases hz with rfl | rfl
    · exact let_dom (.inl h)
    · exact let_dom h4
theorem fZ_le : ∀ rs : List Int, fZ rs ≤ rs.length * 21000006
  | [] => by simp [fZ]
  | x :: rs => by
    have h1 := fZ_le rs
    have h2 : (((prs (dup (fO x))).map fun q => rngZ q.2 + 2).sum) ≤ 21000006 := by
      rw [prs_dup, List.map_map]
      have : ∀ l : List Int, (l.map ((fun q : Int × Int => rngZ q.2 + 2) ∘ fun x => (x, x))).sum ≤ l.length * 7000002 := by
        intro l
        induction l with
        | nil => simp
        | cons y l ih =>
          have := (rngZ_le y).2
          simp only [List.map_cons, List.sum_cons, List.length_cons, Function.comp]
          omega
      have h3 := this (fO x)
      rcases fO_len x with h | h <;> omega
    have e : fZ (x :: rs) = (((prs (dup (fO x))).map fun q => rngZ q.2 + 2).sum) + fZ rs := by simp [fZ]
    rw [e, List.length_cons]
    omega
theorem fcode_le : ∀ (rs : List Int) (p : Nat), (∀ x ∈ rs, AZ x) → (fcode p (rs.map fC)).length ≤ rs.length * 16
  | [], p, _ => by simp [fcode]
  | x :: rs, p, hA => by
    have h1 := fcode_le rs (endC p (fC x)) fun y hy => hA y (by simp [hy])
    have hl := fO_let (hA x (by simp))
    rw [fO_fC] at hl
    have h2 : plen (((fC x).1.map fun x => (x, x)).map seqPc) ≤ ((fC x).1.map fun x => (x, x)).length * 6 := Go.Proofs.YtnpchkohfomagaaDoor.Rgw.plen_seq _ fun q hq => by
      obtain ⟨z, hz, rfl⟩ := List.mem_map.1 hq
      exact let_good (hl z (by simp [hz]))
    have h3 : (seqIns ((fC x).2, (fC x).2)).length ≤ 4 := by
      rw [seqIns_len' (hl (fC x).2 (by simp))]; unfold wid; split <;> (try split) <;> (try split) <;> omega
    have h4 : (fC x).1.length ≤ 2 := by unfold fC; split <;> simp
    rw [List.length_map] at h2
    rw [List.map_cons, fcode, List.length_append, rowsC_len, List.length_cons]
    omega
theorem fold_step {rs : List Int} {k : Nat} {x : Int} {l c c' : List In} (hx : rs[k]? = some x) (hO : Ok (fL (rs.take k)) (fN (rs.take k)) (fZ (rs.take k)) l.length c ∧ c = fcode l.length ((rs.take k).map fC))
    (hok : Ok (Cls (dup (fO x))) (((prs (dup (fO x))).map fun q => rngN q.2).sum) (((prs (dup (fO x))).map fun q => rngZ q.2 + 2).sum) (l ++ c).length c') {xs : List Int} {last : Int} (hp : prs (dup (fO x)) = (xs ++ [last]).map (fun x => (x, x))) (hc : c' = rowsC (endC (l ++ c).length (xs, last)) (l ++ c).length (xs, last)) :
    Ok (fL (rs.take (k + 1))) (fN (rs.take (k + 1))) (fZ (rs.take (k + 1))) l.length (c ++ c') ∧ c ++ c' = fcode l.length ((rs.take (k + 1)).map fC) := by
  have ht : rs.take (k + 1) = rs.take k ++ [x] := by rw [List.take_add_one, hx]; rfl
  rw [List.length_append] at hok hc
  constructor
  · have h := (hO.1.cat hok).congr (M := fL (rs.take (k + 1))) fun s => by
      unfold fL
      rw [ht, List.map_append]
      exact (catL_snoc _ _ s).symm
    have e1 : fN (rs.take (k + 1)) = fN (rs.take k) + (((prs (dup (fO x))).map fun q => rngN q.2).sum) := by unfold fN; rw [ht, List.map_append, List.sum_append]; simp
    have e2 : fZ (rs.take (k + 1)) = fZ (rs.take k) + (((prs (dup (fO x))).map fun q => rngZ q.2 + 2).sum) := by unfold fZ; rw [ht, List.map_append, List.sum_append]; simp
    rw [e1, e2]
    exact h
  · rw [prs_dup, fO_fC] at hp
    have h2 := (List.map_inj_right (fun a b h => (Prod.mk.inj h).1)).1 hp
    have h3 := List.append_inj' h2 rfl
    obtain ⟨h4, h5⟩ := h3
    simp only [List.cons.injEq, and_true] at h5
    rw [ht, List.map_append, List.map_singleton, fcode_snoc, ← hO.2, hc, ← h4, ← h5]
section
variable {base C gs ge : Nat} {ad : Nat → Addr} {tb : Nat} {l : List In} {qv sv rv : Value} {w : World}
set_option maxHeartbeats 8000000 in
theorem c_fold (rs : List Int) (hA : ∀ x ∈ rs, AZ x) (hF : FoldT w base) (hM : CI w base C gs ge qv sv l) (hG : Glob w) (hGb : 8 < base ∧ 9 < base) (h0 : CC w tb 0 (.int .u8 3)) (h1 : CC w tb 1 (.int .u16 1)) (hT : CC w tb 4 rv) (hR : RR w rv rs) (hl : l.length ≤ 1000) (hn6 : rs.length ≤ 10) :
    Calls Tryd.prog 64 #[.pointer (some ⟨C, 0, none⟩), .pointer (some ⟨tb, 0, none⟩)] w fun e w' => e = .returned .nilIface ∧ (∃ q s c, CI w' base C gs ge q s (l ++ c) ∧ Ok (fL rs) (fN rs) (fZ rs) l.length c ∧ c = fcode l.length (rs.map fC)) ∧ Mod (TF cA base w) w w' := by
  obtain ⟨ra, rcap, rfl⟩ := hR.rd.form
  have c0 := h0.cl
  have c1 := h1.cl
  have c4 := hT.cl
  obtain ⟨n, hn⟩ : ∃ n, rs.length = n := ⟨_, rfl⟩
  rw [hn] at hR c4 hn6
  have h11 : bits BinOp.and IntKind.u16 1 1 = 1 := by decide
  have h12 : bits BinOp.and IntKind.u16 1 32 = 0 := by decide
  have hbase := hM.base_le
  have HA := Lib.hid hA
  have HF := Lib.hid hF
  have HM0 := Lib.hid hM
  have HG := Lib.hid hG
  have H1 := Lib.hid h1
  have HR := Lib.hid hR
  have HN := Lib.hid hn
  clear hA hF hM hG h0 h1 hT hR hn
  go_enter Tryd.func64, Tryd.ntmps64
  go_wp2_with fail
  go_loopw [4, 6, 7, 8, 10, 82] (fun ev _ _ _ _ ix wr => ∃ (k : Nat) (c : List In) (q1 s1 : Value), ev = .nilIface ∧ ix = .int .i64 (k : Int) ∧ k ≤ n ∧ Hid (CI wr base C gs ge q1 s1 (l ++ c)) ∧ Hid (Ok (fL (rs.take k)) (fN (rs.take k)) (fZ (rs.take k)) l.length c ∧ c = fcode l.length ((rs.take k).map fC)) ∧ Hid (Mod (TF cA base w) w wr)) (fun _ _ _ _ _ ix _ => n - (intOf ix).toNat)
  case atStart => exact ⟨0, [], qv, sv, rfl, rfl, Nat.zero_le _, Lib.hid (by simpa using HM0.out), Lib.hid ⟨(Ok.empty l.length).congr fun s => by simp [fL, CatL], rfl⟩, Lib.hid (Mod.refl _ _)⟩
  case round =>
    obtain ⟨k, c, q1', s1, rfl, rfl, hk, HC, HO, HW⟩ := hrel
    by_cases hlt : k < n
    · obtain ⟨x, hx⟩ : ∃ x, rs[k]? = some x := ⟨_, List.getElem?_eq_getElem (by have := HN.out; omega)⟩
      have hxa := HA.out x (List.mem_of_getElem? hx)
      have hR2 := HR.out.mod HW.out
      obtain ⟨rb, ro, rcap', y, eR, hy, hcx⟩ := Reads.one rV hR2.rd (k := k) (by have := HN.out; omega)
      rw [hx] at hy
      obtain rfl := Option.some.inj hy
      injection eR with e1 e2 e3
      subst e1 e3
      clear hy e2
      have hcx' : wr.cell? ⟨rb, ro + k, none⟩ = some (.int .i32 x) := hcx
      have c1r := (H1.out.mod HW.out).cl
      have hfw := HF.out.mod HW.out
      have hsf := fun (W : World) (hb : Below wr.heap.size wr W) (z : Int) (hz : AZ z ∨ z = 8490 ∨ z = 383) => sfold_any z base W (hfw.below hb) hz
      have HSF := Lib.hid hsf
      have HX := Lib.hid (And.intro hx hxa)
      have t0 : (0 : Int) ≤ (k : Int) := by omega
      have t1 : (k : Int) < (n : Int) := by omega
      clear hcx hx hxa hR2 hfw hsf
      go_wp2_with fail
      obtain ⟨W3, hW3⟩ : ∃ W3, W3 = wr.alloc (.cells #[.int .u8 4, .int .u16 1, .slice none 0 0, .pointer none, .slice (some ⟨wr.heap.size, 5, none⟩) 2 2, .int .i32 x, .int .i32 x, .int .i64 0, .int .i64 0, .int .i64 0, .string ⟨#[]⟩] 77) := ⟨_, rfl⟩
      have hb3 : Below wr.heap.size wr W3 := by rw [hW3]; exact (Below.refl _ _).alloc (Nat.le_refl _) _
      have hnx : NX x [x] wr.heap.size (.slice (some ⟨wr.heap.size, 5, none⟩) 2 2) wr W3 := ⟨hb3, by rw [hW3]; exact heap_alloc_new _ _, .inl ⟨rfl, rfl⟩⟩
      have HNX := Lib.hid hnx
      have hs1 := HSF.out W3 hb3 x (.inl HX.out.2)
      rw [← hW3]
      refine hs1.mono ?_
      clear hs1
      rintro e w4 ⟨rfl, rfl⟩
      obtain ⟨nb, hnb⟩ : ∃ nb, nb = wr.heap.size := ⟨_, rfl⟩
      rw [← hnb] at HNX hnx hb3 ⊢
      have HNB := Lib.hid hnb
      clear hnx hb3 hW3 hnb
      go_wp2_with fail
      go_loopw [8] (fun v wi => ∃ (acc : List Int) (rv2 : Value) (r1 : Int), v = .int .i32 r1 ∧ Hid (NX x acc nb rv2 wr wi ∧ Stg x acc r1)) (fun v _ => if intOf v = fF x then 3 else if intOf v = x then 1 else 2)
      case atStart => exact ⟨[x], _, _, rfl, Lib.hid ⟨HNX.out, .inl ⟨rfl, rfl⟩⟩⟩
      case round =>
        obtain ⟨acc, rv2, r1, rfl, HI⟩ := hrel
        rename World => wi
        have hfx := fF_facts HX.out.2
        have HFX := Lib.hid hfx
        clear hfx
        have k4 : wi.cell? ⟨nb, 4, none⟩ = some rv2 := block_cell HI.out.1.blk rfl
        have kf : wi.frozen? ⟨nb, 4, none⟩ = false := block_free HI.out.1.blk
        have hnbl := block_lt HI.out.1.blk
        have hbi : Below wr.heap.size wr wi := by rw [← HNB.out]; exact HI.out.1.bl
        have HBI := Lib.hid hbi
        clear hbi
        by_cases hend : r1 = x
        · have q1 : ((r1 : Int) != x) = false := by simp [hend]
          have hacc : acc = fO x := by
            obtain ⟨f1, f2, f3, _⟩ := HFX.out
            unfold fO
            rcases HI.out.2 with ⟨_, h⟩ | ⟨h, h'⟩ | ⟨h, h', _⟩
            · exact absurd (h.symm.trans hend) f1
            · have hk : ¬ KS x := fun hk => (f2 hk).1 (h'.symm.trans hend)
              rw [if_neg hk]; exact h
            · rw [if_pos h]; exact h'
          have hol := HO.out.1.len
          have hfz := fZ_le (rs.take k)
          have htk := List.length_take_le k rs
          have hrow : RR wi rv2 (dup (fO x)) := by
            rcases HI.out.1.row with ⟨h, _⟩ | ⟨_, h⟩
            · exfalso
              have h1 := fO_len x
              rw [← hacc, h] at h1
              simp at h1
            · rw [hacc] at h
              refine ⟨?_, fun g hg => ⟨21, by decide, ty_own h hg⟩⟩
              have := reads_of_owns h
              rwa [← dup_len] at this
          obtain ⟨m, hm⟩ : ∃ m, (fO x).length = m + 1 := ⟨(fO x).length - 1, by have := fO_len x; omega⟩
          have hcls := c_cls_f base C gs ge nb m q1' s1 rv2 (dup (fO x)) (l ++ c) wi 1 (.inr rfl) (HC.out.below HBI.out) ((glob_tf HG.out HW.out hGb).below HBI.out (by have := hGb.1; have := HW.out.size; omega) (by have := hGb.2; have := HW.out.size; omega)) hGb (block_cell HI.out.1.blk rfl) (block_cell HI.out.1.blk rfl) ⟨k4, 77, by decide, _, _, HI.out.1.blk⟩ hrow (by rw [dup_len, hm]; omega) (by have := fO_len x; omega)
            (fun q hq => by
              rw [prs_dup] at hq
              obtain ⟨z, hz, rfl⟩ := List.mem_map.1 hq
              have := fO_let HX.out.2 z hz
              exact ⟨this, this, Int.le_refl _⟩) (by rw [List.length_append]; omega) (fun q hq => by
              rw [prs_dup] at hq
              obtain ⟨z, hz, rfl⟩ := List.mem_map.1 hq
              rfl)
          have HCLS := Lib.hid hcls
          clear hcls hrow hacc hol hfz htk hm
          go_wp2_with fail
          refine HCLS.out.mono ?_
          rintro e w5 ⟨rfl, ⟨q2, s2, c', hC2, hok2, xs, last, hp2, hc2⟩, hm2⟩
          have H5 := Lib.hid (And.intro hC2 (And.intro (fold_step HX.out.1 HO.out hok2 hp2 hc2) (TF.trans (TF.trans HW.out (Mod.of_below HBI.out)) hm2)))
          clear hC2 hok2 hp2 hc2 hm2
          go_wp2_with fail
          go_roundw
          case rel => exact ⟨k + 1, c ++ c', q2, s2, rfl, by go_num, hlt, Lib.hid (by have := H5.out.1; rwa [List.append_assoc] at this), Lib.hid H5.out.2.1, Lib.hid H5.out.2.2⟩
          case measure => simp [intOf]; omega
        · have q1 : ((r1 : Int) != x) = true := by simp [hend]
          rcases HI.out.2 with ⟨ha, hr1⟩ | ⟨ha, hr1⟩ | ⟨_, _, h⟩
          · subst ha
            obtain rfl : rv2 = .slice (some ⟨nb, 5, none⟩) 2 2 := by
              rcases HI.out.1.row with ⟨_, h⟩ | ⟨h, _⟩
              · exact h
              · simp at h
            obtain ⟨i9, hi9, hz0, hz1, hz2⟩ := info_parts info_i32
            have hdom : AZ r1 ∨ r1 = 8490 ∨ r1 = 383 := by rw [hr1]; exact HFX.out.2.2.2.1
            have HD := Lib.hid (And.intro hdom hr1)
            clear hdom hr1
            go_wp2_with (first
              | (at_builtin
                 refine wpList_append_grows _ rfl (.tmp 112) (.tmp 115) 32 rfl 21 i9 (.int .i32 0) 1 4 Tryd.underlying32 hi9 hz0 hz1 hz2 rfl (by decide) (some ⟨nb, 5, none⟩) 2 2 [.int .i32 x, .int .i32 x] rfl (fun h => by cases h) rfl (fun b hb j u hj => ?_) ⟨wi.heap.size, 0, none⟩ 2 2 [.int .i32 r1, .int .i32 r1] rfl rfl (fun j u hj => ?_) (by simp [Value.oneCell']) (by omega) (by decide) (by decide) ?_
                 · cases hb
                   have hblk := block_alloc (o' := .cells #[.int .i32 r1, .int .i32 r1] 21) HI.out.1.blk
                   match j with
                   | 0 => simp at hj; subst hj; exact block_cell hblk rfl
                   | 1 => simp at hj; subst hj; exact block_cell hblk rfl
                   | j + 2 => simp at hj
                 · match j with
                   | 0 => simp at hj; subst hj; exact block_cell (heap_alloc_new wi _) rfl
                   | 1 => simp at hj; subst hj; exact block_cell (heap_alloc_new wi _) rfl
                   | j + 2 => simp at hj
                 intro v' w' hown hgr
                 obtain ⟨o4, p4, rfl⟩ := ownsRow_form hown
                 have m : Mod (fun k => nb < k) wi w' := ((Mod.refl (fun k => nb < k) wi).alloc _).grown hgr (fun k hk _ => by cases hk)
                 obtain ⟨k4w, kfw⟩ := HI.out.1.mid m
                 have hnx2 := HI.out.1.put (r1 := r1) (own_lower hown (by simp; omega)) m (by simp)
                 have HNX2 := Lib.hid hnx2
                 clear hown hgr m hnx2 k4 kf))
            have hb4 := HNX2.out.bl
            rw [HNB.out] at hb4
            have hsf4 := HSF.out _ hb4 r1 HD.out.1
            have HS4 := Lib.hid hsf4
            clear hb4 hsf4
            rw [← HNB.out] at HS4
            refine HS4.out.mono ?_
            rintro e w6 ⟨rfl, rfl⟩
            go_wp2_with fail
            go_roundw
            case rel => exact ⟨[x] ++ [r1], _, fF r1, rfl, Lib.hid ⟨HNX2.out, by rw [HD.out.2]; exact .inr (.inl ⟨rfl, rfl⟩)⟩⟩
            case measure =>
              obtain ⟨f1, f2, f3, _⟩ := HFX.out
              show (if fF r1 = fF x then 3 else if fF r1 = x then 1 else 2) < (if r1 = fF x then 3 else if r1 = x then 1 else 2)
              rw [HD.out.2, if_pos rfl]
              by_cases hk : KS x
              · rw [if_neg (f2 hk).2.1]; split <;> omega
              · rw [f3 hk, if_neg (fun h => f1 h.symm)]; split <;> omega
          · subst ha
            obtain ⟨_, hown0⟩ : 1 < [x, fF x].length ∧ wi.ownsRow (nb + 1) 21 1 rv2 (2 * [x, fF x].length) ((dup [x, fF x]).map rV) := by
              rcases HI.out.1.row with ⟨h, _⟩ | h
              · simp at h
              · exact h
            obtain ⟨o2, p2, rfl⟩ := ownsRow_form hown0
            have hks : KS x := by
              by_cases hk : KS x
              · exact hk
              · exact absurd (hr1.trans (HFX.out.2.2.1 hk)) hend
            have hdom : AZ r1 ∨ r1 = 8490 ∨ r1 = 383 := by rw [hr1]; exact HFX.out.2.2.2.2
            have hrd : Reads (wi.alloc (.cells #[.int .i32 r1, .int .i32 r1] 21)) (.slice (some ⟨wi.heap.size, 0, none⟩) 2 2) 2 1 [.int .i32 r1, .int .i32 r1] := by
              refine ⟨_, 2, rfl, Nat.le_refl _, by unfold maxLen; omega, fun h => (by cases h), rfl, fun _ => ⟨_, _, rfl, fun j u hj => ?_⟩⟩
              match j with
              | 0 => simp at hj; subst hj; exact block_cell (heap_alloc_new wi _) rfl
              | 1 => simp at hj; subst hj; exact block_cell (heap_alloc_new wi _) rfl
              | j + 2 => simp at hj
            have HD := Lib.hid (And.intro hdom (And.intro hr1 hks))
            have HO0 := Lib.hid hown0
            have HRD := Lib.hid hrd
            clear hdom hr1 hks hown0 hrd
            go_wp2_with (first
              | (at_builtin
                 refine wpList_append_reads rfl (.tmp 112) (.tmp 115) 32 rfl (nb + 1) 21 (.int .i32 0) 1 4 Tryd.underlying32 info_i32 rfl (by decide) (by decide) (.slice o2 (2 * [x, fF x].length) p2) (2 * [x, fF x].length) ((dup [x, fF x]).map rV) rfl (HO0.out.alloc _) _ 2 [.int .i32 r1, .int .i32 r1] rfl HRD.out (by simp [Value.oneCell']) (by simp) (by simp; omega) ?_
                 intro o4 p4 w' hown hgr hat
                 have m : Mod (fun k => nb < k) wi w' := ((Mod.refl (fun k => nb < k) wi).alloc _).grown hgr (fun k hk _ => by have := (HO0.out.lt k hk).1; omega)
                 obtain ⟨k4w, kfw⟩ := HI.out.1.mid m
                 have hnx2 := HI.out.1.put (r1 := r1) hown m (by simp)
                 have HNX2 := Lib.hid hnx2
                 clear hown hgr hat m hnx2 k4 kf))
            have hb4 := HNX2.out.bl
            rw [HNB.out] at hb4
            have hsf4 := HSF.out _ hb4 r1 HD.out.1
            have HS4 := Lib.hid hsf4
            clear hb4 hsf4
            rw [← HNB.out] at HS4
            refine HS4.out.mono ?_
            rintro e w6 ⟨rfl, rfl⟩
            go_wp2_with fail
            go_roundw
            case rel => exact ⟨[x, fF x] ++ [r1], _, fF r1, rfl, Lib.hid ⟨HNX2.out, .inr (.inr ⟨HD.out.2.2, by rw [HD.out.2.1]; rfl, by rw [HD.out.2.1]; exact (HFX.out.2.1 HD.out.2.2).2.2⟩)⟩⟩
            case measure =>
              obtain ⟨f1, f2, f3, _⟩ := HFX.out
              have hk := HD.out.2.2
              show (if fF r1 = fF x then 3 else if fF r1 = x then 1 else 2) < (if r1 = fF x then 3 else if r1 = x then 1 else 2)
              rw [HD.out.2.1, if_neg (f2 hk).2.1, if_neg (f2 hk).1, (f2 hk).2.2, if_neg (fun h => f1 h.symm), if_pos rfl]
              omega
          · exact absurd h hend
    · obtain rfl : k = n := by omega
      have htk : rs.take k = rs := List.take_of_length_le (by have := HN.out; omega)
      have hO1 := HO.out
      rw [htk] at hO1
      have hcl : (l ++ c).length ≤ 262144 := by
        have h1 := fcode_le rs l.length HA.out
        have h2 := HN.out
        rw [List.length_append, hO1.2]
        omega
      have hck := check_ok base C gs ge q1' s1 (l ++ c) wr HC.out hcl
      have HCK := Lib.hid hck
      have HO1 := Lib.hid hO1
      clear hck hcl hO1 htk
      go_wp2_with fail
      refine HCK.out.mono ?_
      rintro e w5 ⟨rfl, hb5⟩
      have H5 := Lib.hid (And.intro (HC.out.below hb5) (TF.trans HW.out (Mod.of_below hb5)))
      clear hb5
      go_wp2_with fail
      go_ret
      exact ⟨rfl, ⟨_, _, c, H5.out.1, HO1.out⟩, H5.out.2⟩
end
end Go.Proofs.YtnpchkohfomagaaDoor.Rgw
/-! Folded letters: the automaton of a folded literal. (and what follows) -/
/-! Folded letters: the automaton of a folded literal. -/
namespace Go.Proofs.YtnpchkohfomagaaDoor.Rgw
open Go.ChangeShapes Go.WideShapes Go.ChangeAt Go.RowKit Go.Trav Go.Rg Go.Proofs.YtnpchkohfomagaaDoor.Seq Go.Utf Go.Proofs.YtnpchkohfomagaaDoor.Sparse Go.Proofs.YtnpchkohfomagaaDoor.Rgf
set_option linter.unusedVariables false
set_option linter.unusedSimpArgs false
set_option maxRecDepth 100000
def clF (x : Int) : Tr := .mk 4 false false (dup (fO x)) 0 0 []
/-- The tree that has the words of a folded literal. -/
def tF (rs : List Int) : Tr := .mk 18 false false [] 0 0 (rs.map clF)
theorem tF_lang (rs : List Int) (s : List Nat) : fL rs s ↔ lang 2 (tF rs) s := by
  show CatL (rs.map fun x => Cls (dup (fO x))) s ↔ CatL ((rs.map clF).map (lang 1)) s
  rw [List.map_map]; rfl
theorem tF_places (rs : List Int) : places 2 (tF rs) = fN rs := by
  show ((rs.map clF).map (places 1)).sum = _
  rw [List.map_map]; rfl
theorem tF_size (rs : List Int) : size 2 (tF rs) = fZ rs := by
  show ((rs.map clF).map (size 1)).sum = _
  rw [List.map_map]; rfl
theorem tF_bad (rs : List Int) : bad 2 (tF rs) = none := by
  show ((rs.map clF).map (bad 1)).findSome? id = none
  rw [List.findSome?_eq_none_iff]
  intro o ho
  obtain ⟨t, ht, rfl⟩ := List.mem_map.1 ho
  obtain ⟨x, _, rfl⟩ := List.mem_map.1 ht
  rfl
theorem fZ_le2 : ∀ rs : List Int, fZ rs ≤ rs.length * 1086
  | [] => by simp [fZ]
  | x :: rs => by
    have h1 := fZ_le2 rs
    have h2 : (((prs (dup (fO x))).map fun q => rngZ q.2 + 2).sum) ≤ 1086 := by
      rw [prs_dup, List.map_map]
      have : ∀ l : List Int, (l.map ((fun q : Int × Int => rngZ q.2 + 2) ∘ fun x => (x, x))).sum ≤ l.length * 362 := by
        intro l
        induction l with
        | nil => simp
        | cons y l ih =>
          have : rngZ y ≤ 360 := by unfold rngZ; split <;> omega
          simp only [List.map_cons, List.sum_cons, List.length_cons, Function.comp]
          omega
      have h3 := this (fO x)
      rcases fO_len x with h | h <;> omega
    have e : fZ (x :: rs) = (((prs (dup (fO x))).map fun q => rngZ q.2 + 2).sum) + fZ rs := by simp [fZ]
    rw [e, List.length_cons]
    omega
theorem fb_asc {x : Int} (h0 : 0 ≤ x) (h : x ≤ 127) : fb x = x.toNat := by unfold fb ub ubytes; rw [if_pos h]; rfl
theorem fC_apart {x : Int} (h : AZ x) : Apart (fC x) := by
  refine ⟨?_, ?_⟩
  · rw [← fO_fC]; exact fO_let h
  · rw [← fO_fC]
    by_cases hk : KS x
    · unfold KS at hk
      rcases hk with rfl | rfl | rfl | rfl <;> decide
    · obtain ⟨h1, _, h3, h4, _⟩ := fF_facts h
      have h5 : AZ (fF x) := by
        rcases h4 with h4 | h4 | h4
        · exact h4
        · exfalso; unfold KS at hk; unfold AZ at h; unfold fF at h4; split at h4 <;> (try split at h4) <;> (try split at h4) <;> (try split at h4) <;> (try split at h4) <;> omega
        · exfalso; unfold KS at hk; unfold AZ at h; unfold fF at h4; split at h4 <;> (try split at h4) <;> (try split at h4) <;> (try split at h4) <;> (try split at h4) <;> omega
      unfold fO
      rw [if_neg hk]
      have e1 := fb_asc (x := x) (by unfold AZ at h; omega) (by unfold AZ at h; omega)
      have e2 := fb_asc (x := fF x) (by unfold AZ at h5; omega) (by unfold AZ at h5; omega)
      simp only [List.map_cons, List.map_nil, e1, e2, List.nodup_cons, List.mem_singleton, List.not_mem_nil, not_false_iff, List.nodup_nil, and_true]
      unfold AZ at h h5
      omega
theorem fold_not_many {rs : List Int} {c : List In} (hA : ∀ x ∈ rs, AZ x) (hn : rs.length ≤ 10) (hc : c = fcode 0 (rs.map fC)) (hs : Sound (c ++ [In.fin])) : ¬ Many (c ++ [In.fin]) := by
  have h := fcode_le rs 0 hA
  subst hc
  refine fold_few (fun c hc => ?_) hs (by omega)
  obtain ⟨x, hx, rfl⟩ := List.mem_map.1 hc
  exact fC_apart (hA x hx)
theorem npl_fold (ad : Nat → Addr) (rs : List Int) (tb : Nat) (rv : Value) (w : World) (hA : ∀ x ∈ rs, AZ x) (hn : rs.length ≤ 10) (hF : FoldT w w.heap.size) (hG : Glob w) (hGb : 8 < w.heap.size ∧ 9 < w.heap.size) (h0 : CC w tb 0 (.int .u8 3)) (h1 : CC w tb 1 (.int .u16 1)) (hT : CC w tb 4 rv) (hR : RR w rv rs)
    (h5 : w.cell? ⟨4, 0, none⟩ = some (.iface 211 (.pointer (some (ad 5))))) (h5b : 4 < w.heap.size) :
    Calls Tryd.prog 42 #[.string ⟨#[]⟩, .pointer (some ⟨tb, 0, none⟩), .int .u64 10485760] w (NPostX (fun p c => c = fcode p (rs.map fC)) ad 2 (tF rs) w) := by
  have hz := fZ_le2 rs
  refine npl_gen _ ad 2 tb (tF rs) w (fun C gs ge w1 hC hb => ?_) h5 h5b (by rw [tF_size]; omega)
  have m : Mod (TF cA w.heap.size w) w w1 := Mod.of_below hb
  refine (c_fold rs hA (hF.mod m) hC (glob_tf hG m hGb) hGb (h0.mod m) (h1.mod m) (hT.mod m) (hR.mod m) (by simp) hn).mono ?_
  rintro e w' ⟨rfl, ⟨q, s, c, k1, k2, k3⟩, k4⟩
  refine ⟨Or.inl ⟨rfl, tF_bad rs, q, s, c, k1, ?_, k3⟩, k4⟩
  rw [tF_places, tF_size]
  exact k2.congr (tF_lang rs)
end Go.Proofs.YtnpchkohfomagaaDoor.Rgw
/-! Folded letters: impl.tree at a folded literal. -/
namespace Go.Proofs.YtnpchkohfomagaaDoor.Rgw
open Go.ChangeShapes Go.WideShapes Go.ChangeAt Go.RowKit Go.Trav Go.Rg Go.Proofs.YtnpchkohfomagaaDoor.Seq Go.Utf Go.Proofs.YtnpchkohfomagaaDoor.Sparse Go.Proofs.YtnpchkohfomagaaDoor.Rgf
set_option linter.unusedVariables false
set_option linter.unusedSimpArgs false
set_option maxRecDepth 100000
def t3 (rs : List Int) : Tr := .mk 3 false false rs 0 0 []
set_option maxHeartbeats 8000000 in
theorem tree_fold (rs : List Int) (rv : Value) (w : World) (hrl : rs.length ≤ 1000) (hR : Reads w rv rs.length 1 (rs.map rV)) :
    Calls Tryd.prog 43 #[.agg #[.int .i64 3, rv, .int .i64 0, .int .i64 0, .bool false, .bool true, .slice none 0 0]] w fun e w' => ∃ (b : Nat) (rv' : Value), e = .returned (.pointer (some ⟨b, 0, none⟩)) ∧ Below w.heap.size w w' ∧ CC w' b 0 (.int .u8 3) ∧ CC w' b 1 (.int .u16 1) ∧ CC w' b 4 rv' ∧ RR w' rv' rs := by
  obtain ⟨ra, rc, rfl⟩ := hR.form
  obtain ⟨i0, hi0, hz0, hz1, hz2⟩ := info_parts info_i32
  have hnews : ∀ u ∈ rs.map rV, u.oneCell' = true := by intro u hu; obtain ⟨x, _, rfl⟩ := List.mem_map.1 hu; rfl
  have HN := Lib.hid hnews
  have HB := Lib.hid hrl
  have HR := Lib.hid hR
  have hbits : bits BinOp.or IntKind.u16 0 1 = 1 := by decide
  clear hnews hrl hR
  go_enter Tryd.func43, Tryd.ntmps43
  go_wp2_with fail
  obtain ⟨W0, hW0⟩ : ∃ W0, W0 = w.alloc (.cells #[.int .i64 3, .slice ra rs.length rc, .int .i64 0, .int .i64 0, .bool false, .bool true, .slice none 0 0] 35) := ⟨_, rfl⟩
  have hblk : W0.heap[w.heap.size]? = some (.cells #[.int .i64 3, .slice ra rs.length rc, .int .i64 0, .int .i64 0, .bool false, .bool true, .slice none 0 0] 35 (0, 0)) := by rw [hW0]; exact heap_alloc_new w _
  have hsz0 : W0.heap.size = w.heap.size + 1 := by rw [hW0]; simp
  have hbl0 : Below w.heap.size w W0 := by rw [hW0]; exact (Below.refl _ _).alloc (Nat.le_refl _) _
  have k0 : W0.cell? ⟨w.heap.size, 0, none⟩ = some (.int .i64 3) := block_cell hblk rfl
  have k1 : W0.cell? ⟨w.heap.size, 1, none⟩ = some (.slice ra rs.length rc) := block_cell hblk rfl
  have k2 : W0.cell? ⟨w.heap.size, 2, none⟩ = some (.int .i64 0) := block_cell hblk rfl
  have k3 : W0.cell? ⟨w.heap.size, 3, none⟩ = some (.int .i64 0) := block_cell hblk rfl
  rw [← hW0]
  have HBL0 := Lib.hid hbl0
  have HBK := Lib.hid hblk
  have hown0 : ((W0.alloc (.cells #[] 21)).drew).ownsRow (w.heap.size + 1) 21 1 (.slice (some ⟨w.heap.size + 1, 0, none⟩) 0 0) 0 [] := by
    have h := (owns_new W0 21 1 (w.heap.size + 1) (by omega)).drew
    rw [hsz0] at h; exact h
  have HO0 := Lib.hid hown0
  clear hW0 hblk hbl0 hown0
  go_region_held3 (fun w' => w'.cell? ⟨w.heap.size, 0, none⟩ = some (.int .i64 3) ∧ w'.cell? ⟨w.heap.size, 1, none⟩ = some (.slice ra rs.length rc) ∧ w'.cell? ⟨w.heap.size, 2, none⟩ = some (.int .i64 0) ∧ w'.cell? ⟨w.heap.size, 3, none⟩ = some (.int .i64 0))
    (first
      | go_keep
      | (go_split_ands
         refine ⟨?_, ?_, ?_, ?_⟩ <;> (rw [hgrow.cell_far _ (by simp; omega) (by simp [Value.ownBlock] <;> omega)]; assumption)))
    ((refine step_append_reads (by rfl) _ _ _ (by rfl) (w.heap.size + 1) 21 i0 _ 1 4 Tryd.underlying32 hi0 hz0 hz1 hz2 rfl (by omega) (.slice (some ⟨w.heap.size + 1, 0, none⟩) 0 0) 0 [] (by rfl) HO0.out (.slice ra rs.length rc) rs.length (rs.map rV) (by rfl) (((HR.out.below HBL0.out).alloc _).drewN 1) HN.out (by have := HB.out; unfold maxLen; omega) (by have := HB.out; omega) (by simp; omega) ?_; intro ao1 cap1 w1 hown1 hgrow hat1))
  obtain ⟨b, hb⟩ : ∃ b, b = w1.heap.size := ⟨_, rfl⟩
  have hbelow : Below w.heap.size w w1 := ((HBL0.out.alloc (by omega) _).drew).grown hgrow (by simp; omega) (fun g hg => by simp [Value.ownBlock] at hg; omega)
  have hbx : w1.heap[w.heap.size]? = some (.cells #[.int .i64 3, .slice ra rs.length rc, .int .i64 0, .int .i64 0, .bool false, .bool true, .slice none 0 0] 35 (0, 0)) := (hgrow.block w.heap.size (by simp; omega) (fun e => by simp [Value.ownBlock] at e)).trans (block_alloc HBK.out)
  have hlb : w.heap.size < b := by rw [hb]; exact block_lt hbx
  have hown1' : w1.ownsRow (w.heap.size + 1) 21 1 (.slice ao1 rs.length cap1) rs.length (rs.map rV) := by simpa using hown1
  have hTI : TI w b (.slice ao1 rs.length cap1) (.slice none 0 0) [] 0 0 (t3 rs) 0 (w1.alloc (.cells (reC 0 (t3 rs) (.slice ao1 rs.length cap1) (.slice none 0 0)) 77)) := by
    refine ⟨by rw [hb]; exact heap_alloc_new w1 _, rfl, World.ownsRow_nil _ _ _ _, fun i b' s h => by simp at h, ⟨(reads_of_owns hown1').alloc _, fun g hg => ⟨21, by decide, ?_⟩⟩, fun g hg => ?_, hbelow.alloc hbelow.size _, hlb⟩
    · exact ty_mod (F := fun _ => False) (ty_own hown1' hg) ((Mod.refl _ w1).alloc _) (fun h => h)
    · have := hown1'.lt g hg; omega
  obtain ⟨W2, hW2⟩ : ∃ W2, W2 = w1.alloc (.cells #[.int .u8 3, .int .u16 0, .slice none 0 0, .pointer none, .slice ao1 rs.length cap1, .int .i32 0, .int .i32 0, .int .i64 0, .int .i64 0, .int .i64 0, .string ⟨#[]⟩] 77) := ⟨_, rfl⟩
  have hTI2 : TI w b (.slice ao1 rs.length cap1) (.slice none 0 0) [] 0 0 (t3 rs) 0 W2 := by rw [hW2]; exact hTI
  have hbx2 : W2.heap[w.heap.size]? = some (.cells #[.int .i64 3, .slice ra rs.length rc, .int .i64 0, .int .i64 0, .bool false, .bool true, .slice none 0 0] 35 (0, 0)) := by rw [hW2]; exact block_alloc hbx
  rw [show IntKind.u8.wrap 3 = 3 by decide, ← hW2, ← hb]
  have k4 : W2.cell? ⟨w.heap.size, 4, none⟩ = some (.bool false) := block_cell hbx2 rfl
  have k5 : W2.cell? ⟨w.heap.size, 5, none⟩ = some (.bool true) := block_cell hbx2 rfl
  have p1 : W2.cell? ⟨b, 1, none⟩ = some (.int .u16 0) := block_cell hTI2.blk rfl
  have p2 : W2.frozen? ⟨b, 1, none⟩ = false := block_free hTI2.blk
  have hbx3 : (W2.setCell ⟨b, 1, none⟩ (.int .u16 1)).heap[w.heap.size]? = some (.cells #[.int .i64 3, .slice ra rs.length rc, .int .i64 0, .int .i64 0, .bool false, .bool true, .slice none 0 0] 35 (0, 0)) := block_set_ne hbx2 (by show b ≠ _; omega)
  have p6 : (W2.setCell ⟨b, 1, none⟩ (.int .u16 1)).cell? ⟨w.heap.size, 6, none⟩ = some (.slice none 0 0) := block_cell hbx3 rfl
  have HT0 := Lib.hid (And.intro (hTI2.flag 1) hbx3)
  clear hTI hTI2 hbx hbx2 hbx3 hown1' hown1 hgrow hat1 hbelow hW2 hb k0 k1 k2 k3
  go_wp2_with fail
  go_loopw [5, 40] (fun _ ix wr => ix = .int .i64 0 ∧ Hid (TI w b (.slice ao1 rs.length cap1) (.slice none 0 0) [] 1 0 (t3 rs) 0 wr)) (fun _ ix _ => 0)
  case atStart => exact ⟨rfl, Lib.hid HT0.out.1⟩
  case round =>
    obtain ⟨rfl, HI⟩ := hrel
    go_wp2_with fail
    go_ret
    have hi := HI.out
    have hk := hi.blk
    exact ⟨b, _, rfl, hi.bl, ⟨block_cell hk rfl, 77, by decide, _, _, hk⟩, ⟨block_cell hk rfl, 77, by decide, _, _, hk⟩, ⟨block_cell hk rfl, 77, by decide, _, _, hk⟩, hi.rr⟩
end Go.Proofs.YtnpchkohfomagaaDoor.Rgw
/-! Folded letters: impl.RegexPath and the statements' regexWord at a folded literal. -/
namespace Go.Proofs.YtnpchkohfomagaaDoor.Rgw
open Go.ChangeShapes Go.WideShapes Go.ChangeAt Go.RowKit Go.Trav Go.Rg Go.Proofs.YtnpchkohfomagaaDoor.Seq Go.Utf Go.Proofs.YtnpchkohfomagaaDoor.Sparse Go.Proofs.YtnpchkohfomagaaDoor.Rgf Go.Proofs.YtnpchkohfomagaaDoor.Rgy Path
set_option linter.unusedVariables false
set_option linter.unusedSimpArgs false
set_option maxRecDepth 100000
theorem FoldT.up {w : World} {base base' : Nat} (h : FoldT w base) (hb : base ≤ base') : FoldT w base' := by
  obtain ⟨h1, ⟨B, off, n, cap, F, T, hB, r⟩, h8⟩ := h
  exact ⟨h1, ⟨B, off, n, cap, F, T, Nat.lt_of_lt_of_le hB hb, r⟩, Nat.lt_of_lt_of_le h8.1 hb, Nat.lt_of_lt_of_le h8.2 hb⟩
/-- A folded literal's cells. -/
def fCells (rv : Value) : Array Value := #[.int .i64 3, rv, .int .i64 0, .int .i64 0, .bool false, .bool true, .slice none 0 0]
set_option maxHeartbeats 4000000 in
theorem rxp_fold (ad : Nat → Addr) (rs : List Int) (rv : Value) (s : ByteArray) (w : World) (hA : ∀ x ∈ rs, AZ x) (hn : rs.length ≤ 10) (hR : Reads w rv rs.length 1 (rs.map rV)) (hF : FoldT w w.heap.size) (hE : Env w w.heap.size ad) (hK : ErrK w ad) (h5b : 4 < w.heap.size) (hss : s.size ≤ 1000) :
    Calls Tryd.prog 28 #[.agg (fCells rv), .string s] w fun e w' => Below w.heap.size w w' ∧ ∃ (v1 v2 v3 : Value) (c : List In), e = .returned (.tuple #[v1, v2, v3, .int .i64 0]) ∧ Ok (lang 2 (tF rs)) (places 2 (tF rs)) (size 2 (tF rs)) 0 c ∧
        Reads w' v1 (s.size + 1) 1 (((List.range (s.size + 1)).map (wantM (c ++ [In.fin]) (s.data.toList.map UInt8.toNat))).map Value.bool) := by
  obtain ⟨ra, rc, rfl⟩ := hR.form
  obtain ⟨W1, hW1⟩ : ∃ W1, W1 = w.alloc (.cells #[.int .i64 3, .slice ra rs.length rc, .int .i64 0, .int .i64 0, .bool false, .bool true, .slice none 0 0] 35) := ⟨_, rfl⟩
  have hb1 : Below w.heap.size w W1 := by rw [hW1]; exact (Below.refl _ _).alloc (Nat.le_refl _) _
  have ht := tree_fold rs _ W1 (by omega) (hR.below hb1)
  have hz := fZ_le2 rs
  have hE4 : size 2 (tF rs) ≤ 262144 := by rw [tF_size]; omega
  have HT := Lib.hid ht
  have HB1 := Lib.hid hb1
  have HH := Lib.hid (And.intro hA (And.intro hn (And.intro hF (And.intro hE (And.intro hK (And.intro h5b hE4))))))
  clear hR ht hb1 hA hn hF hE hK h5b hz hE4
  unfold fCells
  go_enter Tryd.func28, Tryd.ntmps28
  go_wp2_with fail
  rw [← hW1]
  refine HT.out.mono ?_
  rintro e w2 ⟨b, rv2, rfl, hb2, q0, q1, q2, q3⟩
  have hb02 := HB1.out.trans (hb2.mono HB1.out.size)
  obtain ⟨hA, hn, hF, hE, hK, h5b, hE4⟩ := HH.out
  have hE2 := hE.up hb02.size hb02
  have hn2 := npl_fold ad rs b rv2 w2 hA hn ((hF.below hb02).up hb02.size) hE2.gl hE2.nb q0 q1 q2 q3 (hK.mod hb02).h5 (Nat.lt_of_lt_of_le h5b hb02.size)
  have HN := Lib.hid hn2
  have HB2 := Lib.hid hb02
  clear hb2 hb02 hn2 HT HB1 hW1 hA hn hF hE hK h5b hE2 hE4 q0 q1 q2 q3
  go_wp2_with fail
  refine HN.out.mono ?_
  rintro e w3 ⟨⟨X, D, c, Ks, nx, rfl, hbad, hok, hX, hmd, hrow, hDF⟩ | ⟨k, rfl, hk⟩, hb3⟩
  · have hmd2 := rows_are hmd s.data.toList (s.size + 1) (by simp)
    have hpa := path_any s w3 (reAut X D _ Ks nx w3 hX hDF hrow) (by omega)
    rw [row_false, hmd2.1, hmd2.2] at hpa
    have HPA := Lib.hid hpa
    have HB3 := Lib.hid hb3
    have HO := Lib.hid hok
    clear hb3 hbad hok hX hmd hrow hDF hmd2 hpa
    go_wp2_with fail
    refine HPA.out.mono ?_
    rintro e w7 ⟨v1, v2, v3, rfl, hr1, hr2, hr3, hb7⟩
    have HX := Lib.hid (And.intro hr1 hb7)
    clear hr1 hr2 hr3 hb7
    go_wp2_with fail
    refine bodyPost_ret (v := .tuple #[v1, v2, v3, .int .i64 0]) (by simp [results, Tryd.results28, go_sem]) rfl ?_
    have hb03 := HB2.out.trans (HB3.out.mono HB2.out.size)
    exact ⟨hb03.trans (HX.out.2.mono hb03.size), v1, v2, v3, c, rfl, HO.out, HX.out.1⟩
  · exfalso
    obtain ⟨hA, hn, _, _, _, _, hE4⟩ := HH.out
    rcases hk with h | ⟨_, h⟩ | ⟨_, _, _, c, hok, hc, hm⟩
    · rw [tF_bad] at h; cases h
    · omega
    · exact fold_not_many hA hn hc hok.sound hm
theorem word_fold (ad : Nat → Addr) (rs : List Int) (rv : Value) (s : ByteArray) (w : World) (mb : Bool) (hA : ∀ x ∈ rs, AZ x) (hn : rs.length ≤ 10) (hR : Reads w rv rs.length 1 (rs.map rV)) (hF : FoldT w w.heap.size) (hE : Env w w.heap.size ad) (hK : ErrK w ad) (h5b : 4 < w.heap.size) (hss : s.size ≤ 1000) (hm : mb = true ↔ fL rs (bys s)) :
    Calls Tryd.prog 25 #[.agg (fCells rv), .string s] w fun e w' => e = .returned (.tuple #[.bool mb, .bool true]) ∧ Below w.heap.size w w' := by
  obtain ⟨ra, rc, rfl⟩ := hR.form
  obtain ⟨W1, hW1⟩ : ∃ W1, W1 = w.alloc (.cells #[.int .i64 3, .slice ra rs.length rc, .int .i64 0, .int .i64 0, .bool false, .bool true, .slice none 0 0] 35) := ⟨_, rfl⟩
  have hb1 : Below w.heap.size w W1 := by rw [hW1]; exact (Below.refl _ _).alloc (Nat.le_refl _) _
  have hp := rxp_fold ad rs _ s W1 hA hn (hR.below hb1) ((hF.below hb1).up hb1.size) (hE.up hb1.size hb1) (hK.mod hb1) (Nat.lt_of_lt_of_le h5b hb1.size) hss
  have HP := Lib.hid hp
  have HB := Lib.hid hb1
  have HM := Lib.hid hm
  have hs9 : s.size < 9223372036854775806 := by omega
  clear hp hb1 hm hA hR hF hE hK h5b
  unfold fCells at HP ⊢
  go_enter Tryd.func25, Tryd.ntmps25
  go_wp2_with fail
  rw [← hW1]
  refine HP.out.mono ?_
  rintro e w2 ⟨hb2, v1, v2, v3, c, rfl, hok, hr1⟩
  obtain ⟨a1, c1, rfl⟩ := hr1.form
  have hrow := (rows_say hok s.size (Nat.le_refl _)).1
  obtain ⟨bb, hb4, hb5⟩ := hrow
  have hbb : bb = mb := by
    rw [← tF_lang, List.take_of_length_le (by rw [bys_len]; exact Nat.le_refl _), ← HM.out] at hb5
    cases bb <;> cases mb <;> simp_all
  have hone := Reads.one Value.bool hr1 (k := s.size) (by omega)
  obtain ⟨yb, yo, ycap, y, eR, hy, hcx⟩ := hone
  rw [show (List.map (wantM (c ++ [In.fin]) (List.map UInt8.toNat s.data.toList)) (List.range (s.size + 1)))[s.size]? = some bb from hb4] at hy
  obtain rfl := Option.some.inj hy
  injection eR with e1 e2 e3
  subst e1 e3
  rw [hbb] at hcx
  have HX := Lib.hid (And.intro hcx hb2)
  have t1 : decide ((s.size : Int) < ((s.size + 1 : Nat) : Int)) = true := decide_eq_true (by omega)
  clear hb2 hok hr1 hb4 hb5 hbb hy e2 HP
  go_wp2_with fail
  refine bodyPost_ret (v := .tuple #[.bool mb, .bool true]) (by simp [results, Tryd.results25, go_sem]) rfl ?_
  exact ⟨rfl, HB.out.trans (HX.out.2.mono HB.out.size)⟩
end Go.Proofs.YtnpchkohfomagaaDoor.Rgw
/-! Folded letters: spec.ASCIILetter, spec.Lower. -/
namespace Go.Proofs.YtnpchkohfomagaaDoor.Rgw
open Go.ChangeShapes Go.WideShapes Go.ChangeAt Go.RowKit Go.Trav Go.Rg Go.Utf Go.Proofs.YtnpchkohfomagaaDoor.Rgy
set_option linter.unusedVariables false
set_option linter.unusedSimpArgs false
set_option maxRecDepth 100000
instance (x : Int) : Decidable (AZ x) := inferInstanceAs (Decidable (_ ∨ _))
def aslP (x : Int) : Int := if AZ x then x else 97 + (x % 4294967296) % 26
theorem aslP_az (x : Int) : AZ (aslP x) := by
  unfold aslP
  split
  · assumption
  · have h1 := Int.emod_nonneg (x % 4294967296) (show (26 : Int) ≠ 0 by decide)
    have h2 := Int.emod_lt_of_pos (x % 4294967296) (show (0 : Int) < 26 by decide)
    unfold AZ; omega
def lowP (x : Int) : Int := if 65 ≤ x ∧ x ≤ 90 then x + 32 else if x = 8490 then 107 else if x = 383 then 115 else x
theorem asl_any (x : Int) (w : World) : Calls Tryd.prog 24 #[.int .i32 x] w fun e w' => e = .returned (.int .i32 (aslP x)) ∧ w = w' := by
  have hw1 : IntKind.u32.wrap x = x % 4294967296 := by rw [IntKind.wrap_u32]
  have g0 := Int.emod_nonneg x (show (4294967296 : Int) ≠ 0 by decide)
  have g1 := Int.emod_nonneg (x % 4294967296) (show (26 : Int) ≠ 0 by decide)
  have g2 := Int.emod_lt_of_pos (x % 4294967296) (show (0 : Int) < 26 by decide)
  have hw2 : (x % 4294967296).tmod 26 = x % 4294967296 % 26 := Int.tmod_eq_emod_of_nonneg g0
  obtain ⟨y, hy⟩ : ∃ y, y = x % 4294967296 % 26 := ⟨_, rfl⟩
  rw [← hy] at hw2 g1 g2
  have hw3 : IntKind.u32.wrap y = y := IntWalk.u32_in _ (by omega)
  have hw4 : IntKind.i32.wrap y = y := IntWalk.i32_in _ (by omega)
  have hw5 : IntKind.i32.wrap (97 + y) = 97 + y := IntWalk.i32_in _ (by omega)
  have HY := Lib.hid hy
  clear hy
  by_cases h1 : 97 ≤ x
  · by_cases h2 : x ≤ 122
    · have hp : aslP x = x := by unfold aslP; rw [if_pos]; unfold AZ; omega
      rw [hp]
      clear hp
      go_enter Tryd.func24, Tryd.ntmps24
      go_wp2_with fail
      go_ret
      exact ⟨rfl, rfl⟩
    · have hp : aslP x = 97 + y := by unfold aslP; rw [if_neg (by unfold AZ; omega), HY.out]
      rw [hp]
      clear hp
      have h3 : 65 ≤ x := by omega
      have h4 : ¬ x ≤ 90 := by omega
      go_enter Tryd.func24, Tryd.ntmps24
      go_wp2_with fail
      go_ret
      exact ⟨rfl, rfl⟩
  · by_cases h3 : 65 ≤ x
    · by_cases h4 : x ≤ 90
      · have hp : aslP x = x := by unfold aslP; rw [if_pos]; unfold AZ; omega
        rw [hp]
        clear hp
        go_enter Tryd.func24, Tryd.ntmps24
        go_wp2_with fail
        go_ret
        exact ⟨rfl, rfl⟩
      · have hp : aslP x = 97 + y := by unfold aslP; rw [if_neg (by unfold AZ; omega), HY.out]
        rw [hp]
        clear hp
        go_enter Tryd.func24, Tryd.ntmps24
        go_wp2_with fail
        go_ret
        exact ⟨rfl, rfl⟩
    · have hp : aslP x = 97 + y := by unfold aslP; rw [if_neg (by unfold AZ; omega), HY.out]
      rw [hp]
      clear hp
      go_enter Tryd.func24, Tryd.ntmps24
      go_wp2_with fail
      go_ret
      exact ⟨rfl, rfl⟩
theorem low_any (x : Int) (w : World) : Calls Tryd.prog 26 #[.int .i32 x] w fun e w' => e = .returned (.int .i32 (lowP x)) ∧ w = w' := by
  by_cases h1 : 65 ≤ x
  · by_cases h2 : x ≤ 90
    · have hp : lowP x = x + 32 := by unfold lowP; rw [if_pos ⟨h1, h2⟩]
      rw [hp]
      have hw5 : IntKind.i32.wrap (x + 32) = x + 32 := IntWalk.i32_in _ (by omega)
      clear hp
      go_enter Tryd.func26, Tryd.ntmps26
      go_wp2_with fail
      go_ret
      exact ⟨rfl, rfl⟩
    · by_cases h3 : x = 8490
      · subst h3
        go_enter Tryd.func26, Tryd.ntmps26
        go_wp2_with fail
        go_ret
        exact ⟨rfl, rfl⟩
      · by_cases h4 : x = 383
        · subst h4
          go_enter Tryd.func26, Tryd.ntmps26
          go_wp2_with fail
          go_ret
          exact ⟨rfl, rfl⟩
        · have hp : lowP x = x := by unfold lowP; rw [if_neg (by omega), if_neg h3, if_neg h4]
          rw [hp]
          have h3' : (x == 8490) = false := beq_eq_false_iff_ne.2 h3
          have h4' : (x == 383) = false := beq_eq_false_iff_ne.2 h4
          clear hp
          go_enter Tryd.func26, Tryd.ntmps26
          go_wp2_with fail
          go_ret
          exact ⟨rfl, rfl⟩
  · have hp : lowP x = x := by unfold lowP; rw [if_neg (by omega), if_neg (by omega), if_neg (by omega)]
    rw [hp]
    have h3' : (x == 8490) = false := beq_eq_false_iff_ne.2 (by omega)
    have h4' : (x == 383) = false := beq_eq_false_iff_ne.2 (by omega)
    clear hp
    go_enter Tryd.func26, Tryd.ntmps26
    go_wp2_with fail
    go_ret
    exact ⟨rfl, rfl⟩
end Go.Proofs.YtnpchkohfomagaaDoor.Rgw
/-! Folded letters: spec.Folds. -/
namespace Go.Proofs.YtnpchkohfomagaaDoor.Rgw
open Go.ChangeShapes Go.WideShapes Go.ChangeAt Go.RowKit Go.Trav Go.Rg Go.Utf Go.Proofs.YtnpchkohfomagaaDoor.Rgy Go.Proofs.YtnpchkohfomagaaDoor.Rgm Go.Proofs.YtnpchkohfomagaaDoor.Utf0 Go.Proofs.YtnpchkohfomagaaDoor.Seq
set_option linter.unusedVariables false
set_option linter.unusedSimpArgs false
set_option maxRecDepth 100000
theorem fO_low {x r : Int} (h : AZ x) (hr : Let r) : r ∈ fO x ↔ lowP r = lowP x := by
  unfold Let at hr
  by_cases hk : KS x
  · unfold KS at hk
    rcases hk with rfl | rfl | rfl | rfl
    · have e : fO 75 = [75, 107, 8490] := by decide
      have e2 : lowP 75 = 107 := by decide
      rw [e, e2]; simp; unfold lowP; split <;> (try split) <;> (try split) <;> omega
    · have e : fO 107 = [107, 8490, 75] := by decide
      have e2 : lowP 107 = 107 := by decide
      rw [e, e2]; simp; unfold lowP; split <;> (try split) <;> (try split) <;> omega
    · have e : fO 83 = [83, 115, 383] := by decide
      have e2 : lowP 83 = 115 := by decide
      rw [e, e2]; simp; unfold lowP; split <;> (try split) <;> (try split) <;> omega
    · have e : fO 115 = [115, 383, 83] := by decide
      have e2 : lowP 115 = 115 := by decide
      rw [e, e2]; simp; unfold lowP; split <;> (try split) <;> (try split) <;> omega
  · have hne : x ≠ 75 ∧ x ≠ 107 ∧ x ≠ 83 ∧ x ≠ 115 := by unfold KS at hk; omega
    unfold fO
    rw [if_neg hk]
    unfold AZ at h
    rcases h with h | h
    · have e1 : fF x = x + 32 := by unfold fF; rw [if_neg (by omega), if_neg (by omega), if_neg (by omega), if_neg (by omega), if_pos (by omega)]
      have e2 : lowP x = x + 32 := by unfold lowP; rw [if_pos (by omega)]
      rw [e1, e2]; simp; unfold lowP; split <;> (try split) <;> (try split) <;> omega
    · have e1 : fF x = x - 32 := by unfold fF; rw [if_neg (by omega), if_neg (by omega), if_neg (by omega), if_neg (by omega), if_neg (by omega)]
      have e2 : lowP x = x := by unfold lowP; rw [if_neg (by omega), if_neg (by omega), if_neg (by omega)]
      rw [e1, e2]; simp; unfold lowP; split <;> (try split) <;> (try split) <;> omega
theorem cls_fO {x : Int} (h : AZ x) (a : List Nat) : Cls (dup (fO x)) a ↔ ∃ z, z ∈ fO x ∧ Let z ∧ a = ub z := by
  unfold Cls
  rw [prs_dup]
  constructor
  · rintro ⟨q, hq, z, h1, h2, h3, h4⟩
    obtain ⟨y, hy, rfl⟩ := List.mem_map.1 hq
    obtain rfl : z = y := by simp at h2 h3; omega
    exact ⟨z, hy, h1, h4⟩
  · rintro ⟨z, hz, h1, h2⟩
    exact ⟨(z, z), List.mem_map.2 ⟨z, hz, rfl⟩, z, h1, Int.le_refl _, Int.le_refl _, h2⟩
theorem fold_rune {x r : Int} {k : Nat} {rs : List Int} {L : List Nat} (h : AZ x) (hb : Begins (L.map fun b => ((b : Nat) : Int)) r k) : fL (x :: rs) L ↔ (k ≠ 0 ∧ lowP r = lowP x ∧ fL rs (L.drop k)) := by
  have e : fL (x :: rs) L ↔ ∃ a b, L = a ++ b ∧ Cls (dup (fO x)) a ∧ fL rs b := Iff.rfl
  rw [e]
  have hseg := seg_iff L 0
  simp only [List.drop_zero, Nat.zero_add] at hseg
  constructor
  · rintro ⟨a, b, rfl, hc, hf⟩
    obtain ⟨z, hz, hlz, rfl⟩ := (cls_fO h a).1 hc
    have hp := (hseg z hlz).2 (by rw [List.take_append_of_le_length (by rw [ub_len]; exact Nat.le_refl _), List.take_of_length_le (by rw [ub_len]; exact Nat.le_refl _)])
    rcases hb with ⟨_, _, hno⟩ | ⟨hr, hk, hpre⟩
    · exact absurd hp (hno z hlz)
    · obtain rfl := two_let hr hlz hpre hp
      refine ⟨by have := wid_pos r; omega, (fO_low h hr).1 hz, ?_⟩
      rw [hk, ← ub_len, List.drop_left]; exact hf
  · rintro ⟨hk, hl, hf⟩
    rcases hb with ⟨h0, _⟩ | ⟨hr, hk2, hpre⟩
    · exact absurd h0 hk
    · refine ⟨L.take k, L.drop k, (List.take_append_drop k L).symm, (cls_fO h _).2 ⟨r, (fO_low h hr).2 hl, hr, ?_⟩, hf⟩
      rw [hk2]; exact (hseg r hr).1 hpre
end Go.Proofs.YtnpchkohfomagaaDoor.Rgw
/-! Folded letters: spec.Folds: the walk. -/
namespace Go.Proofs.YtnpchkohfomagaaDoor.Rgw
open Go.ChangeShapes Go.WideShapes Go.ChangeAt Go.RowKit Go.Trav Go.Rg Go.Utf Go.Proofs.YtnpchkohfomagaaDoor.Rgy Go.Proofs.YtnpchkohfomagaaDoor.Rgm Go.Proofs.YtnpchkohfomagaaDoor.Utf0 Go.Proofs.YtnpchkohfomagaaDoor.Seq
set_option linter.unusedVariables false
set_option linter.unusedSimpArgs false
set_option maxRecDepth 100000
set_option maxHeartbeats 4000000 in
theorem folds_any (rs : List Int) (rv : Value) (s : ByteArray) (w : World) (mb : Bool) (hA : ∀ x ∈ rs, AZ x) (hn : rs.length ≤ 10) (hR : Reads w rv rs.length 1 (rs.map rV)) (hs : s.size ≤ 100) (hm : mb = true ↔ fL rs (sN s)) :
    Calls Tryd.prog 27 #[rv, .string s] w fun e w' => e = .returned (.bool mb) ∧ Below w.heap.size w w' := by
  obtain ⟨ra, rc, rfl⟩ := hR.form
  have HA := Lib.hid hA
  have HR := Lib.hid hR
  have HM := Lib.hid hm
  obtain ⟨n, hnn⟩ : ∃ n, rs.length = n := ⟨_, rfl⟩
  rw [hnn] at HR hn ⊢
  have HN := Lib.hid hnn
  clear hA hR hm hnn
  go_enter Tryd.func27, Tryd.ntmps27
  go_wp2_with fail
  go_loopw [1, 4, 5, 6, 7] (fun sv _ ix _ _ wr => ∃ (k : Nat) (s1 : ByteArray), sv = .string s1 ∧ ix = .int .i64 (k : Int) ∧ k ≤ n ∧ s1.size ≤ 100 ∧ Hid (mb = true ↔ fL (rs.drop k) (sN s1)) ∧ Hid (Below w.heap.size w wr)) (fun _ _ ix _ _ _ => n - (intOf ix).toNat)
  case atStart => exact ⟨0, s, rfl, rfl, Nat.zero_le _, hs, Lib.hid (by simpa using HM.out), Lib.hid (Below.refl _ _)⟩
  case round =>
    obtain ⟨k, s1, rfl, rfl, hk, hs1, HK, HW⟩ := hrel
    rename World => wr
    by_cases hlt : k < n
    · obtain ⟨x, hx⟩ : ∃ x, rs[k]? = some x := ⟨_, List.getElem?_eq_getElem (by have := HN.out; omega)⟩
      have hxa := HA.out x (List.mem_of_getElem? hx)
      have hdr : rs.drop k = x :: rs.drop (k + 1) := by
        have hk9 := (List.getElem?_eq_some_iff.1 hx)
        obtain ⟨h1, h2⟩ := hk9
        rw [List.drop_eq_getElem_cons h1, h2]
      have hrune := rune_any s1 wr hs1
      have HRUNE := Lib.hid hrune
      have HX := Lib.hid (And.intro hx (And.intro hxa hdr))
      have t0 : (0 : Int) ≤ (k : Int) := by omega
      have t1 : (k : Int) < (n : Int) := by omega
      clear hrune hx hxa hdr
      go_wp2_with fail
      refine HRUNE.out.mono ?_
      rintro e w3 ⟨hb3, c, j, rfl, hbeg⟩
      have hR3 := HR.out.below (HW.out.trans (hb3.mono HW.out.size))
      obtain ⟨rb, ro, rcap, y, eR, hy, hcx⟩ := Reads.one rV (show Reads w3 (.slice ra n rc) rs.length 1 (rs.map rV) by rw [HN.out]; exact hR3) (k := k) (by have := HN.out; omega)
      rw [HX.out.1] at hy
      obtain rfl := Option.some.inj hy
      injection eR with e1 e2 e3
      subst e1 e3
      have hcx' : w3.cell? ⟨rb, ro + k, none⟩ = some (.int .i32 x) := hcx
      rw [sI_sN] at hbeg
      have hstep := fold_rune (rs := rs.drop (k + 1)) HX.out.2.1 hbeg
      rw [← HX.out.2.2, ← HK.out] at hstep
      have hjs : j ≤ s1.size := by
        rcases Nat.eq_zero_or_pos j with h | h
        · omega
        · have := begins_bd (L := sN s1) (i := 0) (by simpa using hbeg) h
          rw [sN_len] at this; omega
      have HS := Lib.hid hstep
      have H3 := Lib.hid (HW.out.trans (hb3.mono HW.out.size))
      clear hstep hb3 hbeg hR3 hy hcx e2 HRUNE
      by_cases hj : j = 0
      · have hmb : mb = false := by
          cases hmb : mb with
          | false => rfl
          | true => exact absurd hj (HS.out.1 hmb).1
        have hj0 : ((j : Int) == 0) = true := by simp [hj]
        have HMB := Lib.hid hmb
        clear hmb hj HS
        go_wp2_with fail
        go_quiet (fail)
        go_wp2_with fail
        go_ret
        exact ⟨by rw [HMB.out]; rfl, H3.out.trans (below_draws _ _ |>.mono H3.out.size)⟩
      · have hj0 : ((j : Int) == 0) = false := beq_eq_false_iff_ne.2 (by omega)
        by_cases hpq : lowP c = lowP x
        · have hpq' : (lowP c != lowP x) = false := by simp [hpq]
          have hext : mb = true ↔ fL (rs.drop (k + 1)) (sN (s1.extract j s1.size)) := by
            rw [HS.out, sN_extract, List.take_of_length_le (by rw [sN_len]; exact Nat.le_refl _)]
            exact ⟨fun h => h.2.2, fun h => ⟨hj, hpq, h⟩⟩
          have HPE := Lib.hid hext
          have t2 : (0 : Int) ≤ (j : Int) := by omega
          have t3 : (j : Int) ≤ (s1.size : Int) := by omega
          have hxs : (s1.extract j s1.size).size ≤ 100 := by rw [ByteArray.size_extract]; omega
          clear hpq hj HS hext
          go_wp2_with fail
          go_quiet ((exact Calls.quiet_of_same ((low_any _ _).mono fun _ _ ⟨p, q⟩ => ⟨p, q.symm⟩)))
          go_wp2_with fail
          go_roundw
          case rel => exact ⟨k + 1, s1.extract j s1.size, by go_num, by go_num, hlt, hxs, HPE, Lib.hid (H3.out.trans (below_draws _ _ |>.mono H3.out.size))⟩
          case measure => simp [intOf]; omega
        · have hpq' : (lowP c != lowP x) = true := by simp [hpq]
          have hmb : mb = false := by
            cases hmb : mb with
            | false => rfl
            | true => exact absurd (HS.out.1 hmb).2.1 hpq
          have HMB := Lib.hid hmb
          clear hmb hpq hj HS
          go_wp2_with fail
          go_quiet ((exact Calls.quiet_of_same ((low_any _ _).mono fun _ _ ⟨p, q⟩ => ⟨p, q.symm⟩)))
          go_wp2_with fail
          go_ret
          exact ⟨by rw [HMB.out]; rfl, H3.out.trans (below_draws _ _ |>.mono H3.out.size)⟩
    · obtain rfl : k = n := by omega
      have hfin : mb = s1.toList.isEmpty := by
        have h := HK.out
        rw [List.drop_of_length_le (by have := HN.out; omega)] at h
        have h2 : fL [] (sN s1) ↔ s1.size = 0 := by
          show sN s1 = [] ↔ _
          rw [← List.length_eq_zero_iff, sN_len]
        rw [h2] at h
        by_cases h0 : s1.size = 0
        · have e1 : s1 = ⟨#[]⟩ := by
            apply ByteArray.ext
            apply Array.eq_empty_of_size_eq_zero
            exact h0
          rw [h.2 h0, e1]; first | decide | (unfold ByteArray.toList ByteArray.toList.loop; rfl) | simp
        · have e2 : mb = false := by
            cases hmb : mb with
            | false => rfl
            | true => exact absurd (h.1 hmb) h0
          rw [e2, toList_ne s1 (by omega)]
      go_wp2_with fail
      go_ret
      exact ⟨by rw [hfin]; rfl, HW.out⟩
end Go.Proofs.YtnpchkohfomagaaDoor.Rgw
/-! Folded letters: the words of small and of great letters, plain. -/
namespace Go.Proofs.YtnpchkohfomagaaDoor.Rgw
open Go.ChangeShapes Go.WideShapes Go.ChangeAt Go.RowKit Go.Trav Go.Rg Go.Utf Go.Proofs.YtnpchkohfomagaaDoor.Rgy Go.Proofs.YtnpchkohfomagaaDoor.Rgm Go.Proofs.YtnpchkohfomagaaDoor.Seq
set_option linter.unusedVariables false
set_option linter.unusedSimpArgs false
set_option maxRecDepth 100000
theorem lowP_bd {x : Int} (h : AZ x) : 97 ≤ lowP x ∧ lowP x ≤ 122 := by
  unfold AZ at h; unfold lowP; split <;> (try split) <;> (try split) <;> omega
theorem lowP_low {y : Int} (h : 97 ≤ y ∧ y ≤ 122) : lowP y = y ∧ lowP (y - 32) = y := by
  constructor
  · unfold lowP; rw [if_neg (by omega), if_neg (by omega), if_neg (by omega)]
  · unfold lowP; rw [if_pos (by omega)]; omega
theorem bys_one {y : Int} (h0 : 0 ≤ y) (h : y ≤ 127) : bys (strOfNums [y]) = ub y := by
  have hl : Let y := by unfold Let; omega
  have h1 := str_ub y hl
  have h2 : ubytes y = [y] := by unfold ubytes; rw [if_pos h]
  rw [h2] at h1
  unfold bys ub
  rw [h1, h2]
theorem bys_app (a b : ByteArray) : bys (a ++ b) = bys a ++ bys b := sN_append a b
theorem fL_snoc {ws : List Int} {k : Nat} {x y : Int} {a : ByteArray} (hx : ws[k]? = some x) (hA : AZ x) (h0 : 0 ≤ y) (h7 : y ≤ 127) (hl : lowP y = lowP x) (h : fL (ws.take k) (bys a)) : fL (ws.take (k + 1)) (bys (a ++ strOfNums [y])) := by
  have ht : ws.take (k + 1) = ws.take k ++ [x] := by rw [List.take_add_one, hx]; rfl
  have hly : Let y := by unfold Let; omega
  rw [ht, bys_app, bys_one h0 h7]
  unfold fL
  rw [List.map_append]
  exact (catL_snoc _ _ _).2 ⟨_, _, rfl, h, (cls_fO hA _).2 ⟨y, (fO_low hA hly).2 hl, hly, rfl⟩⟩
theorem fL_small {ws : List Int} {k : Nat} {x : Int} {a : ByteArray} (hx : ws[k]? = some x) (hA : AZ x) (h : fL (ws.take k) (bys a)) : fL (ws.take (k + 1)) (bys (a ++ strOfNums [lowP x])) := by
  have hb := lowP_bd hA
  exact fL_snoc hx hA (by omega) (by omega) (lowP_low hb).1 h
theorem fL_great {ws : List Int} {k : Nat} {x : Int} {a : ByteArray} (hx : ws[k]? = some x) (hA : AZ x) (h : fL (ws.take k) (bys a)) : fL (ws.take (k + 1)) (bys (a ++ strOfNums [lowP x - 32])) := by
  have hb := lowP_bd hA
  exact fL_snoc hx hA (by omega) (by omega) (lowP_low hb).2 h
end Go.Proofs.YtnpchkohfomagaaDoor.Rgw
/-! FnRegexFold: the law. -/
namespace Go.Proofs.YtnpchkohfomagaaDoor.Rgw
open Go.ChangeShapes Go.WideShapes Go.ChangeAt Go.RowKit Go.Trav Go.Rg Go.Utf Go.Proofs.YtnpchkohfomagaaDoor.Rgy Go.Proofs.YtnpchkohfomagaaDoor.Rgm Go.Proofs.YtnpchkohfomagaaDoor.Seq
set_option linter.unusedVariables false
set_option linter.unusedSimpArgs false
set_option maxRecDepth 100000
theorem take_aslP {l : List Int} {k : Nat} {x : Int} (hx : l[k]? = some x) : (l.take (k + 1)).map aslP = (l.take k).map aslP ++ [aslP x] := by
  rw [List.take_add_one, hx]; simp
theorem reads1 (w : World) (a : Int) : Reads (w.alloc (.cells #[.int .i32 a] 21)) (.slice (some ⟨w.heap.size, 0, none⟩) 1 1) 1 1 [rV a] := by
  refine ⟨_, 1, rfl, Nat.le_refl _, by unfold maxLen; omega, fun h => (by cases h), rfl, fun _ => ⟨_, _, rfl, fun j u hj => ?_⟩⟩
  match j with
  | 0 => simp at hj; subst hj; exact block_cell (heap_alloc_new w _) rfl
  | j + 1 => simp at hj
set_option maxHeartbeats 8000000 in
theorem law_fold (ad : Nat → Addr) (l : List Int) (rv : Value) (s : ByteArray) (w : World) (hR : Reads w rv l.length 1 (l.map rV)) (hF : FoldT w w.heap.size) (hL : Laid w ad) :
    Calls Tryd.prog 6 #[rv, .string s] w fun e w' => e = .returned (.bool true) ∧ Below w.heap.size w w' := by
  obtain ⟨ra, rc, rfl⟩ := hR.form
  obtain ⟨n, hn⟩ : ∃ n, l.length = n := ⟨_, rfl⟩
  rw [hn] at hR ⊢
  have HR := Lib.hid hR
  have HN := Lib.hid hn
  have HF := Lib.hid hF
  have HL := Lib.hid hL
  clear hR hn hF hL
  by_cases hn1 : n ≤ 65536
  case neg =>
    by_cases hn2 : 2147483647 < n
    · go_enter Tryd.func6, Tryd.ntmps6
      go_wp2_with fail
      go_ret
      exact ⟨rfl, Below.refl _ _⟩
    · by_cases hs2 : 2147483647 < s.size
      · go_enter Tryd.func6, Tryd.ntmps6
        go_wp2_with fail
        go_ret
        exact ⟨rfl, Below.refl _ _⟩
      · go_enter Tryd.func6, Tryd.ntmps6
        go_wp2_with fail
        go_ret
        exact ⟨rfl, Below.refl _ _⟩
  by_cases hs2 : 2147483647 < s.size
  · go_enter Tryd.func6, Tryd.ntmps6
    go_wp2_with fail
    go_ret
    exact ⟨rfl, Below.refl _ _⟩
  go_enter Tryd.func6, Tryd.ntmps6
  go_upto_block 0 with (fail)
  go_cut [5] (fun v5 wx => ∃ (k : Nat) (L : List Int), L.length = k ∧ k ≤ 6 ∧ Hid (∀ x ∈ L, AZ x) ∧ Hid (Below w.heap.size w wx) ∧ Hid (wx.ownsRow w.heap.size 21 1 v5 k (L.map rV)))
  case first =>
    go_wp2_with fail
    go_loopw [5, 6] (fun ov ix wr => ∃ (k : Nat) (L : List Int), ix = .int .i64 (k : Int) ∧ k ≤ 6 ∧ k ≤ n ∧ L.length = k ∧ Hid (L = (l.take k).map aslP) ∧ Hid (Below w.heap.size w wr) ∧ Hid (wr.ownsRow w.heap.size 21 1 ov k (L.map rV))) (fun _ ix _ => 6 - (intOf ix).toNat)
    case atStart => exact ⟨0, [], rfl, by omega, by omega, rfl, Lib.hid rfl, Lib.hid (Below.refl _ _), Lib.hid (World.ownsRow_nil _ _ _ _)⟩
    case round =>
      obtain ⟨k, L, rfl, hk6, hk, hLk, HLe, HB, HO⟩ := hrel
      rename World => wr
      obtain ⟨ov, oc, rfl⟩ := ownsRow_form HO.out
      by_cases hgo : k < n ∧ k < 6
      · obtain ⟨hlt, hlt6⟩ := hgo
        obtain ⟨x, hx⟩ : ∃ x, l[k]? = some x := ⟨_, List.getElem?_eq_getElem (by have := HN.out; omega)⟩
        have hrd := HR.out.below HB.out
        obtain ⟨sb, so, cp, y, eR, hy, hc0⟩ := Reads.one rV (show Reads wr (.slice ra n rc) l.length 1 (l.map rV) by rw [HN.out]; exact hrd) (k := k) (by have := HN.out; omega)
        rw [hx] at hy
        obtain rfl := Option.some.inj hy
        injection eR with e1 e2 e3
        subst e1 e3
        have c0 : wr.cell? ⟨sb, so + k, none⟩ = some (.int .i32 x) := hc0
        have HX := Lib.hid hx
        have HLK := Lib.hid hLk
        have t0 : (0 : Int) ≤ (k : Int) := by omega
        have t1 : (k : Int) < (n : Int) := by omega
        have t2 : (k : Int) < 6 := by omega
        clear hx hrd hy hc0 e2 hLk
        go_wp2_with fail
        refine (asl_any x _).mono ?_
        rintro e w3 ⟨rfl, rfl⟩
        go_wp2_with (first | (at_builtin; (refine wpList_append_reads rfl (.tmp 40) (.tmp 46) 32 rfl w.heap.size 21 (.int .i32 0) 1 4 Tryd.underlying32 info_i32y rfl (by decide) (by decide) (.slice ov k oc) k (L.map rV) rfl (HO.out.alloc _) (.slice (some ⟨wr.heap.size, 0, none⟩) 1 1) 1 [rV (aslP x)] rfl (reads1 wr (aslP x)) (by simp [rV, Value.oneCell']) (by omega) (by simp; have := HB.out.size; omega) ?_; intro ao6 cap6 w6 hown6 hgr6 hat6; have HX6 := Lib.hid (And.intro hown6 (And.intro hgr6 hat6)); clear hown6 hgr6 hat6)))
        go_roundw
        case rel =>
          have hx := HX6.out
          have hb6 := below_own HB.out HO.out (.cells #[.int .i32 (aslP x)] 21) hx.2.1 HB.out.size
          refine ⟨k + 1, L ++ [aslP x], by go_num, by omega, by omega, by simp [HLK.out], Lib.hid ?_, Lib.hid hb6, Lib.hid ?_⟩
          · rw [HLe.out, take_aslP HX.out]
          · rw [List.map_append]; exact hx.1
        case measure => simp [intOf]; omega
      · have HLK := Lib.hid hLk
        have haz : ∀ x ∈ L, AZ x := by
          rw [HLe.out]
          intro x hx
          obtain ⟨y, _, rfl⟩ := List.mem_map.1 hx
          exact aslP_az y
        have HAZ := Lib.hid haz
        clear hLk haz
        by_cases hlt : k < n
        · have t1 : (k : Int) < (n : Int) := by omega
          have t2 : ¬ (k : Int) < 6 := by omega
          go_wp2_with fail
          go_meet
          exact ⟨k, L, HLK.out, hk6, HAZ, HB, HO⟩
        · have t1 : ¬ (k : Int) < (n : Int) := by omega
          go_wp2_with fail
          go_meet
          exact ⟨k, L, HLK.out, hk6, HAZ, HB, HO⟩
  case rest =>
  obtain ⟨k, L, hLk, hk6, HAZ, HB, HO⟩ := hcut
  rename World => wr
  obtain ⟨ov, oc, rfl⟩ := ownsRow_form HO.out
  have HLK := Lib.hid hLk
  clear hLk
  go_upto_if 50 with (fail)
  go_cut [5] (fun v5 wx => ∃ (m : Nat) (ws : List Int) (ao : Option Addr) (ac : Nat), v5 = .slice ao m ac ∧ 1 ≤ m ∧ m ≤ 6 ∧ Hid (ws.length = m) ∧ Hid (∀ x ∈ ws, AZ x) ∧ Hid (Below w.heap.size w wx) ∧ Hid (Reads wx (.slice ao m ac) m 1 (ws.map rV)))
  case first =>
    by_cases hk0 : k = 0
    · have t1 : ((k : Int) == 0) = true := by simp [hk0]
      go_wp2_with fail
      go_meet
      exact ⟨1, [97], some ⟨wr.heap.size, 0, none⟩, 1, rfl, by omega, by omega, Lib.hid rfl, Lib.hid (by intro x hx; simp at hx; subst hx; unfold AZ; omega), Lib.hid (HB.out.alloc HB.out.size _), Lib.hid (reads1 wr 97)⟩
    · have t1 : ((k : Int) == 0) = false := beq_eq_false_iff_ne.2 (by omega)
      go_wp2_with fail
      go_meet
      exact ⟨k, L, ov, oc, rfl, by omega, by omega, HLK, HAZ, HB, Lib.hid (reads_of_owns HO.out)⟩
  case rest =>
  obtain ⟨m, ws, ao, ac, rfl, hm1, hm6, HWL, HWA, HWB, HWR⟩ := hcut
  clear HAZ HB HO HLK
  clear hk6
  rename World => w5
  have hword := fun (W : World) (hb : Below w5.heap.size w5 W) (t : ByteArray) (ht : t.size ≤ 1000) (mb : Bool) (hm : mb = true ↔ fL ws (bys t)) => word_fold ad ws (.slice ao m ac) t W mb HWA.out (by have := HWL.out; omega) (by rw [HWL.out]; exact HWR.out.below hb) ((HF.out.below (HWB.out.trans (hb.mono HWB.out.size))).up (HWB.out.trans (hb.mono HWB.out.size)).size) (HL.out.below (HWB.out.trans (hb.mono HWB.out.size))).env (HL.out.below (HWB.out.trans (hb.mono HWB.out.size))).errs (HL.out.below (HWB.out.trans (hb.mono HWB.out.size))).h5b ht hm
  have HWORD := Lib.hid hword
  have hfew := fun W => fewb_any s 40 W (by omega) (by omega)
  have HFEW := Lib.hid hfew
  clear hword hfew
  go_wp2_with fail
  refine (HFEW.out _).mono ?_
  rintro e w6 ⟨⟨s', rfl, hs'⟩, rfl⟩
  obtain ⟨mb, hmb⟩ : ∃ mb : Bool, mb = true ↔ fL ws (bys s') := ⟨@decide _ (Classical.propDecidable (fL ws (bys s'))), @decide_eq_true_iff _ (Classical.propDecidable (fL ws (bys s')))⟩
  have HMB := Lib.hid hmb
  clear hmb
  go_wp2_with fail
  obtain ⟨W6, hW6⟩ : ∃ W6, W6 = w5.alloc (.cells #[.int .i64 3, .slice ao m ac, .int .i64 0, .int .i64 0, .bool false, .bool true, .slice none 0 0] 35) := ⟨_, rfl⟩
  have hb6 : Below w5.heap.size w5 W6 := by rw [hW6]; exact (Below.refl _ _).alloc (Nat.le_refl _) _
  have b6 : W6.heap[w5.heap.size]? = some (.cells #[.int .i64 3, .slice ao m ac, .int .i64 0, .int .i64 0, .bool false, .bool true, .slice none 0 0] 35 (0, 0)) := by rw [hW6]; exact heap_alloc_new w5 _
  have hk6 := fun (W : World) (hb : Below W6.heap.size W6 W) => (cells7 ((Mod.of_below (F := fun _ => False) hb).heap b6 (fun h => h))).1
  have HK := Lib.hid hk6
  have HB6 := Lib.hid hb6
  clear hk6 b6 hb6
  rw [← hW6]
  clear hW6
  refine (HWORD.out W6 HB6.out s' (by omega) mb HMB.out).mono ?_
  rintro e w7 ⟨rfl, hb7⟩
  have H7 := Lib.hid hb7
  clear hb7
  go_wp2_with fail
  go_loopw [11, 12, 13, 14] (fun sv gv iv _ wx => ∃ (k : Nat) (sm gr : ByteArray), sv = .string sm ∧ gv = .string gr ∧ iv = .int .i64 (k : Int) ∧ k ≤ m ∧ sm.size = k ∧ gr.size = k ∧ Hid (fL (ws.take k) (bys sm) ∧ fL (ws.take k) (bys gr)) ∧ Hid (Below W6.heap.size W6 wx)) (fun _ _ iv _ _ => m - (intOf iv).toNat)
  case atStart => exact ⟨0, ⟨#[]⟩, ⟨#[]⟩, rfl, rfl, rfl, Nat.zero_le _, rfl, rfl, Lib.hid ⟨rfl, rfl⟩, H7⟩
  case round =>
    obtain ⟨k, sm, gr, rfl, rfl, rfl, hk, hsm, hgr, HSG, HX⟩ := hrel
    rename World => wx
    by_cases hlt : k < m
    · obtain ⟨x, hx⟩ : ∃ x, ws[k]? = some x := ⟨_, List.getElem?_eq_getElem (by have := HWL.out; omega)⟩
      have hxa := HWA.out x (List.mem_of_getElem? hx)
      have hbx := HB6.out.trans (HX.out.mono HB6.out.size)
      have hrd := HWR.out.below hbx
      obtain ⟨rb, ro, rcap, y, eR, hy, hcx⟩ := Reads.one rV (show Reads wx (.slice ao m ac) ws.length 1 (ws.map rV) by rw [HWL.out]; exact hrd) (k := k) (by have := HWL.out; omega)
      rw [hx] at hy
      obtain rfl := Option.some.inj hy
      injection eR with e1 e2 e3
      subst e1 e3
      have hcx' : wx.cell? ⟨rb, ro + k, none⟩ = some (.int .i32 x) := hcx
      have hlb := lowP_bd hxa
      have hlw := low_any x wx
      have HLX := Lib.hid (And.intro (fL_small hx hxa HSG.out.1) (fL_great hx hxa HSG.out.2))
      obtain ⟨p, hp⟩ : ∃ p, p = lowP x := ⟨_, rfl⟩
      rw [← hp] at hlb hlw HLX
      have HLW := Lib.hid hlw
      have t0 : (0 : Int) ≤ (k : Int) := by omega
      have t1 : (k : Int) < (m : Int) := by omega
      have q1 : IntKind.u8.wrap p = p := by rw [IntKind.wrap_u8]; omega
      have q2 : IntKind.i32.wrap (p - 32) = p - 32 := IntWalk.i32_in _ (by omega)
      have q3 : IntKind.u8.wrap (p - 32) = p - 32 := by rw [IntKind.wrap_u8]; omega
      have c1 := conv_new wx [p] 5 1 rfl #[.int .u8 p] rfl 9 Tryd.underlying9
      have c2 := conv_new (wx.alloc (.cells #[.int .u8 p] 5)) [p - 32] 5 1 rfl #[.int .u8 (p - 32)] rfl 9 Tryd.underlying9
      have hsz : (wx.alloc (.cells #[.int .u8 p] 5)).heap.size = wx.heap.size + 1 := by simp
      rw [hsz] at c2
      have z1 : (strOfNums [p]).size = 1 := by rw [strOfNums_size]; rfl
      have z2 : (strOfNums [p - 32]).size = 1 := by rw [strOfNums_size]; rfl
      have v1 : ¬ 9223372036854775807 < sm.size + (strOfNums [p]).size := by omega
      have v2 : ¬ 9223372036854775807 < gr.size + (strOfNums [p - 32]).size := by omega
      have hb9 : Below W6.heap.size W6 ((wx.alloc (.cells #[.int .u8 p] 5)).alloc (.cells #[.int .u8 (p - 32)] 5)) := (HX.out.alloc HX.out.size _).alloc (by have := HX.out.size; simp; omega) _
      have H9 := Lib.hid hb9
      have HP := Lib.hid hp
      clear hx hxa hbx hrd hy hcx e2 hlb hlw hp hb9
      go_wp2_with fail
      refine HLW.out.mono ?_
      rintro e w8 ⟨rfl, rfl⟩
      go_wp2_with fail
      go_roundw
      case rel => exact ⟨k + 1, sm ++ strOfNums [p], gr ++ strOfNums [p - 32], rfl, rfl, by go_num, hlt, by rw [ByteArray.size_append]; omega, by rw [ByteArray.size_append]; omega, HLX, H9⟩
      case measure => simp [intOf]; omega
    · obtain rfl : k = m := by omega
      have htk : ws.take k = ws := List.take_of_length_le (by have := HWL.out; omega)
      have hsg := HSG.out
      rw [htk] at hsg
      have hbx := HB6.out.trans (HX.out.mono HB6.out.size)
      have hr1 := HWORD.out wx hbx sm (by omega) true ⟨fun _ => hsg.1, fun _ => rfl⟩
      have hr2 := fun (W : World) (hb : Below wx.heap.size wx W) => HWORD.out W (hbx.trans (hb.mono hbx.size)) gr (by omega) true ⟨fun _ => hsg.2, fun _ => rfl⟩
      have hr3 := fun (W : World) (hb : Below wx.heap.size wx W) => folds_any ws (.slice ao k ac) s' W mb HWA.out (by have := HWL.out; omega) (by rw [HWL.out]; exact HWR.out.below (hbx.trans (hb.mono hbx.size))) (by omega) HMB.out
      have hend := HWB.out.trans (hbx.mono HWB.out.size)
      obtain ⟨y0, y1, y2, y3, y4, y5, y6⟩ := HK.out wx HX.out
      have HR1 := Lib.hid hr1
      have HR2 := Lib.hid hr2
      have HR3 := Lib.hid hr3
      have HEND := Lib.hid hend
      have qm : (mb == mb) = true := by simp
      clear htk hsg hbx hr1 hr2 hr3 hend
      go_wp2_with fail
      refine HR1.out.mono ?_
      rintro e w8 ⟨rfl, hb8⟩
      clear y0 y1 y2 y3 y4 y5 y6
      obtain ⟨y0, y1, y2, y3, y4, y5, y6⟩ := HK.out w8 (HX.out.trans (hb8.mono HX.out.size))
      have H8 := Lib.hid hb8
      clear hb8
      go_wp2_with fail
      refine (HR2.out w8 H8.out).mono ?_
      rintro e w9 ⟨rfl, hb9⟩
      clear y0 y1 y2 y3 y4 y5 y6
      have H9 := Lib.hid (H8.out.trans (hb9.mono H8.out.size))
      clear hb9
      go_wp2_with fail
      refine (HR3.out w9 H9.out).mono ?_
      rintro e w10 ⟨rfl, hb10⟩
      have H10 := Lib.hid (HEND.out.trans ((H9.out.trans (hb10.mono H9.out.size)).mono HEND.out.size))
      clear hb10
      go_wp2_with fail
      go_ret
      exact ⟨rfl, H10.out⟩
end Go.Proofs.YtnpchkohfomagaaDoor.Rgw
/-! Folded letters: the tables, out of the listed variables. -/
namespace Go.Proofs.YtnpchkohfomagaaDoor.Rgw
open Go.ChangeShapes Go.WideShapes Go.ChangeAt Go.RowKit Go.Trav Go.Rg Go.Proofs.YtnpchkohfomagaaDoor.Rgy Go.Proofs.YtnpchkohfomagaaDoor.Seq
set_option linter.unusedVariables false
set_option maxRecDepth 100000
def intsA : DataW Unit → List Int
  | .agg l => l.map fun | .lit (.int _ n) => n | _ => 0
  | _ => []
def pairsA : DataW Unit → List (Int × Int)
  | .slice l _ => l.map fun | .agg [.lit (.int _ a), .lit (.int _ b)] => (a, b) | _ => (0, 0)
  | _ => []
def ascL : List Int := intsA Rows.laid_unicode_asciiFold
def orbL : List (Int × Int) := pairsA Rows.laid_unicode_caseOrbit
theorem ascL_is : ∀ r : Fin 128, AZ (r.val : Int) → ascL[r.val]? = some (fF (r.val : Int)) := by decide +kernel
theorem orb_sorted : ∀ i : Fin orbL.length, ∀ j : Fin orbL.length, i.val < j.val → (orbL[i.val]?.getD (0, 0)).1 < (orbL[j.val]?.getD (0, 0)).1 := by decide +kernel
theorem orb_small : ∀ i : Fin orbL.length, 0 ≤ (orbL[i.val]?.getD (0, 0)).1 ∧ (orbL[i.val]?.getD (0, 0)).1 < 65536 ∧ 0 ≤ (orbL[i.val]?.getD (0, 0)).2 ∧ (orbL[i.val]?.getD (0, 0)).2 < 65536 := by decide +kernel
theorem orb_k : ∃ i : Fin orbL.length, orbL[i.val]?.getD (0, 0) = (8490, 75) := by decide +kernel
theorem orb_s : ∃ i : Fin orbL.length, orbL[i.val]?.getD (0, 0) = (383, 83) := by decide +kernel
theorem orb_len : orbL.length ≤ 1000 := by decide +kernel
theorem orb_pos : 0 < orbL.length := by decide +kernel
theorem arr_of {w : World} {f : Nat} {cs : Array Value} {p : List MemPlace} {enc : TypeId × Value → Unit} {spare : Nat → Bool} {held : Bool}
    (hv : w.var? Tryd.prog "unicode.asciiFold" = some cs) (hg : Tryd.prog.globalNamed "unicode.asciiFold" = some 5) (hd : DataW.trod enc Tryd.prog w 0 spare held f 177 cs.toList = some (Rows.laid_unicode_asciiFold, p)) :
    ∀ r : Nat, AZ (r : Int) → w.cell? ⟨5, r, none⟩ = some (.int .u16 (fF (r : Int))) := by
  intro r hr
  have hr9 : r < 128 := by unfold AZ at hr; omega
  have hl : Rows.laid_unicode_asciiFold = (.agg (ascL.map fun n => .lit (.int .u16 n)) : DataW Unit) := by kernel_rfl
  rw [hl] at hd
  obtain ⟨xs, m, _, hx, _, hlen, hel⟩ := DataW.trod_array Tryd.underlying177 hd
  simp only [Prod.mk.injEq, DataW.agg.injEq] at hx
  obtain ⟨h1, _⟩ := hx
  have h2 := hel r hr9
  rw [show Tryd.prog.cellsOf 71 = 1 by kernel_rfl, Nat.mul_one] at h2
  have h3 := ascL_is ⟨r, hr9⟩ hr
  have h4 : (xs.map (·.1))[r]? = some (.lit (.int .u16 (fF (r : Int)))) := by rw [← h1, List.getElem?_map, h3]; rfl
  rw [List.getElem?_map] at h4
  obtain ⟨y, hy, h5⟩ := Option.map_eq_some_iff.1 h4
  rw [hy] at h2
  obtain ⟨z, e3, e4, _⟩ := DataW.trod_int Tryd.underlying71 h2
  rw [e4] at h5
  simp only [DataW.lit.injEq, Lit.int.injEq, true_and] at h5
  subst h5
  have h6 := congrArg (fun l => l[0]?) e3
  have h7 := World.var?_cell hg hv r
  rw [h7]
  simpa [List.getElem?_take, List.getElem?_drop] using h6
theorem add_n (B off n : Nat) : (⟨B, off, none⟩ : Addr).add n = ⟨B, off + n, none⟩ := by unfold Addr.add; split <;> simp_all
theorem spot_none {w : World} {a : Addr} {v : Value} (h : w.cell? a = some v) : a = ⟨a.block, a.off, none⟩ := by
  obtain ⟨b, o, sp⟩ := a
  cases sp with
  | none => rfl
  | some k =>
    exfalso
    unfold World.cell? at h
    split at h
    · simp at h
    · cases h
theorem orb_of {w : World} {f : Nat} {cs : Array Value} {p : List MemPlace} {enc : TypeId × Value → Unit} {spare : Nat → Bool} {held : Bool}
    (hv : w.var? Tryd.prog "unicode.caseOrbit" = some cs) (hg : Tryd.prog.globalNamed "unicode.caseOrbit" = some 6) (hd : DataW.trod enc Tryd.prog w 0 spare held f 178 cs.toList = some (Rows.laid_unicode_caseOrbit, p)) :
    ∃ (B off cap : Nat), w.cell? ⟨6, 0, none⟩ = some (.slice (some ⟨B, off, none⟩) orbL.length cap) ∧ ∀ k, k < orbL.length → w.cell? ⟨B, off + k * 2, none⟩ = some (.int .u16 (orbL[k]?.getD (0, 0)).1) ∧ w.cell? ⟨B, off + k * 2 + 1, none⟩ = some (.int .u16 (orbL[k]?.getD (0, 0)).2) := by
  have hl : Rows.laid_unicode_caseOrbit = (.slice (orbL.map fun q => .agg [.lit (.int .u16 q.1), .lit (.int .u16 q.2)]) [] : DataW Unit) := by kernel_rfl
  rw [hl] at hd
  rcases Deep.open_slice Tryd.underlying178 hd with ⟨_, hx⟩ | ⟨a, len, cap, m, n, D, Pl, hc, _, hle, _, hm, hx, hel⟩
  · simp at hx
  simp only [Prod.mk.injEq, DataW.slice.injEq] at hx
  obtain ⟨⟨h1, h2⟩, _⟩ := hx
  have hlen : len = orbL.length := by
    have := congrArg List.length h1
    simpa using this.symm
  subst hlen
  have hmm : orbL.length ≤ m := by rw [hm]; split <;> omega
  have hall : ∀ k, k < orbL.length → w.cell? (a.add (k * 2)) = some (.int .u16 (orbL[k]?.getD (0, 0)).1) ∧ w.cell? ((a.add (k * 2)).add 1) = some (.int .u16 (orbL[k]?.getD (0, 0)).2) := by
    intro k hk
    obtain ⟨cs', k1, k2⟩ := hel k (by omega)
    rw [show Tryd.prog.cellsOf 180 = 2 by kernel_rfl] at k1
    have e5 : (List.range orbL.length |>.map D)[k]? = some (D k) := by simp [hk]
    rw [← h1] at e5
    simp only [List.getElem?_map, List.getElem?_eq_getElem hk, Option.map_some, Option.some.injEq] at e5
    rw [← e5] at k2
    obtain ⟨c0, c1⟩ := pair_cells Tryd.underlying180 _ _ rfl rfl rfl rfl (by kernel_rfl) (by kernel_rfl) Tryd.underlying71 Tryd.underlying71 k2
    obtain ⟨_, _, hcs⟩ := World.cells?_some k1
    rw [List.getElem?_eq_getElem hk, Option.getD_some]
    refine ⟨?_, ?_⟩
    · have := hcs 0 (by omega)
      rw [c0] at this
      exact this
    · have := hcs 1 (by omega)
      rw [c1] at this
      exact this
  have hg0 := World.var?_cell hg hv 0
  rw [Array.eq_one_of_toList hc] at hg0
  have hg1 : w.cell? ⟨6, 0, none⟩ = some (.slice (some a) orbL.length cap) := by simpa using hg0
  obtain ⟨B, off, sp⟩ := a
  have h0 := spot_none (hall 0 orb_pos).1
  obtain rfl : sp = none := by
    have := congrArg Addr.spot h0
    simpa [Addr.add] using this
  exact ⟨B, off, cap, hg1, fun k hk => by have := hall k hk; rw [add_n, add_n] at this; exact this⟩
theorem runes_arg {H : Type} {enc : TypeId × Value → H} {w : World} {spare : Nat → Bool} {held : Bool} {v : Value} {d : DataW H} {ps : List MemPlace} {r : Reach} {b0 : Nat} (hv : Value.okWide Tryd.prog w r b0 32 v) (h : DataW.Trod enc Tryd.prog w 0 spare held 32 v d ps) : ∃ way : List Int, Reads w v way.length 1 (way.map rV) := by
  obtain ⟨a0, len0, cap0, e0⟩ := okWide_slice Tryd.underlying32 hv
  obtain ⟨css, m, k⟩ := slice_reads Tryd.underlying32 (s := 1) (by kernel_rfl) (by decide) e0 h (fun cs => ∃ z : Int, cs = [rV z]) (fun n cs x hl hx => by
    match cs, hl with
    | [c], _ => obtain ⟨z, rfl, _⟩ := int_one Tryd.underlying21 hx; exact ⟨z, rfl⟩)
  have hz : ∃ l : List Int, l.length = css.length ∧ css.flatten = l.map rV := by
    clear k e0 h hv
    induction css with
    | nil => exact ⟨[], rfl, rfl⟩
    | cons c r ih =>
      obtain ⟨l, hl, e⟩ := ih (fun x hx => m x (by simp [hx]))
      obtain ⟨_, y, rfl⟩ := m c (by simp)
      exact ⟨y :: l, by simp [hl], by simp [e]⟩
  obtain ⟨l, hl, e⟩ := hz
  rw [e, ← hl] at k
  exact ⟨l, k⟩
theorem fold_of {W : World} (h : laidMetH Tryd.prog Rows.fnRegexFoldRow.laid W) : FoldT W W.heap.size := by
  rw [MakeChecks.laidMetH_plain _ _ _ (by kernel_rfl)] at h
  have h2 := h.tail.tail
  obtain ⟨ps, ⟨g0, t0, cs0, f0, p0, q0, hg0, ht0, hv0, hd0, ⟨g1, t1, cs1, f1, p1, q1, hg1, ht1, hv1, hd1, _, _⟩, _⟩, _, _⟩ := h2
  have G0 : Tryd.prog.globalNamed "unicode.asciiFold" = some 5 := by kernel_rfl
  have G1 : Tryd.prog.globalNamed "unicode.caseOrbit" = some 6 := by kernel_rfl
  have R0 : (Tryd.prog.globals[5]?).map (·.type) = some 177 := by kernel_rfl
  have R1 : (Tryd.prog.globals[6]?).map (·.type) = some 178 := by kernel_rfl
  obtain rfl := Option.some.inj (G0.symm.trans hg0)
  obtain rfl := Option.some.inj (G1.symm.trans hg1)
  obtain rfl := Option.some.inj (R0.symm.trans ht0)
  obtain rfl := Option.some.inj (R1.symm.trans ht1)
  have ha := arr_of hv0 G0 hd0
  obtain ⟨B, off, cap, hb, hc⟩ := orb_of hv1 G1 hd1
  have hlt : B < W.heap.size := World.block_lt_of_cell? W _ (hc 0 orb_pos).1
  refine ⟨ha, ⟨B, off, orbL.length, cap, fun k => (orbL[k]?.getD (0, 0)).1.toNat, fun k => (orbL[k]?.getD (0, 0)).2.toNat, hlt, hb, orb_len, fun k hk => ?_, fun i j hij hj => ?_, ?_, ?_⟩, World.block_lt_of_cell? W _ (ha 65 (by unfold AZ; omega)), World.block_lt_of_cell? W _ hb⟩
  · obtain ⟨s1, s2, s3, s4⟩ := orb_small ⟨k, hk⟩
    obtain ⟨c1, c2⟩ := hc k hk
    dsimp only at s1 s2 s3 s4
    refine ⟨?_, ?_, by dsimp only; omega, by dsimp only; omega⟩
    · rw [c1]; simp only [Int.toNat_of_nonneg s1]
    · rw [c2]; simp only [Int.toNat_of_nonneg s3]
  · have h1 := orb_sorted ⟨i, by omega⟩ ⟨j, hj⟩ hij
    have h2 := (orb_small ⟨i, by omega⟩).1
    have h3 := (orb_small ⟨j, hj⟩).1
    dsimp only at h1 h2 h3 ⊢
    omega
  · obtain ⟨i, hi⟩ := orb_k
    exact ⟨i.val, i.isLt, by dsimp only; rw [hi]; rfl, by dsimp only; rw [hi]; rfl⟩
  · obtain ⟨i, hi⟩ := orb_s
    exact ⟨i.val, i.isLt, by dsimp only; rw [hi]; rfl, by dsimp only; rw [hi]; rfl⟩
end Go.Proofs.YtnpchkohfomagaaDoor.Rgw
