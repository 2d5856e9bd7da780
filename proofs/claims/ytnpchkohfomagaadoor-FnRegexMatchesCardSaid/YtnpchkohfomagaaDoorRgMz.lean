/- spec.Rune: the letter at the beginning of a text. (and what follows) -/
import Derived.Test.YtnpchkohfomagaaDoorRgMx
import Derived.Test.YtnpchkohfomagaaDoorRgY1
import Derived.Test.YtnpchkohfomagaaDoorRgHb
import Derived.Test.YtnpchkohfomagaaDoorRgH2
import Derived.Deep.DeepCutAuto
import Derived.Deep.QuietTactic
import Derived.BigQuiet
import Derived.Test.YtnpchkohfomagaaDoorRgPa
import Derived.Test.YtnpchkohfomagaaDoorRgX4
import Derived.Test.YtnpchkohfomagaaDoorRgJa
/-! spec.Rune: the letter at the beginning of a text. -/
namespace Go.Proofs.YtnpchkohfomagaaDoor.Rgm
open Go.ChangeShapes Go.WideShapes Go.ChangeAt Go.RowKit Go.Trav Go.Rg Go.Utf Go.Proofs.YtnpchkohfomagaaDoor.Rgw Go.Proofs.YtnpchkohfomagaaDoor.Rgy Go.Proofs.YtnpchkohfomagaaDoor.Utf0
set_option linter.unusedVariables false
set_option linter.unusedSimpArgs false
set_option maxRecDepth 100000
theorem wideP_long (b : Nat) (hb : b < 256) : (wideP (b : Int)).1 = longN b := by
  unfold wideP longN
  by_cases h1 : b < 128
  · rw [if_pos (by omega), if_pos h1]
  rw [if_neg (by omega), if_neg h1]
  by_cases h2 : 194 ≤ b ∧ b < 224
  · rw [if_pos (by omega), if_pos h2]
  rw [if_neg (by omega), if_neg h2]
  by_cases h3 : 224 ≤ b ∧ b < 240
  · rw [if_pos (by omega), if_pos h3]
  rw [if_neg (by omega), if_neg h3]
  by_cases h4 : 240 ≤ b ∧ b < 245
  · rw [if_pos (by omega), if_pos h4]
  · rw [if_neg (by omega), if_neg h4]
/-- What the first byte says, for letters of more than one byte. -/
theorem first_of (b n : Nat) (hb : b < 256) (hn : longN b = n) (h2 : 2 ≤ n) : ∃ (r : Nat) (mk ls : Int), (wideP (b : Int)).2 = (r : Int) ∧ ([.int .u8 0, .int .u8 127, .int .u8 31, .int .u8 15, .int .u8 7] : List Value)[n]? = some (.int .u8 mk) ∧ ([.int .i32 0, .int .i32 0, .int .i32 128, .int .i32 2048, .int .i32 65536] : List Value)[n]? = some (.int .i32 ls) ∧
    bits BinOp.and IntKind.u8 (b : Int) mk = (r : Int) ∧ (r + 1) * 64 ^ (n - 2) ≤ 20480 ∧ n ≤ 4 ∧ (n = 2 → r ≤ 31) ∧ (n = 3 → r ≤ 15) ∧ (∀ x : Int, Let x → (wid x = n ↔ ls ≤ x ∧ (n = 2 → x ≤ 2047) ∧ (n = 3 → x ≤ 65535))) := by
  unfold longN at hn
  unfold wideP
  split at hn
  · omega
  rename_i h1
  rw [if_neg (by omega)]
  split at hn
  · rename_i h3
    subst hn
    rw [if_pos (by omega)]
    refine ⟨b - 192, 31, 128, by simp only; omega, rfl, rfl, ?_, by omega, by omega, by omega, by omega, fun x hx => ?_⟩
    · have := and31 ⟨b, hb⟩; simp only at this; rw [this]; congr 1; omega
    · unfold wid; have := hx.1; have := hx.2.1
      split
      · omega
      · split
        · omega
        · split <;> omega
  rename_i h3
  rw [if_neg (by omega)]
  split at hn
  · rename_i h4
    subst hn
    rw [if_pos (by omega)]
    refine ⟨b - 224, 15, 2048, by simp only; omega, rfl, rfl, ?_, by omega, by omega, by omega, by omega, fun x hx => ?_⟩
    · have := and15 ⟨b, hb⟩; simp only at this; rw [this]; congr 1; omega
    · unfold wid; have := hx.1; have := hx.2.1
      split
      · omega
      · split
        · omega
        · split <;> omega
  rename_i h4
  rw [if_neg (by omega)]
  split at hn
  · rename_i h5
    subst hn
    rw [if_pos (by omega)]
    refine ⟨b - 240, 7, 65536, by simp only; omega, rfl, rfl, ?_, by omega, by omega, by omega, by omega, fun x hx => ?_⟩
    · have := and7 ⟨b, hb⟩; simp only at this; rw [this]; congr 1; omega
    · unfold wid; have := hx.1; have := hx.2.1
      split
      · omega
      · split
        · omega
        · split <;> omega
  · omega
theorem acc_congr {l l' : List Int} {r : Int} : ∀ k, (∀ j, 1 ≤ j → j ≤ k → l[j]? = l'[j]?) → acc l r k = acc l' r k
  | 0, _ => rfl
  | k + 1, h => by
    show 64 * acc l r k + l[k + 1]?.getD 0 - 128 = 64 * acc l' r k + l'[k + 1]?.getD 0 - 128
    rw [acc_congr k fun j a b => h j a (by omega), h (k + 1) (by omega) (Nat.le_refl _)]
theorem sI_take (s : ByteArray) (n : Nat) (hn : n ≤ s.size) (j : Nat) (hj : j < n) (s' : ByteArray) (hs' : s'.size = n) (hg : ∀ (i : Nat) (h : i < n), s'[i]'(by omega) = s[i]'(by omega)) : (sI s')[j]? = (sI s)[j]? := by
  rw [sI_get s' j (by omega), sI_get s j (by omega), hg j hj]
/-- Good bytes are a letter's, if their number is one. -/
theorem good_begins {s s' : ByteArray} {b n r : Nat} {ls : Int} (hb : b < 256) (h0 : (sI s)[0]? = some (b : Int)) (hlong : longN b = n) (hn2 : 2 ≤ n) (hns : n ≤ s.size) (hr : (wideP (b : Int)).2 = (r : Int)) (hn4 : n ≤ 4) (hrb : (r + 1) * 64 ^ (n - 2) ≤ 20480) (hr2 : n = 2 → r ≤ 31) (hr3 : n = 3 → r ≤ 15)
    (hw : ∀ x : Int, Let x → (wid x = n ↔ ls ≤ x ∧ (n = 2 → x ≤ 2047) ∧ (n = 3 → x ≤ 65535))) (heq : ∀ j, j < n → (sI s')[j]? = (sI s)[j]?) :
    (GoodR (sI s') r n ls → Let (acc (sI s') r (n - 1)) → Begins (sI s) (acc (sI s') r (n - 1)) n) ∧
    ((¬ GoodR (sI s') r n ls ∨ ¬ Let (acc (sI s') r (n - 1))) → Begins (sI s) 0 0) := by
  have e1 : acc (sI s') (r : Int) (n - 1) = acc (sI s) (r : Int) (n - 1) := acc_congr _ fun j a b => heq j (by omega)
  have hw1 : (wideP (b : Int)).1 = n := by rw [wideP_long b hb, hlong]
  have ht : Tails (sI s') n ↔ Tails (sI s) n := by
    unfold Tails
    exact ⟨fun h j a b => by rw [← heq j b]; exact h j a b, fun h j a b => by rw [heq j b]; exact h j a b⟩
  refine ⟨fun hg hl => Or.inr ⟨hl, ?_, ?_⟩, fun hor => Or.inl ⟨rfl, rfl, fun x hx hpre => ?_⟩⟩
  · obtain ⟨g1, g2, g3⟩ := hg
    obtain ⟨v, hv1, hv2⟩ := acc_bd (l := sI s') (r := r) (n - 1) (by rw [show n - 1 + 1 = n by omega]; exact g1)
    refine (((hw _ hl).2 ⟨g2, fun h => ?_, fun h => ?_⟩)).symm
    · subst h; have := hr2; have := hr3; simp at hrb hv2; omega
    · subst h; have := hr2; have := hr3; simp at hrb hv2; omega
  · obtain ⟨g1, g2, g3⟩ := hg
    obtain ⟨v, hv1, hv2⟩ := acc_bd (l := sI s') (r := r) (n - 1) (by rw [show n - 1 + 1 = n by omega]; exact g1)
    have hwid : wid (acc (sI s') (r : Int) (n - 1)) = n := (hw _ hl).2 ⟨g2, fun h => by subst h; simp at hrb hv2; omega, fun h => by subst h; simp at hrb hv2; omega⟩
    refine acc_begins h0 (by omega) (by rw [hw1, sI_len]; exact hns) (by rw [hw1, hr]; exact e1) (by rw [hw1]; exact hwid) fun j a b => ?_
    rw [hw1] at b
    exact ht.1 g1 j a b
  · obtain ⟨c, hc, k1, k2, k3, k4⟩ := begins_acc hx hpre
    rw [h0] at hc
    obtain rfl : (b : Int) = c := by simpa using hc
    rw [hw1] at k1
    rw [← k1, hr] at k3
    rw [e1, k3] at hor
    rcases hor with h | h
    · refine h ⟨ht.2 fun j a b => k4 j a (by omega), ?_, ?_⟩
      · rw [e1, k3]; exact ((hw x hx).1 k1.symm).1
      · rw [e1, k3]; exact hx.2.1
    · exact h hx
theorem no_begins {s : ByteArray} {b : Nat} (hb : b < 256) (h0 : (sI s)[0]? = some (b : Int)) (h : longN b = 0 ∨ s.size < longN b) : Begins (sI s) 0 0 := by
  refine Or.inl ⟨rfl, rfl, fun x hx hpre => ?_⟩
  obtain ⟨c, hc, k1, k2, k3, k4⟩ := begins_acc hx hpre
  rw [h0] at hc
  obtain rfl : (b : Int) = c := by simpa using hc
  rw [wideP_long b hb] at k1
  rw [sI_len] at k2
  have : 1 ≤ wid x := by unfold wid; split <;> (try split) <;> (try split) <;> omega
  omega
theorem none_begins (s : ByteArray) : Begins (sI s) 0 0 ∨ 0 < (sI s).length := by
  by_cases h : 0 < (sI s).length
  · exact .inr h
  · refine .inl (Or.inl ⟨rfl, rfl, fun x hx hpre => ?_⟩)
    obtain ⟨c, hc, _⟩ := begins_acc hx hpre
    have := (List.getElem?_eq_some_iff.1 hc).1
    omega
theorem one_begins {s : ByteArray} {b : Nat} (h0 : (sI s)[0]? = some (b : Int)) (h : b < 128) (hs : 0 < s.size) : Begins (sI s) (b : Int) 1 := by
  have hl : Let (b : Int) := ⟨by omega, by omega, by omega⟩
  have hw : wid (b : Int) = 1 := by unfold wid; rw [if_pos (by omega)]
  have hp : wideP (b : Int) = (1, (b : Int)) := by unfold wideP; rw [if_pos (by omega)]
  exact Or.inr ⟨hl, hw.symm, acc_begins h0 (by omega) (by rw [hp, sI_len]; exact hs) (by rw [hp]; rfl) (by rw [hp, hw]) fun j a b => by rw [hp] at b; simp at b; omega⟩
theorem loop_len (s : ByteArray) (i : Nat) (r : List UInt8) : r.length ≤ (ByteArray.toList.loop s i r).length := by
  unfold ByteArray.toList.loop
  split
  · refine Nat.le_trans ?_ (loop_len s (i + 1) _)
    simp
  · simp
termination_by s.size - i
theorem toList_ne (s : ByteArray) (h : 0 < s.size) : s.toList.isEmpty = false := by
  unfold ByteArray.toList ByteArray.toList.loop
  rw [if_pos h]
  have := loop_len s 1 [s.get! 0]
  cases hq : ByteArray.toList.loop s (0 + 1) [s.get! 0] with
  | nil => rw [hq] at this; simp at this
  | cons => rfl
/-- The letter at the beginning of a text. -/
def RuneP (s : ByteArray) (e : Ending) : Prop := ∃ (r : Int) (k : Nat), e = .returned (.tuple #[.int .i32 r, .int .i64 (k : Int)]) ∧ Begins (sI s) r k
set_option maxHeartbeats 4000000 in
theorem rune_any (s : ByteArray) (w : World) (hs : s.size ≤ 100) : Calls Tryd.prog 46 #[.string s] w fun e w' => Below w.heap.size w w' ∧ RuneP s e := by
  by_cases hz : s.size = 0
  · have hse : s = ⟨#[]⟩ := by
      apply ByteArray.ext
      apply Array.eq_empty_of_size_eq_zero
      exact hz
    subst hse
    go_enter Tryd.func46, Tryd.ntmps46
    go_wp2_with fail
    refine bodyPost_ret (v := .tuple #[.int .i32 0, .int .i64 0]) (by simp [results, Tryd.results46, go_sem]) rfl ?_
    exact ⟨Below.refl _ _, 0, 0, rfl, Or.resolve_right (none_begins _) (by simp [sI])⟩
  obtain ⟨b, hb⟩ : ∃ b, b = (s[0]'(by omega)).toNat := ⟨_, rfl⟩
  have hb256 : b < 256 := by rw [hb]; exact UInt8.toNat_lt _
  have h0 : (sI s)[0]? = some (b : Int) := by rw [sI_get s 0 (by omega), hb]
  have hl := fun W => long_any b hb256 W
  obtain ⟨n, hn⟩ : ∃ n, n = longN b := ⟨_, rfl⟩
  rw [← hn] at hl
  have HN := Lib.hid hn
  clear hn
  have HL := Lib.hid hl
  have H0 := Lib.hid h0
  have HB := Lib.hid hb256
  have hs0 : 0 < s.size := by omega
  have hse : s.toList.isEmpty = false := toList_ne s hs0
  clear hl h0 hb256
  rw [eq_comm] at hb
  go_enter Tryd.func46, Tryd.ntmps46
  go_wp2_with fail
  refine (HL.out _).mono ?_
  rintro e w1 ⟨rfl, rfl⟩
  clear HL
  by_cases hn0 : n = 0
  · subst hn0
    go_wp2_with fail
    refine bodyPost_ret (v := .tuple #[.int .i32 0, .int .i64 0]) (by simp [results, Tryd.results46, go_sem]) rfl ?_
    exact ⟨Below.refl _ _, 0, 0, rfl, no_begins HB.out H0.out (.inl HN.out.symm)⟩
  have q0 : ((n : Int) == 0) = false := by simp; omega
  by_cases hlt : s.size < n
  · go_wp2_with fail
    refine bodyPost_ret (v := .tuple #[.int .i32 0, .int .i64 0]) (by simp [results, Tryd.results46, go_sem]) rfl ?_
    exact ⟨Below.refl _ _, 0, 0, rfl, no_begins HB.out H0.out (.inr (by rw [← HN.out]; exact hlt))⟩
  have hle : n ≤ s.size := by omega
  have i0 : (0 : Int) ≤ (n : Int) := by omega
  have i1 : (n : Int) ≤ (s.size : Int) := by omega
  have hnl : n ≤ 4 := by rw [HN.out]; unfold longN; split <;> (try split) <;> (try split) <;> (try split) <;> omega
  go_wp2_with fail
  obtain ⟨s', hs'⟩ : ∃ s', s' = s.extract 0 n := ⟨_, rfl⟩
  have hsz : s'.size = n := by rw [hs', ByteArray.size_extract]; omega
  have hg : ∀ (i : Nat) (h : i < n), s'[i]'(by omega) = s[i]'(by omega) := fun i h => by
    subst hs'
    rw [ByteArray.getElem_extract]
    congr 1
    omega
  have heq : ∀ j, j < n → (sI s')[j]? = (sI s)[j]? := fun j hj => sI_take s n hle j hj s' hsz hg
  have hb0 : (s'[0]'(by omega)).toNat = b := by rw [hg 0 (by omega)]; exact hb
  rw [← hs']
  by_cases hn1 : n = 1
  · subst hn1
    have hb128 : b < 128 := by
      have h := HN.out
      unfold longN at h
      split at h
      · assumption
      · split at h
        · cases h
        · split at h
          · cases h
          · split at h <;> cases h
    refine (runes_one s' _ hsz b hb128 hb0).mono ?_
    rintro e w2 ⟨rfl, hb2⟩
    have q3 : LetB (b : Int) = true := (letB_iff _).2 ⟨by omega, by omega, by omega⟩
    have hv := fun W => valid_any (b : Int) W
    rw [q3] at hv
    have HV := Lib.hid hv
    have HB2 := Lib.hid hb2
    have H1 := Lib.hid (one_begins H0.out hb128 hs0)
    clear q3 hv hb2 hb128 hb0 heq hg hs'
    go_wp2_with fail
    refine (HV.out _).mono ?_
    rintro e w3 ⟨rfl, hb3⟩
    have HB3 := Lib.hid (HB2.out.trans (hb3.mono HB2.out.size))
    clear hb3
    go_wp2_with fail
    refine bodyPost_ret (v := .tuple #[.int .i32 (b : Int), .int .i64 1]) (by simp [results, Tryd.results46, go_sem]) rfl ?_
    exact ⟨HB3.out, _, 1, rfl, H1.out⟩
  obtain ⟨r, mk, ls, k1, k2, k3, k4, k5, k6, k7, k8, k9⟩ := first_of b n HB.out HN.out.symm (by omega)
  have hgb := good_begins HB.out H0.out HN.out.symm (by omega) hle k1 k6 k5 k7 k8 k9 heq
  refine (runes_full n (by omega) k6 s' _ hsz b r mk ls HB.out hb0 HN.out.symm k2 k3 k4 k5).mono ?_
  rintro e w2 ⟨hb2, hr⟩
  have HB2 := Lib.hid hb2
  clear hb2 k1 k2 k3 k4 k5 k6 k7 k8 k9 hb0 heq hg hs' hsz
  rcases hr with ⟨hg, rfl⟩ | ⟨hg, lo, hi, rfl⟩
  · obtain ⟨x, hx⟩ : ∃ x, x = acc (sI s') (r : Int) (n - 1) := ⟨_, rfl⟩
    rw [← hx] at hgb ⊢
    have HX := Lib.hid hx
    by_cases hlet : Let x
    · have q3 : LetB x = true := (letB_iff _).2 hlet
      have hv := fun W => valid_any x W
      rw [q3] at hv
      have HV := Lib.hid hv
      have H1 := Lib.hid (hgb.1 hg hlet)
      clear q3 hv hgb hg hlet hx
      go_wp2_with fail
      refine (HV.out _).mono ?_
      rintro e w3 ⟨rfl, hb3⟩
      have HB3 := Lib.hid (HB2.out.trans (hb3.mono HB2.out.size))
      clear hb3
      go_wp2_with fail
      refine bodyPost_ret (v := .tuple #[.int .i32 x, .int .i64 (n : Int)]) (by simp [results, Tryd.results46, go_sem]) rfl ?_
      exact ⟨HB3.out, _, n, rfl, H1.out⟩
    · have q3 : LetB x = false := Bool.eq_false_iff.2 fun h => hlet ((letB_iff _).1 h)
      have hv := fun W => valid_any x W
      rw [q3] at hv
      have HV := Lib.hid hv
      have H1 := Lib.hid (hgb.2 (.inr hlet))
      clear q3 hv hgb hg hlet hx
      go_wp2_with fail
      refine (HV.out _).mono ?_
      rintro e w3 ⟨rfl, hb3⟩
      have HB3 := Lib.hid (HB2.out.trans (hb3.mono HB2.out.size))
      clear hb3
      go_wp2_with fail
      refine bodyPost_ret (v := .tuple #[.int .i32 0, .int .i64 0]) (by simp [results, Tryd.results46, go_sem]) rfl ?_
      exact ⟨HB3.out, _, 0, rfl, H1.out⟩
  · have H1 := Lib.hid (hgb.2 (.inl hg))
    clear hgb hg
    go_wp2_with fail
    refine bodyPost_ret (v := .tuple #[.int .i32 0, .int .i64 0]) (by simp [results, Tryd.results46, go_sem]) rfl ?_
    exact ⟨HB2.out, _, 0, rfl, H1.out⟩
end Go.Proofs.YtnpchkohfomagaaDoor.Rgm
/-! Letters at places of a text: plain. -/
namespace Go.Proofs.YtnpchkohfomagaaDoor.Rgm
open Go Go.Rg Go.Utf Go.Proofs.YtnpchkohfomagaaDoor.Utf0
set_option linter.unusedVariables false
/-- The bytes of a text. -/
def sN (s : ByteArray) : List Nat := s.data.toList.map UInt8.toNat
theorem sN_len (s : ByteArray) : (sN s).length = s.size := by unfold sN; rw [List.length_map]; rfl
theorem sI_sN (s : ByteArray) : sI s = (sN s).map fun b => ((b : Nat) : Int) := by unfold sI sN; rw [List.map_map]; rfl
theorem sN_extract (s : ByteArray) (i j : Nat) : sN (s.extract i j) = ((sN s).take j).drop i := by
  unfold sN
  rw [ByteArray.data_extract, Array.toList_extract, List.extract_eq_take_drop, ← List.map_take, ← List.map_drop, List.drop_take]
theorem sN_append (a b : ByteArray) : sN (a ++ b) = sN a ++ sN b := by
  unfold sN
  rw [ByteArray.data_append, Array.toList_append, List.map_append]
theorem ub_cast (c : Int) (h : Let c) : (ub c).map (fun b => ((b : Nat) : Int)) = ubytes c := by
  unfold ub
  rw [List.map_map]
  conv => rhs; rw [← List.map_id (ubytes c)]
  apply List.map_congr_left
  intro x hx
  have : 0 ≤ x := by
    have h0 := h.1
    unfold ubytes at hx
    split at hx
    · simp at hx; omega
    · split at hx
      · simp at hx; omega
      · split at hx
        · simp at hx; omega
        · simp at hx; omega
  simp; omega
theorem wid_pos (c : Int) : 1 ≤ wid c := by unfold wid; split <;> (try split) <;> (try split) <;> omega
theorem wid_le4 (c : Int) : wid c ≤ 4 := by unfold wid; split <;> (try split) <;> (try split) <;> omega
theorem seg_iff (L : List Nat) (i : Nat) (c : Int) (hc : Let c) : ubytes c <+: (L.drop i).map (fun b => ((b : Nat) : Int)) ↔ (L.take (i + wid c)).drop i = ub c := by
  rw [← ub_cast c hc, List.drop_take, show i + wid c - i = wid c by omega]
  constructor
  · intro h
    have h1 := List.prefix_iff_eq_take.1 h
    rw [List.length_map, ub_len, ← List.map_take] at h1
    exact ((List.map_inj_right (fun a b h => Int.ofNat.inj h)).1 h1).symm
  · intro h
    rw [← h, List.map_take]
    exact List.take_prefix _ _
theorem seg_bd {L : List Nat} {i : Nat} {c : Int} (h : (L.take (i + wid c)).drop i = ub c) : i + wid c ≤ L.length := by
  have := congrArg List.length h
  rw [ub_len, List.length_drop, List.length_take] at this
  have := wid_pos c
  omega
theorem two_let {l : List Int} {x y : Int} (hx : Let x) (hy : Let y) (h1 : ubytes x <+: l) (h2 : ubytes y <+: l) : x = y := by
  obtain ⟨c, hc, a1, a2, a3, a4⟩ := begins_acc hx h1
  obtain ⟨c', hc', b1, b2, b3, b4⟩ := begins_acc hy h2
  rw [hc] at hc'
  cases hc'
  rw [← a3, ← b3, ← a1, ← b1]
/-- Where letters of pairs can end that begin at one of the first m places. -/
def CPre (L : List Nat) (zs : List Int) (P : Nat → Prop) (m j : Nat) : Prop := ∃ (i : Nat) (c : Int), i < m ∧ P i ∧ Let c ∧ inB zs c = true ∧ i + wid c = j ∧ (L.take j).drop i = ub c
theorem cpre_zero (L : List Nat) (zs : List Int) (P : Nat → Prop) (j : Nat) : ¬ CPre L zs P 0 j := fun ⟨i, c, h, _⟩ => by omega
theorem cpre_step {L : List Nat} {zs : List Int} {P : Nat → Prop} {i k : Nat} {c : Int} (h : Begins ((L.drop i).map fun b => ((b : Nat) : Int)) c k) (j : Nat) :
    CPre L zs P (i + 1) j ↔ CPre L zs P i j ∨ (P i ∧ 0 < k ∧ inB zs c = true ∧ j = i + k) := by
  constructor
  · rintro ⟨i', c', h1, h2, h3, h4, h5, h6⟩
    by_cases he : i' = i
    · subst he
      right
      subst h5
      have hp := (seg_iff L i' c' h3).2 h6
      rcases h with ⟨hk, hc, hno⟩ | ⟨hc, hk, hpre⟩
      · exact absurd hp (hno c' h3)
      · have := two_let h3 hc hp hpre
        subst this
        exact ⟨h2, by have := wid_pos c'; omega, h4, by omega⟩
    · exact .inl ⟨i', c', by omega, h2, h3, h4, h5, h6⟩
  · rintro (⟨i', c', h1, h2, h3, h4, h5, h6⟩ | ⟨h1, h2, h3, h4⟩)
    · exact ⟨i', c', by omega, h2, h3, h4, h5, h6⟩
    · rcases h with ⟨hk, _⟩ | ⟨hc, hk, hpre⟩
      · omega
      · subst h4 hk
        exact ⟨i, c, by omega, h1, hc, h3, rfl, (seg_iff L i c hc).1 hpre⟩
theorem cpre_all (L : List Nat) (zs : List Int) (P : Nat → Prop) (j : Nat) : CPre L zs P L.length j ↔ Rch (Cls zs) L P j := by
  rw [rch_cls]
  constructor
  · rintro ⟨i, c, h1, h2, h3, h4, h5, h6⟩
    exact ⟨i, c, h2, h3, h4, h5, by subst h5; exact seg_bd h6, h6⟩
  · rintro ⟨i, c, h2, h3, h4, h5, h7, h6⟩
    exact ⟨i, c, by have := wid_pos c; omega, h2, h3, h4, h5, h6⟩
theorem begins_bd {L : List Nat} {i k : Nat} {c : Int} (h : Begins ((L.drop i).map fun b => ((b : Nat) : Int)) c k) (hk : 0 < k) : i + k ≤ L.length := by
  rcases h with ⟨h1, _⟩ | ⟨hc, rfl, hpre⟩
  · omega
  · exact seg_bd ((seg_iff L i c hc).1 hpre)
/-- Where a word ends that begins at one of the first m places. -/
def LPre (L w : List Nat) (P : Nat → Prop) (m j : Nat) : Prop := ∃ i, i < m ∧ P i ∧ i + w.length = j ∧ j ≤ L.length ∧ (L.take j).drop i = w
theorem lpre_step {L w : List Nat} {P : Nat → Prop} {i : Nat} (hi : i + w.length ≤ L.length) (j : Nat) :
    LPre L w P (i + 1) j ↔ LPre L w P i j ∨ (P i ∧ (L.take (i + w.length)).drop i = w ∧ j = i + w.length) := by
  constructor
  · rintro ⟨i', h1, h2, h3, h4, h5⟩
    by_cases he : i' = i
    · subst he
      subst h3
      exact .inr ⟨h2, h5, rfl⟩
    · exact .inl ⟨i', by omega, h2, h3, h4, h5⟩
  · rintro (⟨i', h1, h2, h3, h4, h5⟩ | ⟨h1, h2, h3⟩)
    · exact ⟨i', by omega, h2, h3, h4, h5⟩
    · subst h3
      exact ⟨i, by omega, h1, rfl, hi, h2⟩
theorem lpre_all {L w : List Nat} {P : Nat → Prop} {m : Nat} (hm : L.length < m + w.length) (rs : List Int) (hw : w = word rs) (j : Nat) : LPre L w P m j ↔ Rch (fun x => x = word rs) L P j := by
  subst hw
  rw [rch_lit]
  constructor
  · rintro ⟨i, h1, h2, h3, h4, h5⟩
    exact ⟨i, h2, h3, h4, h5⟩
  · rintro ⟨i, h2, h3, h4, h5⟩
    exact ⟨i, by omega, h2, h3, h4, h5⟩
end Go.Proofs.YtnpchkohfomagaaDoor.Rgm
/-! spec.Reached: its walk, node by node. -/
namespace Go.Proofs.YtnpchkohfomagaaDoor.Rgm
open Go.ChangeShapes Go.WideShapes Go.ChangeAt Go.RowKit Go.Trav Go.Rg Go.Utf Go.Proofs.YtnpchkohfomagaaDoor.Rgw Go.Proofs.YtnpchkohfomagaaDoor.Rgy Go.Proofs.YtnpchkohfomagaaDoor.Utf0 Go.Proofs.YtnpchkohfomagaaDoor.Seq
set_option linter.unusedVariables false
set_option linter.unusedSimpArgs false
set_option maxRecDepth 100000
theorem made_bools (n : Nat) : madeCells #[Value.bool false] n = ((List.replicate n false).map Value.bool).toArray := by
  apply Array.ext
  · simp [size_madeCells]
  · intro i h1 h2
    have : i % 1 = 0 := Nat.mod_one i
    simp [madeCells, this]
theorem own_mades {w : World} {base n : Nat} (hb : base ≤ w.heap.size) (hn : n ≤ 1000000) : (w.alloc (.cells (madeCells #[Value.bool false] n) 4)).ownsRow base 4 1 (.slice (some ⟨w.heap.size, 0, none⟩) n n) n ((List.replicate n false).map Value.bool) := by
  refine ⟨by simp, Or.inr ⟨w.heap.size, n, _, rfl, hb, heap_alloc_new w _, Nat.le_refl _, by unfold maxLen; omega, by simp [size_madeCells], ?_⟩⟩
  rw [made_bools, List.toList_toArray]
  exact List.take_of_length_le (by simp)
theorem bools_one (bs : List Bool) : ∀ z ∈ bs.map Value.bool, z.oneCell' = true := fun z hz => by
  obtain ⟨x, _, rfl⟩ := List.mem_map.1 hz; rfl
/-- Behind the box of the node and the row that is made. -/
structure Beg (s : ByteArray) (cs : Array Value) (w W : World) : Prop where
  bl : Below w.heap.size w W
  box : W.heap[w.heap.size]? = some (.cells cs 35 (0, 0))
  own : W.ownsRow w.heap.size 4 1 (.slice (some ⟨w.heap.size + 1, 0, none⟩) (s.size + 1) (s.size + 1)) (s.size + 1) ((List.replicate (s.size + 1) false).map Value.bool)
theorem Beg.of (s : ByteArray) (hs : s.size ≤ 100) (cs : Array Value) (w : World) : Beg s cs w ((w.alloc (.cells cs 35)).alloc (.cells (madeCells #[Value.bool false] (s.size + 1)) 4)) := by
  refine ⟨((Below.refl _ _).alloc (Nat.le_refl _) _).alloc (by simp) _, block_alloc (heap_alloc_new w _), ?_⟩
  have := own_mades (w := w.alloc (.cells cs 35)) (base := w.heap.size) (n := s.size + 1) (by simp) (by omega)
  simpa using this
/-- The parts of a node: their cells, and what spec.Reached says of each. -/
structure Parts (s : ByteArray) (css : List (List Value)) (Ls : List (List Nat → Prop)) (sa : Option Addr) (sc : Nat) (w : World) : Prop where
  rd : Reads w (.slice sa css.length sc) css.length 7 css.flatten
  h7 : ∀ c ∈ css, c.length = 7
  le : css.length ≤ 1000
  len : css.length = Ls.length
  form : ∀ c ∈ css, ∃ (o : Int) (ra : Option Addr) (rb rc : Nat) (mn mx : Int) (lz fo : Bool) (sa : Option Addr) (sb sc : Nat), c = [.int .i64 o, .slice ra rb rc, .int .i64 mn, .int .i64 mx, .bool lz, .bool fo, .slice sa sb sc]
  rec_ : ∀ (i : Nat) c L, css[i]? = some c → Ls[i]? = some L → ∀ (W : World) (u : Value) (X : Nat → Prop), Below w.heap.size w W → SetAt W u (s.size + 1) X → Calls Tryd.prog 45 #[.agg c.toArray, .string s, u] W (RPost (s.size + 1) (Rch L (sN s) X) W)
/-- The node's box and the row that is filled. -/
structure RB (s : ByteArray) (cs : Array Value) (bs : List Bool) (w wr : World) : Prop where
  bl : Below w.heap.size w wr
  box : wr.heap[w.heap.size]? = some (.cells cs 35 (0, 0))
  own : wr.ownsRow w.heap.size 4 1 (.slice (some ⟨w.heap.size + 1, 0, none⟩) (s.size + 1) (s.size + 1)) (s.size + 1) (bs.map Value.bool)
theorem RB.len {s : ByteArray} {cs : Array Value} {bs : List Bool} {w wr : World} (h : RB s cs bs w wr) : bs.length = s.size + 1 := by have := h.own.1; simpa using this
theorem RB.below {s : ByteArray} {cs : Array Value} {bs : List Bool} {w wr wy : World} (h : RB s cs bs w wr) (hb : Below wr.heap.size wr wy) : RB s cs bs w wy :=
  ⟨h.bl.trans (hb.mono h.bl.size), up_b hb h.box, ownsRow_mod h.own (Mod.of_below (F := fun _ => False) hb) fun _ _ h => h⟩
theorem RB.store {s : ByteArray} {cs : Array Value} {bs : List Bool} {w wr : World} (h : RB s cs bs w wr) (j : Nat) : RB s cs (bs.set j true) w (wr.setCell ⟨w.heap.size + 1, j, none⟩ (.bool true)) :=
  ⟨h.bl.setCell (p := ⟨w.heap.size + 1, j, none⟩) (Nat.le_succ _) _, (Mod.heap (F := fun k => k = w.heap.size + 1) ((Mod.refl (fun k => k = w.heap.size + 1) wr).setCell (p := ⟨w.heap.size + 1, j, none⟩) (fun _ => rfl) _) h.box (by omega)), own_set Value.bool h.own j true⟩
theorem RB.of {s : ByteArray} {cs : Array Value} {w W : World} (h : Beg s cs w W) : RB s cs (List.replicate (s.size + 1) false) w W := ⟨h.bl, h.box, h.own⟩
theorem RB.set {s : ByteArray} {cs : Array Value} {bs : List Bool} {w wr : World} (h : RB s cs bs w wr) {Q : Nat → Prop} (hq : ∀ (j : Nat) b, bs[j]? = some b → (b = true ↔ Q j)) : SetAt wr (.slice (some ⟨w.heap.size + 1, 0, none⟩) (s.size + 1) (s.size + 1)) (s.size + 1) Q := ⟨bs, reads_of_owns h.own, h.len, hq⟩
theorem set_true {bs : List Bool} {Q Q' : Nat → Prop} {k : Nat} (hq : ∀ (j : Nat) b, bs[j]? = some b → (b = true ↔ Q j)) (hQ : ∀ j, Q' j ↔ Q j ∨ j = k) : ∀ (j : Nat) b, (bs.set k true)[j]? = some b → (b = true ↔ Q' j) := fun j b hj => by
  by_cases he : j = k
  · subst he
    have hl : j < bs.length := by have := (List.getElem?_eq_some_iff.1 hj).1; simpa using this
    rw [List.getElem?_set_self hl] at hj
    cases hj
    simp [hQ]
  · rw [List.getElem?_set_ne (fun e => he e.symm)] at hj
    rw [hq j b hj, hQ]
    simp [he]
theorem sI_from (s : ByteArray) (i : Nat) : sI (s.extract i s.size) = ((sN s).drop i).map fun b => ((b : Nat) : Int) := by
  rw [sI_sN, sN_extract, List.take_of_length_le (by rw [sN_len]; omega)]
theorem word_len : ∀ rs : List Int, (word rs).length ≤ 4 * rs.length
  | [] => Nat.le_refl _
  | x :: rs => by
    have h := word_len rs
    have h1 : (word (x :: rs)).length = wid x + (word rs).length := by unfold word; rw [List.flatMap_cons, List.length_append, ub_len]
    have h2 := wid_le4 x
    rw [List.length_cons]
    omega
theorem word_sz {wd : ByteArray} (l : List Int) (h : sN wd = word l) : wd.size ≤ 4 * l.length := by
  have h1 := congrArg List.length h
  rw [sN_len] at h1
  have := word_len l
  omega
theorem str_eq (a b : ByteArray) : (a.toList == b.toList) = true ↔ sN a = sN b := by
  rw [ByteArray.toList_eq, ByteArray.toList_eq, beq_iff_eq]
  unfold sN
  exact (List.map_inj_right (fun x y h => UInt8.toNat_inj.1 h)).symm
set_option maxHeartbeats 4000000 in
theorem reach_empty (s : ByteArray) (hs : s.size ≤ 100) (P : Nat → Prop) (v : Value) (w : World) (hv : SetAt w v (s.size + 1) P) (ra : Option Addr) (rb rc : Nat) (mn mx : Int) (lz fo : Bool) (sa : Option Addr) (sb sc : Nat) :
    Calls Tryd.prog 45 #[.agg #[.int .i64 2, .slice ra rb rc, .int .i64 mn, .int .i64 mx, .bool lz, .bool fo, .slice sa sb sc], .string s, v] w (RPost (s.size + 1) (P) w) := by
  obtain ⟨va, vc, rfl⟩ := hv.form
  have hbg := Beg.of s hs #[.int .i64 2, .slice ra rb rc, .int .i64 mn, .int .i64 mx, .bool lz, .bool fo, .slice sa sb sc] w
  have hmk := fun W => run_make_row' (P := Tryd.prog) 25 4 (.bool false) 1 Tryd.underlying25 info_bool rfl .i64 .i64 (s.size + 1) (by omega) (by omega) W
  simp only [Int.natCast_add, Int.cast_ofNat_Int] at hmk
  have wr1 : IntKind.i64.wrap ((s.size : Int) + 1) = (s.size : Int) + 1 := IntWalk.i64_in _ (by omega)
  obtain ⟨W2, hW2⟩ : ∃ W2, W2 = ((w.alloc (.cells #[.int .i64 2, .slice ra rb rc, .int .i64 mn, .int .i64 mx, .bool lz, .bool fo, .slice sa sb sc] 35)).alloc (.cells (madeCells #[Value.bool false] (s.size + 1)) 4)) := ⟨_, rfl⟩
  rw [← hW2] at hbg
  have hv2 := hv.below hbg.bl
  have HBG := Lib.hid hbg
  have HV2 := Lib.hid hv2
  have hln : va = va := rfl
  clear hbg hv2 hv hln
  obtain ⟨bs, hr1, hr2, hr3⟩ := HV2.out
  have HRD := Lib.hid hr1
  have HBS := Lib.hid (And.intro hr2 hr3)
  clear hr1 hr2 hr3
  go_enter Tryd.func45, Tryd.ntmps45
  go_wp2_with (first
    | (at_builtin
       rw [← hW2]
       refine wpList_append_reads rfl (.tmp 40) (.tmp 41) 25 rfl W2.heap.size 4 (.bool false) 1 1 Tryd.underlying25 info_bool rfl (by decide) (by decide) (.slice (some ⟨W2.heap.size, 0, none⟩) 0 0) 0 [] (by rw [hW2]; simp [Act.eval, Act.put]) (owns_new W2 4 1 W2.heap.size (Nat.le_refl _)) _ (s.size + 1) (bs.map Value.bool) rfl (HRD.out.alloc _) (bools_one _) (by omega) (by simp) ?_
       intro o1 c1 w1 hown1 hgr1 hat1
       rw [Nat.zero_add, List.nil_append] at hown1
       have hb1 : Below W2.heap.size W2 w1 := ((Below.refl _ W2).alloc (Nat.le_refl _) _).grown hgr1 (by simp) (fun g' hg' => by simp [Value.ownBlock] at hg'; omega)
       have H1 := Lib.hid (And.intro hown1 hb1)
       simp only [Nat.zero_add]
       clear hown1 hgr1 hat1 hb1))
  go_ret
  exact ⟨HBG.out.bl.trans (H1.out.2.mono HBG.out.bl.size), _, rfl, bs, reads_of_owns H1.out.1, HBS.out.1, HBS.out.2⟩
set_option maxHeartbeats 4000000 in
theorem reach_cap (s : ByteArray) (hs : s.size ≤ 100) (P : Nat → Prop) (v : Value) (w : World) (hv : SetAt w v (s.size + 1) P) (ra : Option Addr) (rb rc : Nat) (mn mx : Int) (lz fo : Bool) (sa : Option Addr) (sc : Nat) (c : List Value) (L : List Nat → Prop) (hP : Parts s [c] [L] sa sc w) :
    Calls Tryd.prog 45 #[.agg #[.int .i64 13, .slice ra rb rc, .int .i64 mn, .int .i64 mx, .bool lz, .bool fo, .slice sa 1 sc], .string s, v] w (RPost (s.size + 1) (Rch L (sN s) P) w) := by
  obtain ⟨va, vc, rfl⟩ := hv.form
  have hbg := Beg.of s hs #[.int .i64 13, .slice ra rb rc, .int .i64 mn, .int .i64 mx, .bool lz, .bool fo, .slice sa 1 sc] w
  have hmk := fun W => run_make_row' (P := Tryd.prog) 25 4 (.bool false) 1 Tryd.underlying25 info_bool rfl .i64 .i64 (s.size + 1) (by omega) (by omega) W
  simp only [Int.natCast_add, Int.cast_ofNat_Int] at hmk
  have wr1 : IntKind.i64.wrap ((s.size : Int) + 1) = (s.size : Int) + 1 := IntWalk.i64_in _ (by omega)
  obtain ⟨W2, hW2⟩ : ∃ W2, W2 = ((w.alloc (.cells #[.int .i64 13, .slice ra rb rc, .int .i64 mn, .int .i64 mx, .bool lz, .bool fo, .slice sa 1 sc] 35)).alloc (.cells (madeCells #[Value.bool false] (s.size + 1)) 4)) := ⟨_, rfl⟩
  rw [← hW2] at hbg
  have hv2 := hv.below hbg.bl
  have HBG := Lib.hid hbg
  have HV2 := Lib.hid hv2
  have hln : va = va := rfl
  clear hbg hv2 hv hln
  obtain ⟨o1, ra1, rb1, rc1, mn1, mx1, lz1, fo1, sa1, sb1, sc1, rfl⟩ := hP.form c (by simp)
  obtain ⟨gb, go, rfl, hcells⟩ := row7 (hP.rd.below HBG.out.bl) hP.h7 (k := 0) rfl
  have q0 := hcells 0 _ rfl
  have q1 := hcells 1 _ rfl
  have q2 := hcells 2 _ rfl
  have q3 := hcells 3 _ rfl
  have q4 := hcells 4 _ rfl
  have q5 := hcells 5 _ rfl
  have q6 := hcells 6 _ rfl
  simp only [Nat.zero_mul, Nat.mul_zero, Nat.add_zero] at q0 q1 q2 q3 q4 q5 q6
  rw [hW2] at q0 q1 q2 q3 q4 q5 q6
  have hrec := hP.rec_ 0 _ L rfl rfl W2 _ P HBG.out.bl HV2.out
  have HREC := Lib.hid hrec
  clear hrec hcells hP
  go_enter Tryd.func45, Tryd.ntmps45
  go_wp2_with fail
  rw [← hW2]
  refine HREC.out.mono ?_
  rintro e w3 ⟨hb3, v3, rfl, hs3⟩
  have H3 := Lib.hid (And.intro hb3 hs3)
  clear hb3 hs3
  go_wp2_with fail
  go_ret
  exact ⟨HBG.out.bl.trans (H3.out.1.mono HBG.out.bl.size), _, rfl, H3.out.2⟩
set_option maxHeartbeats 4000000 in
theorem reach_rep14 (s : ByteArray) (hs : s.size ≤ 100) (P : Nat → Prop) (v : Value) (w : World) (hv : SetAt w v (s.size + 1) P) (ra : Option Addr) (rb rc : Nat) (mn mx : Int) (lz fo : Bool) (sa : Option Addr) (sc : Nat) (c : List Value) (L : List Nat → Prop) (hP : Parts s [c] [L] sa sc w) :
    Calls Tryd.prog 45 #[.agg #[.int .i64 14, .slice ra rb rc, .int .i64 mn, .int .i64 mx, .bool lz, .bool fo, .slice sa 1 sc], .string s, v] w (RPost (s.size + 1) (rpt L (sN s) P 0 (-1)) w) := by
  obtain ⟨va, vc, rfl⟩ := hv.form
  have hbg := Beg.of s hs #[.int .i64 14, .slice ra rb rc, .int .i64 mn, .int .i64 mx, .bool lz, .bool fo, .slice sa 1 sc] w
  have hmk := fun W => run_make_row' (P := Tryd.prog) 25 4 (.bool false) 1 Tryd.underlying25 info_bool rfl .i64 .i64 (s.size + 1) (by omega) (by omega) W
  simp only [Int.natCast_add, Int.cast_ofNat_Int] at hmk
  have wr1 : IntKind.i64.wrap ((s.size : Int) + 1) = (s.size : Int) + 1 := IntWalk.i64_in _ (by omega)
  obtain ⟨W2, hW2⟩ : ∃ W2, W2 = ((w.alloc (.cells #[.int .i64 14, .slice ra rb rc, .int .i64 mn, .int .i64 mx, .bool lz, .bool fo, .slice sa 1 sc] 35)).alloc (.cells (madeCells #[Value.bool false] (s.size + 1)) 4)) := ⟨_, rfl⟩
  rw [← hW2] at hbg
  have hv2 := hv.below hbg.bl
  have HBG := Lib.hid hbg
  have HV2 := Lib.hid hv2
  have hln : va = va := rfl
  clear hbg hv2 hv hln
  obtain ⟨o1, ra1, rb1, rc1, mn1, mx1, lz1, fo1, sa1, sb1, sc1, rfl⟩ := hP.form c (by simp)
  have ht := fun W => times_any 14 (by omega) ra rb rc mn mx lz fo sa 1 sc W
  have e1 : tLo 14 mn = 0 := by simp [tLo]
  have e2 : tHi 14 mx = (-1) := by simp [tHi]
  rw [e1, e2] at ht
  have hw0 : w.heap.size ≤ W2.heap.size := HBG.out.bl.size
  have HREC := Lib.hid (hP.rec_ 0 _ L rfl rfl)
  have HRD := Lib.hid (And.intro (hP.rd.below HBG.out.bl) hP.h7)
  have HT := Lib.hid ht
  clear ht e1 e2 hP
  go_enter Tryd.func45, Tryd.ntmps45
  go_wp2_with fail
  rw [← hW2]
  refine (HT.out W2).mono ?_
  rintro e w3 ⟨rfl, hb3⟩
  obtain ⟨⟨l0, l1, l2, l3, l4, l5, l6⟩, _⟩ := cells7 (up_b hb3 HBG.out.box)
  obtain ⟨gb, go, rfl, hcells⟩ := row7 (HRD.out.1.below hb3) HRD.out.2 (k := 0) rfl
  have q0 := hcells 0 _ rfl
  have q1 := hcells 1 _ rfl
  have q2 := hcells 2 _ rfl
  have q3 := hcells 3 _ rfl
  have q4 := hcells 4 _ rfl
  have q5 := hcells 5 _ rfl
  have q6 := hcells 6 _ rfl
  simp only [Nat.zero_mul, Nat.mul_zero, Nat.add_zero] at q0 q1 q2 q3 q4 q5 q6
  have hv3 := HV2.out.below hb3
  have hb03 := HBG.out.bl.trans (hb3.mono hw0)
  have hrep := repeated_any L s P _ _ 0 (-1) w3 (s.size + 1) rfl hs (sN s) (sN_len s) (by omega) (by omega) (by omega) ⟨_, _, _, _, _, _, _, _, _, _, _, rfl⟩ (fun W u X hb hX => HREC.out W u X (hb03.trans (hb.mono hb03.size)) hX) hv3
  have HREP := Lib.hid hrep
  have H3 := Lib.hid hb03
  clear hrep hcells hv3 hb03 hb3 hW2 hmk
  go_wp2_with fail
  refine HREP.out.mono ?_
  rintro e w4 ⟨hb4, v4, rfl, hs4⟩
  have H4 := Lib.hid (And.intro hb4 hs4)
  clear hb4 hs4
  go_wp2_with fail
  go_ret
  exact ⟨H3.out.trans (H4.out.1.mono H3.out.size), _, rfl, H4.out.2⟩
set_option maxHeartbeats 4000000 in
theorem reach_rep15 (s : ByteArray) (hs : s.size ≤ 100) (P : Nat → Prop) (v : Value) (w : World) (hv : SetAt w v (s.size + 1) P) (ra : Option Addr) (rb rc : Nat) (mn mx : Int) (lz fo : Bool) (sa : Option Addr) (sc : Nat) (c : List Value) (L : List Nat → Prop) (hP : Parts s [c] [L] sa sc w) :
    Calls Tryd.prog 45 #[.agg #[.int .i64 15, .slice ra rb rc, .int .i64 mn, .int .i64 mx, .bool lz, .bool fo, .slice sa 1 sc], .string s, v] w (RPost (s.size + 1) (rpt L (sN s) P 1 (-1)) w) := by
  obtain ⟨va, vc, rfl⟩ := hv.form
  have hbg := Beg.of s hs #[.int .i64 15, .slice ra rb rc, .int .i64 mn, .int .i64 mx, .bool lz, .bool fo, .slice sa 1 sc] w
  have hmk := fun W => run_make_row' (P := Tryd.prog) 25 4 (.bool false) 1 Tryd.underlying25 info_bool rfl .i64 .i64 (s.size + 1) (by omega) (by omega) W
  simp only [Int.natCast_add, Int.cast_ofNat_Int] at hmk
  have wr1 : IntKind.i64.wrap ((s.size : Int) + 1) = (s.size : Int) + 1 := IntWalk.i64_in _ (by omega)
  obtain ⟨W2, hW2⟩ : ∃ W2, W2 = ((w.alloc (.cells #[.int .i64 15, .slice ra rb rc, .int .i64 mn, .int .i64 mx, .bool lz, .bool fo, .slice sa 1 sc] 35)).alloc (.cells (madeCells #[Value.bool false] (s.size + 1)) 4)) := ⟨_, rfl⟩
  rw [← hW2] at hbg
  have hv2 := hv.below hbg.bl
  have HBG := Lib.hid hbg
  have HV2 := Lib.hid hv2
  have hln : va = va := rfl
  clear hbg hv2 hv hln
  obtain ⟨o1, ra1, rb1, rc1, mn1, mx1, lz1, fo1, sa1, sb1, sc1, rfl⟩ := hP.form c (by simp)
  have ht := fun W => times_any 15 (by omega) ra rb rc mn mx lz fo sa 1 sc W
  have e1 : tLo 15 mn = 1 := by simp [tLo]
  have e2 : tHi 15 mx = (-1) := by simp [tHi]
  rw [e1, e2] at ht
  have hw0 : w.heap.size ≤ W2.heap.size := HBG.out.bl.size
  have HREC := Lib.hid (hP.rec_ 0 _ L rfl rfl)
  have HRD := Lib.hid (And.intro (hP.rd.below HBG.out.bl) hP.h7)
  have HT := Lib.hid ht
  clear ht e1 e2 hP
  go_enter Tryd.func45, Tryd.ntmps45
  go_wp2_with fail
  rw [← hW2]
  refine (HT.out W2).mono ?_
  rintro e w3 ⟨rfl, hb3⟩
  obtain ⟨⟨l0, l1, l2, l3, l4, l5, l6⟩, _⟩ := cells7 (up_b hb3 HBG.out.box)
  obtain ⟨gb, go, rfl, hcells⟩ := row7 (HRD.out.1.below hb3) HRD.out.2 (k := 0) rfl
  have q0 := hcells 0 _ rfl
  have q1 := hcells 1 _ rfl
  have q2 := hcells 2 _ rfl
  have q3 := hcells 3 _ rfl
  have q4 := hcells 4 _ rfl
  have q5 := hcells 5 _ rfl
  have q6 := hcells 6 _ rfl
  simp only [Nat.zero_mul, Nat.mul_zero, Nat.add_zero] at q0 q1 q2 q3 q4 q5 q6
  have hv3 := HV2.out.below hb3
  have hb03 := HBG.out.bl.trans (hb3.mono hw0)
  have hrep := repeated_any L s P _ _ 1 (-1) w3 (s.size + 1) rfl hs (sN s) (sN_len s) (by omega) (by omega) (by omega) ⟨_, _, _, _, _, _, _, _, _, _, _, rfl⟩ (fun W u X hb hX => HREC.out W u X (hb03.trans (hb.mono hb03.size)) hX) hv3
  have HREP := Lib.hid hrep
  have H3 := Lib.hid hb03
  clear hrep hcells hv3 hb03 hb3 hW2 hmk
  go_wp2_with fail
  refine HREP.out.mono ?_
  rintro e w4 ⟨hb4, v4, rfl, hs4⟩
  have H4 := Lib.hid (And.intro hb4 hs4)
  clear hb4 hs4
  go_wp2_with fail
  go_ret
  exact ⟨H3.out.trans (H4.out.1.mono H3.out.size), _, rfl, H4.out.2⟩
set_option maxHeartbeats 4000000 in
theorem reach_rep16 (s : ByteArray) (hs : s.size ≤ 100) (P : Nat → Prop) (v : Value) (w : World) (hv : SetAt w v (s.size + 1) P) (ra : Option Addr) (rb rc : Nat) (mn mx : Int) (lz fo : Bool) (sa : Option Addr) (sc : Nat) (c : List Value) (L : List Nat → Prop) (hP : Parts s [c] [L] sa sc w) :
    Calls Tryd.prog 45 #[.agg #[.int .i64 16, .slice ra rb rc, .int .i64 mn, .int .i64 mx, .bool lz, .bool fo, .slice sa 1 sc], .string s, v] w (RPost (s.size + 1) (rpt L (sN s) P 0 1) w) := by
  obtain ⟨va, vc, rfl⟩ := hv.form
  have hbg := Beg.of s hs #[.int .i64 16, .slice ra rb rc, .int .i64 mn, .int .i64 mx, .bool lz, .bool fo, .slice sa 1 sc] w
  have hmk := fun W => run_make_row' (P := Tryd.prog) 25 4 (.bool false) 1 Tryd.underlying25 info_bool rfl .i64 .i64 (s.size + 1) (by omega) (by omega) W
  simp only [Int.natCast_add, Int.cast_ofNat_Int] at hmk
  have wr1 : IntKind.i64.wrap ((s.size : Int) + 1) = (s.size : Int) + 1 := IntWalk.i64_in _ (by omega)
  obtain ⟨W2, hW2⟩ : ∃ W2, W2 = ((w.alloc (.cells #[.int .i64 16, .slice ra rb rc, .int .i64 mn, .int .i64 mx, .bool lz, .bool fo, .slice sa 1 sc] 35)).alloc (.cells (madeCells #[Value.bool false] (s.size + 1)) 4)) := ⟨_, rfl⟩
  rw [← hW2] at hbg
  have hv2 := hv.below hbg.bl
  have HBG := Lib.hid hbg
  have HV2 := Lib.hid hv2
  have hln : va = va := rfl
  clear hbg hv2 hv hln
  obtain ⟨o1, ra1, rb1, rc1, mn1, mx1, lz1, fo1, sa1, sb1, sc1, rfl⟩ := hP.form c (by simp)
  have ht := fun W => times_any 16 (by omega) ra rb rc mn mx lz fo sa 1 sc W
  have e1 : tLo 16 mn = 0 := by simp [tLo]
  have e2 : tHi 16 mx = 1 := by simp [tHi]
  rw [e1, e2] at ht
  have hw0 : w.heap.size ≤ W2.heap.size := HBG.out.bl.size
  have HREC := Lib.hid (hP.rec_ 0 _ L rfl rfl)
  have HRD := Lib.hid (And.intro (hP.rd.below HBG.out.bl) hP.h7)
  have HT := Lib.hid ht
  clear ht e1 e2 hP
  go_enter Tryd.func45, Tryd.ntmps45
  go_wp2_with fail
  rw [← hW2]
  refine (HT.out W2).mono ?_
  rintro e w3 ⟨rfl, hb3⟩
  obtain ⟨⟨l0, l1, l2, l3, l4, l5, l6⟩, _⟩ := cells7 (up_b hb3 HBG.out.box)
  obtain ⟨gb, go, rfl, hcells⟩ := row7 (HRD.out.1.below hb3) HRD.out.2 (k := 0) rfl
  have q0 := hcells 0 _ rfl
  have q1 := hcells 1 _ rfl
  have q2 := hcells 2 _ rfl
  have q3 := hcells 3 _ rfl
  have q4 := hcells 4 _ rfl
  have q5 := hcells 5 _ rfl
  have q6 := hcells 6 _ rfl
  simp only [Nat.zero_mul, Nat.mul_zero, Nat.add_zero] at q0 q1 q2 q3 q4 q5 q6
  have hv3 := HV2.out.below hb3
  have hb03 := HBG.out.bl.trans (hb3.mono hw0)
  have hrep := repeated_any L s P _ _ 0 1 w3 (s.size + 1) rfl hs (sN s) (sN_len s) (by omega) (by omega) (by omega) ⟨_, _, _, _, _, _, _, _, _, _, _, rfl⟩ (fun W u X hb hX => HREC.out W u X (hb03.trans (hb.mono hb03.size)) hX) hv3
  have HREP := Lib.hid hrep
  have H3 := Lib.hid hb03
  clear hrep hcells hv3 hb03 hb3 hW2 hmk
  go_wp2_with fail
  refine HREP.out.mono ?_
  rintro e w4 ⟨hb4, v4, rfl, hs4⟩
  have H4 := Lib.hid (And.intro hb4 hs4)
  clear hb4 hs4
  go_wp2_with fail
  go_ret
  exact ⟨H3.out.trans (H4.out.1.mono H3.out.size), _, rfl, H4.out.2⟩
set_option maxHeartbeats 4000000 in
theorem reach_rep17 (s : ByteArray) (hs : s.size ≤ 100) (P : Nat → Prop) (v : Value) (w : World) (hv : SetAt w v (s.size + 1) P) (ra : Option Addr) (rb rc : Nat) (lo : Nat) (mx : Int) (lz fo : Bool) (sa : Option Addr) (sc : Nat) (c : List Value) (L : List Nat → Prop) (hP : Parts s [c] [L] sa sc w) (hlo : lo ≤ 1000) (hmx : mx ≤ 1000) (hmm : mx = -1 ∨ 0 ≤ mx) :
    Calls Tryd.prog 45 #[.agg #[.int .i64 17, .slice ra rb rc, .int .i64 (lo : Int), .int .i64 mx, .bool lz, .bool fo, .slice sa 1 sc], .string s, v] w (RPost (s.size + 1) (rpt L (sN s) P lo mx) w) := by
  obtain ⟨va, vc, rfl⟩ := hv.form
  have hbg := Beg.of s hs #[.int .i64 17, .slice ra rb rc, .int .i64 (lo : Int), .int .i64 mx, .bool lz, .bool fo, .slice sa 1 sc] w
  have hmk := fun W => run_make_row' (P := Tryd.prog) 25 4 (.bool false) 1 Tryd.underlying25 info_bool rfl .i64 .i64 (s.size + 1) (by omega) (by omega) W
  simp only [Int.natCast_add, Int.cast_ofNat_Int] at hmk
  have wr1 : IntKind.i64.wrap ((s.size : Int) + 1) = (s.size : Int) + 1 := IntWalk.i64_in _ (by omega)
  obtain ⟨W2, hW2⟩ : ∃ W2, W2 = ((w.alloc (.cells #[.int .i64 17, .slice ra rb rc, .int .i64 (lo : Int), .int .i64 mx, .bool lz, .bool fo, .slice sa 1 sc] 35)).alloc (.cells (madeCells #[Value.bool false] (s.size + 1)) 4)) := ⟨_, rfl⟩
  rw [← hW2] at hbg
  have hv2 := hv.below hbg.bl
  have HBG := Lib.hid hbg
  have HV2 := Lib.hid hv2
  have hln : va = va := rfl
  clear hbg hv2 hv hln
  obtain ⟨o1, ra1, rb1, rc1, mn1, mx1, lz1, fo1, sa1, sb1, sc1, rfl⟩ := hP.form c (by simp)
  have ht := fun W => times_any 17 (by omega) ra rb rc (lo : Int) mx lz fo sa 1 sc W
  have e1 : tLo 17 (lo : Int) = (lo : Int) := by simp [tLo]
  have e2 : tHi 17 mx = mx := by simp [tHi]
  rw [e1, e2] at ht
  have hw0 : w.heap.size ≤ W2.heap.size := HBG.out.bl.size
  have HREC := Lib.hid (hP.rec_ 0 _ L rfl rfl)
  have HRD := Lib.hid (And.intro (hP.rd.below HBG.out.bl) hP.h7)
  have HT := Lib.hid ht
  clear ht e1 e2 hP
  go_enter Tryd.func45, Tryd.ntmps45
  go_wp2_with fail
  rw [← hW2]
  refine (HT.out W2).mono ?_
  rintro e w3 ⟨rfl, hb3⟩
  obtain ⟨⟨l0, l1, l2, l3, l4, l5, l6⟩, _⟩ := cells7 (up_b hb3 HBG.out.box)
  obtain ⟨gb, go, rfl, hcells⟩ := row7 (HRD.out.1.below hb3) HRD.out.2 (k := 0) rfl
  have q0 := hcells 0 _ rfl
  have q1 := hcells 1 _ rfl
  have q2 := hcells 2 _ rfl
  have q3 := hcells 3 _ rfl
  have q4 := hcells 4 _ rfl
  have q5 := hcells 5 _ rfl
  have q6 := hcells 6 _ rfl
  simp only [Nat.zero_mul, Nat.mul_zero, Nat.add_zero] at q0 q1 q2 q3 q4 q5 q6
  have hv3 := HV2.out.below hb3
  have hb03 := HBG.out.bl.trans (hb3.mono hw0)
  have hrep := repeated_any L s P _ _ lo mx w3 (s.size + 1) rfl hs (sN s) (sN_len s) (by omega) (by omega) (by omega) ⟨_, _, _, _, _, _, _, _, _, _, _, rfl⟩ (fun W u X hb hX => HREC.out W u X (hb03.trans (hb.mono hb03.size)) hX) hv3
  have HREP := Lib.hid hrep
  have H3 := Lib.hid hb03
  clear hrep hcells hv3 hb03 hb3 hW2 hmk
  go_wp2_with fail
  refine HREP.out.mono ?_
  rintro e w4 ⟨hb4, v4, rfl, hs4⟩
  have H4 := Lib.hid (And.intro hb4 hs4)
  clear hb4 hs4
  go_wp2_with fail
  go_ret
  exact ⟨H3.out.trans (H4.out.1.mono H3.out.size), _, rfl, H4.out.2⟩
set_option maxHeartbeats 4000000 in
theorem reach_cat (s : ByteArray) (hs : s.size ≤ 100) (P : Nat → Prop) (v : Value) (w : World) (hv : SetAt w v (s.size + 1) P) (ra : Option Addr) (rb rc : Nat) (mn mx : Int) (lz fo : Bool) (sa : Option Addr) (sc n : Nat) (css : List (List Value)) (Ls : List (List Nat → Prop)) (hn : css.length = n) (hP : Parts s css Ls sa sc w) :
    Calls Tryd.prog 45 #[.agg #[.int .i64 18, .slice ra rb rc, .int .i64 mn, .int .i64 mx, .bool lz, .bool fo, .slice sa n sc], .string s, v] w (RPost (s.size + 1) (Rch (CatL Ls) (sN s) P) w) := by
  obtain ⟨va, vc, rfl⟩ := hv.form
  have hbg := Beg.of s hs #[.int .i64 18, .slice ra rb rc, .int .i64 mn, .int .i64 mx, .bool lz, .bool fo, .slice sa n sc] w
  have hmk := fun W => run_make_row' (P := Tryd.prog) 25 4 (.bool false) 1 Tryd.underlying25 info_bool rfl .i64 .i64 (s.size + 1) (by omega) (by omega) W
  simp only [Int.natCast_add, Int.cast_ofNat_Int] at hmk
  have wr1 : IntKind.i64.wrap ((s.size : Int) + 1) = (s.size : Int) + 1 := IntWalk.i64_in _ (by omega)
  obtain ⟨W2, hW2⟩ : ∃ W2, W2 = ((w.alloc (.cells #[.int .i64 18, .slice ra rb rc, .int .i64 mn, .int .i64 mx, .bool lz, .bool fo, .slice sa n sc] 35)).alloc (.cells (madeCells #[Value.bool false] (s.size + 1)) 4)) := ⟨_, rfl⟩
  rw [← hW2] at hbg
  have hv2 := hv.below hbg.bl
  have HBG := Lib.hid hbg
  have HV2 := Lib.hid hv2
  have hln : va = va := rfl
  clear hbg hv2 hv hln
  obtain ⟨bs, hr1, hr2, hr3⟩ := HV2.out
  have HRD := Lib.hid hr1
  have HBS := Lib.hid (And.intro hr2 hr3)
  have HP := Lib.hid hP
  have hn1 : n ≤ 1000 := by rw [← hn]; exact hP.le
  have HN := Lib.hid hn
  have hw0 : w.heap.size ≤ W2.heap.size := HBG.out.bl.size
  clear hr1 hr2 hr3 hP
  go_enter Tryd.func45, Tryd.ntmps45
  go_wp2_with (first
    | (at_builtin
       rw [← hW2]
       refine wpList_append_reads rfl (.tmp 128) (.tmp 129) 25 rfl W2.heap.size 4 (.bool false) 1 1 Tryd.underlying25 info_bool rfl (by decide) (by decide) (.slice (some ⟨W2.heap.size, 0, none⟩) 0 0) 0 [] (by rw [hW2]; simp [Act.eval, Act.put]) (owns_new W2 4 1 W2.heap.size (Nat.le_refl _)) _ (s.size + 1) (bs.map Value.bool) rfl (HRD.out.alloc _) (bools_one _) (by omega) (by simp) ?_
       intro o1 c1 w1 hown1 hgr1 hat1
       rw [Nat.zero_add, List.nil_append] at hown1
       have hb1 : Below W2.heap.size W2 w1 := ((Below.refl _ W2).alloc (Nat.le_refl _) _).grown hgr1 (by simp) (fun g' hg' => by simp [Value.ownBlock] at hg'; omega)
       have H1 := Lib.hid (And.intro hown1 hb1)
       simp only [Nat.zero_add]
       clear hown1 hgr1 hat1 hb1))
  clear hW2 hmk
  have hset : SetAt w1 (.slice o1 (s.size + 1) c1) (s.size + 1) (Rch (CatL (Ls.take 0)) (sN s) P) := SetAt.congr ⟨bs, reads_of_owns H1.out.1, HBS.out.1, HBS.out.2⟩ fun j hj => by
    rw [List.take_zero]
    exact ⟨fun h => (rch_eps (sN s) P j).2 ⟨by rw [sN_len]; omega, h⟩, fun h => ((rch_eps (sN s) P j).1 h).2⟩
  have H2 := Lib.hid (And.intro (HBG.out.bl.trans (H1.out.2.mono hw0)) (And.intro (up_b H1.out.2 HBG.out.box) hset))
  clear hset
  go_loopw [7, 14] (fun uv iv wr => ∃ (i : Nat) (a : Option Addr) (c : Nat), iv = .int .i64 (i : Int) ∧ uv = .slice a (s.size + 1) c ∧ i ≤ n ∧ Hid (Below w.heap.size w wr ∧ wr.heap[w.heap.size]? = some (.cells #[.int .i64 18, .slice ra rb rc, .int .i64 mn, .int .i64 mx, .bool lz, .bool fo, .slice sa n sc] 35 (0, 0)) ∧ SetAt wr (.slice a (s.size + 1) c) (s.size + 1) (Rch (CatL (Ls.take i)) (sN s) P))) (fun _ iv _ => n - (intOf iv).toNat)
  case atStart => exact ⟨0, o1, c1, rfl, rfl, Nat.zero_le _, H2⟩
  case round =>
    obtain ⟨i, a, c, rfl, rfl, hi, HR⟩ := hrel
    rename World => wr
    obtain ⟨⟨l0, l1, l2, l3, l4, l5, l6⟩, _⟩ := cells7 HR.out.2.1
    by_cases hlt : i < n
    · have hic : i < css.length := by have := HN.out; omega
      obtain ⟨cc, hc⟩ : ∃ cc, css[i]? = some cc := ⟨_, List.getElem?_eq_getElem (by omega)⟩
      obtain ⟨Li, hLi⟩ : ∃ Li, Ls[i]? = some Li := ⟨_, List.getElem?_eq_getElem (by have := HP.out.len; omega)⟩
      obtain ⟨o1, ra1, rb1, rc1, mn1, mx1, lz1, fo1, sa1, sb1, sc1, rfl⟩ := HP.out.form cc (List.mem_of_getElem? hc)
      obtain ⟨gb, go, rfl, hcells⟩ := row7 (HP.out.rd.below HR.out.1) HP.out.h7 hc
      have q0 := hcells 0 _ rfl
      rw [Nat.add_zero] at q0
      have q1 := hcells 1 _ rfl
      have q2 := hcells 2 _ rfl
      have q3 := hcells 3 _ rfl
      have q4 := hcells 4 _ rfl
      have q5 := hcells 5 _ rfl
      have q6 := hcells 6 _ rfl
      have t0 : (0 : Int) ≤ (i : Int) := by omega
      have t1 : (i : Int) < (n : Int) := by omega
      have hrec := HP.out.rec_ i _ Li hc hLi wr _ _ HR.out.1 HR.out.2.2
      have HREC := Lib.hid hrec
      have HLI := Lib.hid hLi
      clear hrec hcells hc hLi hic hn
      go_wp2_with fail
      refine HREC.out.mono ?_
      rintro e w3 ⟨hb3, v3, rfl, hs3⟩
      obtain ⟨a3, c3, rfl⟩ := hs3.form
      have H3 := Lib.hid (And.intro (HR.out.1.trans (hb3.mono HR.out.1.size)) (And.intro (up_b hb3 HR.out.2.1) (hs3.congr (Q := Rch (CatL (Ls.take (i + 1))) (sN s) P) fun j _ => by
        rw [List.take_add_one, HLI.out]
        exact (rch_cat _ _ _ _ _).symm.trans (Rch.congr (fun x => (catL_snoc Li (Ls.take i) x).symm) (fun _ _ => Iff.rfl) j))))
      clear hb3 hs3
      go_wp2_with fail
      go_roundw
      case rel => exact ⟨i + 1, a3, c3, by go_num, rfl, hlt, H3⟩
      case measure => simp [intOf]; omega
    · obtain rfl : i = n := by omega
      go_wp2_with fail
      go_ret
      exact ⟨HR.out.1, _, rfl, HR.out.2.2.congr fun j _ => by rw [List.take_of_length_le (by have := HP.out.len; have := HN.out; omega)]⟩
set_option maxHeartbeats 4000000 in
theorem reach_alt (s : ByteArray) (hs : s.size ≤ 100) (P : Nat → Prop) (v : Value) (w : World) (hv : SetAt w v (s.size + 1) P) (ra : Option Addr) (rb rc : Nat) (mn mx : Int) (lz fo : Bool) (sa : Option Addr) (sc n : Nat) (css : List (List Value)) (Ls : List (List Nat → Prop)) (hn : css.length = n) (hP : Parts s css Ls sa sc w) :
    Calls Tryd.prog 45 #[.agg #[.int .i64 19, .slice ra rb rc, .int .i64 mn, .int .i64 mx, .bool lz, .bool fo, .slice sa n sc], .string s, v] w (RPost (s.size + 1) (fun j => ∃ L ∈ Ls, Rch L (sN s) P j) w) := by
  obtain ⟨va, vc, rfl⟩ := hv.form
  have hbg := Beg.of s hs #[.int .i64 19, .slice ra rb rc, .int .i64 mn, .int .i64 mx, .bool lz, .bool fo, .slice sa n sc] w
  have hmk := fun W => run_make_row' (P := Tryd.prog) 25 4 (.bool false) 1 Tryd.underlying25 info_bool rfl .i64 .i64 (s.size + 1) (by omega) (by omega) W
  simp only [Int.natCast_add, Int.cast_ofNat_Int] at hmk
  have wr1 : IntKind.i64.wrap ((s.size : Int) + 1) = (s.size : Int) + 1 := IntWalk.i64_in _ (by omega)
  obtain ⟨W2, hW2⟩ : ∃ W2, W2 = ((w.alloc (.cells #[.int .i64 19, .slice ra rb rc, .int .i64 mn, .int .i64 mx, .bool lz, .bool fo, .slice sa n sc] 35)).alloc (.cells (madeCells #[Value.bool false] (s.size + 1)) 4)) := ⟨_, rfl⟩
  rw [← hW2] at hbg
  have hv2 := hv.below hbg.bl
  have HBG := Lib.hid hbg
  have HV2 := Lib.hid hv2
  have hln : va = va := rfl
  clear hbg hv2 hv hln
  have HP := Lib.hid hP
  have hn1 : n ≤ 1000 := by rw [← hn]; exact hP.le
  have HN := Lib.hid hn
  have hset : SetAt W2 (.slice (some ⟨w.heap.size + 1, 0, none⟩) (s.size + 1) (s.size + 1)) (s.size + 1) (fun j => ∃ L ∈ Ls.take 0, Rch L (sN s) P j) :=
    ⟨List.replicate (s.size + 1) false, reads_of_owns HBG.out.own, by simp, fun j b hj => by rw [List.getElem?_replicate] at hj; split at hj <;> simp_all⟩
  have H2 := Lib.hid (And.intro HBG.out.bl (And.intro HBG.out.box (And.intro (HV2.out) hset)))
  clear hset hP
  go_enter Tryd.func45, Tryd.ntmps45
  go_wp2_with fail
  rw [← hW2]
  clear hW2 hmk
  go_loopw [7, 15] (fun uv iv wr => ∃ (i : Nat) (a : Option Addr) (c : Nat), iv = .int .i64 (i : Int) ∧ uv = .slice a (s.size + 1) c ∧ i ≤ n ∧ Hid (Below w.heap.size w wr ∧ wr.heap[w.heap.size]? = some (.cells #[.int .i64 19, .slice ra rb rc, .int .i64 mn, .int .i64 mx, .bool lz, .bool fo, .slice sa n sc] 35 (0, 0)) ∧ SetAt wr (.slice va (s.size + 1) vc) (s.size + 1) P ∧ SetAt wr (.slice a (s.size + 1) c) (s.size + 1) (fun j => ∃ L ∈ Ls.take i, Rch L (sN s) P j))) (fun _ iv _ => n - (intOf iv).toNat)
  case atStart => exact ⟨0, _, _, rfl, rfl, Nat.zero_le _, H2⟩
  case round =>
    obtain ⟨i, a, c, rfl, rfl, hi, HR⟩ := hrel
    rename World => wr
    obtain ⟨⟨l0, l1, l2, l3, l4, l5, l6⟩, _⟩ := cells7 HR.out.2.1
    by_cases hlt : i < n
    · have hic : i < css.length := by have := HN.out; omega
      obtain ⟨cc, hc⟩ : ∃ cc, css[i]? = some cc := ⟨_, List.getElem?_eq_getElem (by omega)⟩
      obtain ⟨Li, hLi⟩ : ∃ Li, Ls[i]? = some Li := ⟨_, List.getElem?_eq_getElem (by have := HP.out.len; omega)⟩
      obtain ⟨o1, ra1, rb1, rc1, mn1, mx1, lz1, fo1, sa1, sb1, sc1, rfl⟩ := HP.out.form cc (List.mem_of_getElem? hc)
      obtain ⟨gb, go, rfl, hcells⟩ := row7 (HP.out.rd.below HR.out.1) HP.out.h7 hc
      have q0 := hcells 0 _ rfl
      rw [Nat.add_zero] at q0
      have q1 := hcells 1 _ rfl
      have q2 := hcells 2 _ rfl
      have q3 := hcells 3 _ rfl
      have q4 := hcells 4 _ rfl
      have q5 := hcells 5 _ rfl
      have q6 := hcells 6 _ rfl
      have t0 : (0 : Int) ≤ (i : Int) := by omega
      have t1 : (i : Int) < (n : Int) := by omega
      have hrec := HP.out.rec_ i _ Li hc hLi wr _ _ HR.out.1 HR.out.2.2.1
      have HREC := Lib.hid hrec
      have HLI := Lib.hid hLi
      clear hrec hcells hc hLi hic hn
      go_wp2_with fail
      refine HREC.out.mono ?_
      rintro e w3 ⟨hb3, v3, rfl, hs3⟩
      obtain ⟨a3, c3, rfl⟩ := hs3.form
      have H3 := Lib.hid (And.intro (HR.out.1.trans (hb3.mono HR.out.1.size)) (And.intro (up_b hb3 HR.out.2.1) (And.intro (HR.out.2.2.1.below hb3) (And.intro (HR.out.2.2.2.below hb3) hs3))))
      clear hb3 hs3
      go_wp2_with fail
      refine (either_set H3.out.2.2.2.1 H3.out.2.2.2.2 (by omega) (by omega)).mono ?_
      rintro e w4 ⟨hb4, v4, rfl, hs4⟩
      obtain ⟨a4, c4, rfl⟩ := hs4.form
      have H4 := Lib.hid (And.intro (H3.out.1.trans (hb4.mono H3.out.1.size)) (And.intro (up_b hb4 H3.out.2.1) (And.intro (H3.out.2.2.1.below hb4) (hs4.congr (Q := fun j => ∃ L ∈ Ls.take (i + 1), Rch L (sN s) P j) fun j _ => by
        rw [List.take_add_one, HLI.out]
        simp only [Option.toList_some, List.mem_append, List.mem_singleton, or_and_right, exists_or, exists_eq_left]))))
      clear hb4 hs4
      go_wp2_with fail
      go_roundw
      case rel => exact ⟨i + 1, a4, c4, by go_num, rfl, hlt, H4⟩
      case measure => simp [intOf]; omega
    · obtain rfl : i = n := by omega
      go_wp2_with fail
      go_ret
      exact ⟨HR.out.1, _, rfl, HR.out.2.2.2.congr fun j _ => by rw [List.take_of_length_le (by have := HP.out.len; have := HN.out; omega)]⟩
set_option maxHeartbeats 4000000 in
theorem reach_cls4 (s : ByteArray) (hs : s.size ≤ 100) (P : Nat → Prop) (v : Value) (w : World) (hv : SetAt w v (s.size + 1) P) (ra : Option Addr) (rc : Nat) (mn mx : Int) (lz : Bool) (sa : Option Addr) (sb sc : Nat) (rs : List Int) (hR : Reads w (.slice ra rs.length rc) rs.length 1 (rs.map rV)) (zs : List Int) (ez : (if 4 = 6 then ([0, 1114111] : List Int) else if 4 = 5 then [0, 9, 11, 1114111] else rs) = zs) (hk : ∃ k, zs.length = 2 * k) (hz : zs.length ≤ 1000) :
    Calls Tryd.prog 45 #[.agg #[.int .i64 4, .slice ra rs.length rc, .int .i64 mn, .int .i64 mx, .bool lz, .bool false, .slice sa sb sc], .string s, v] w (RPost (s.size + 1) (Rch (Cls zs) (sN s) P) w) := by
  obtain ⟨va, vc, rfl⟩ := hv.form
  have hbg := Beg.of s hs #[.int .i64 4, .slice ra rs.length rc, .int .i64 mn, .int .i64 mx, .bool lz, .bool false, .slice sa sb sc] w
  have hmk := fun W => run_make_row' (P := Tryd.prog) 25 4 (.bool false) 1 Tryd.underlying25 info_bool rfl .i64 .i64 (s.size + 1) (by omega) (by omega) W
  simp only [Int.natCast_add, Int.cast_ofNat_Int] at hmk
  have wr1 : IntKind.i64.wrap ((s.size : Int) + 1) = (s.size : Int) + 1 := IntWalk.i64_in _ (by omega)
  obtain ⟨W2, hW2⟩ : ∃ W2, W2 = ((w.alloc (.cells #[.int .i64 4, .slice ra rs.length rc, .int .i64 mn, .int .i64 mx, .bool lz, .bool false, .slice sa sb sc] 35)).alloc (.cells (madeCells #[Value.bool false] (s.size + 1)) 4)) := ⟨_, rfl⟩
  rw [← hW2] at hbg
  have hv2 := hv.below hbg.bl
  have HBG := Lib.hid hbg
  have HV2 := Lib.hid hv2
  have hln : va = va := rfl
  clear hbg hv2  hln
  have hrg := fun (W : World) (hb : Below w.heap.size w W) => ranges_any 4 rs (.slice ra rs.length rc) mn mx lz (.slice sa sb sc) W (hR.below hb) ⟨_, _, _, rfl⟩ (by omega)
  rw [ez] at hrg
  obtain ⟨R0, hR0⟩ : ∃ R0 : List Bool, R0 = List.replicate (s.size + 1) false := ⟨_, rfl⟩
  have hrb := RB.of HBG.out
  rw [← hR0] at hrb
  have HRB := Lib.hid hrb
  have HR0 := Lib.hid hR0
  have HRG := Lib.hid hrg
  have HZ := Lib.hid (And.intro hk hz)
  have HV0 := Lib.hid hv
  clear hrb hR0 hrg hk hz hR ez hv
  go_enter Tryd.func45, Tryd.ntmps45
  go_wp2_with fail
  rw [← hW2]
  clear hW2 hmk
  go_loopw [11] (fun iv wr => ∃ (i : Nat) (bs : List Bool), iv = .int .i64 (i : Int) ∧ i ≤ s.size ∧ Hid (RB s #[.int .i64 4, .slice ra rs.length rc, .int .i64 mn, .int .i64 mx, .bool lz, .bool false, .slice sa sb sc] bs w wr ∧ ∀ (j : Nat) b, bs[j]? = some b → (b = true ↔ CPre (sN s) zs P i j))) (fun iv _ => s.size - (intOf iv).toNat)
  case atStart => exact ⟨0, R0, rfl, Nat.zero_le _, Lib.hid ⟨HRB.out, fun j b hj => by
    rw [HR0.out, List.getElem?_replicate] at hj
    split at hj
    · cases hj; exact ⟨fun h => (by cases h), fun h => (cpre_zero _ _ _ _ h).elim⟩
    · cases hj⟩⟩
  case round =>
    obtain ⟨i, bs, rfl, hi, HR⟩ := hrel
    rename World => wr
    have wr2 : IntKind.i64.wrap ((i : Int) + 1) = (i : Int) + 1 := IntWalk.i64_in _ (by omega)
    by_cases hlt : i < s.size
    · have t0 : (0 : Int) ≤ (i : Int) := by omega
      have t1 : (i : Int) ≤ (s.size : Int) := by omega
      have hrune := rune_any (s.extract i s.size) wr (by rw [ByteArray.size_extract]; omega)
      have HRUNE := Lib.hid hrune
      clear hrune
      go_wp2_with fail
      refine HRUNE.out.mono ?_
      rintro e w3 ⟨hb3, c, k, rfl, hbeg⟩
      rw [sI_from] at hbeg
      have hrb3 := HR.out.1.below hb3
      obtain ⟨⟨l0, l1, l2, l3, l4, l5, l6⟩, _⟩ := cells7 hrb3.box
      obtain ⟨bs0, hs1, hs2, hs3⟩ := HV0.out.below hrb3.bl
      obtain ⟨gb, off, cap, q, e0, hq, c2⟩ := Reads.one Value.bool hs1 (show i < s.size + 1 by omega)
      cases e0
      have hqP := hs3 i q hq
      have HQ := Lib.hid hqP
      have HBEG := Lib.hid hbeg
      have HB3 := Lib.hid hrb3
      have t2 : (i : Int) < (s.size : Int) + 1 := by omega
      clear hs1 hs2 hs3 hq hqP hbeg hrb3 hb3
      cases q with
      | false =>
        go_wp2_with fail
        go_roundw
        case rel => exact ⟨i + 1, bs, by go_num, hlt, Lib.hid ⟨HB3.out, fun j b hj => by
          rw [HR.out.2 j b hj, cpre_step HBEG.out j]
          have : ¬ P i := fun h => by have := HQ.out.2 h; cases this
          simp [this]⟩⟩
        case measure => simp [intOf]; omega
      | true =>
      by_cases hk0 : 0 < k
      · have hrg := HRG.out w3 HB3.out.bl
        have HRG3 := Lib.hid hrg
        clear hrg
        go_wp2_with fail
        refine HRG3.out.mono ?_
        rintro e w4 ⟨v4, rfl, hr4, hb4⟩
        have hrb4 := HB3.out.below hb4
        have hin := in_any zs v4 c w4 hr4 HZ.out.1 HZ.out.2
        obtain ⟨q2, hq2⟩ : ∃ q2, q2 = inB zs c := ⟨_, rfl⟩
        rw [← hq2] at hin
        have HIN := Lib.hid hin
        have HQ2 := Lib.hid hq2
        have HB4 := Lib.hid hrb4
        clear hrb4 hin hq2 hb4 hr4 l0 l1 l2 l3 l4 l5 l6
        go_wp2_with fail
        refine HIN.out.mono ?_
        rintro e w5 ⟨rfl, rfl⟩
        cases q2 with
        | false =>
          go_wp2_with fail
          go_roundw
          case rel => exact ⟨i + 1, bs, by go_num, hlt, Lib.hid ⟨HB4.out, fun j b hj => by
            rw [HR.out.2 j b hj, cpre_step HBEG.out j]
            have := HQ2.out
            simp [← this]⟩⟩
          case measure => simp [intOf]; omega
        | true =>
          have hbd := begins_bd HBEG.out hk0
          rw [sN_len] at hbd
          have wr3 : IntKind.i64.wrap ((i : Int) + (k : Int)) = ((i + k : Nat) : Int) := by rw [IntWalk.i64_in _ (by omega)]; omega
          have t3 : (0 : Int) ≤ ((i + k : Nat) : Int) := by omega
          have t4 : ((i + k : Nat) : Int) < (s.size : Int) + 1 := by omega
          obtain ⟨ob, ho, cc, cf⟩ := own_bit HB4.out.own (k := i + k) (by omega)
          have HBD := Lib.hid hbd
          clear hbd ho
          obtain ⟨ik, hik⟩ : ∃ ik, ik = i + k := ⟨_, rfl⟩
          rw [← hik] at wr3 t3 t4 cc cf
          have HIK := Lib.hid hik
          clear hik
          go_wp2_with fail
          go_roundw
          case rel => exact ⟨i + 1, bs.set ik true, by go_num, hlt, Lib.hid ⟨HB4.out.store ik, set_true HR.out.2 fun j => by
            rw [cpre_step HBEG.out j, HIK.out]
            have h1 := HQ2.out
            have h2 : P i := HQ.out.1 (by first | rfl | trivial)
            simp [← h1, h2, hk0]⟩⟩
          case measure => simp [intOf]; omega
      · obtain rfl : k = 0 := by omega
        go_wp2_with fail
        go_roundw
        case rel => exact ⟨i + 1, bs, by go_num, hlt, Lib.hid ⟨HB3.out, fun j b hj => by
          rw [HR.out.2 j b hj, cpre_step HBEG.out j]
          simp⟩⟩
        case measure => simp [intOf]; omega
    · obtain rfl : i = s.size := by omega
      go_wp2_with fail
      go_ret
      exact ⟨HR.out.1.bl, _, rfl, (HR.out.1.set HR.out.2).congr fun j _ => by
        rw [← cpre_all, sN_len]⟩
set_option maxHeartbeats 4000000 in
theorem reach_cls5 (s : ByteArray) (hs : s.size ≤ 100) (P : Nat → Prop) (v : Value) (w : World) (hv : SetAt w v (s.size + 1) P) (ra : Option Addr) (rc : Nat) (mn mx : Int) (lz : Bool) (sa : Option Addr) (sb sc : Nat) (rs : List Int) (hR : Reads w (.slice ra rs.length rc) rs.length 1 (rs.map rV)) (zs : List Int) (ez : (if 5 = 6 then ([0, 1114111] : List Int) else if 5 = 5 then [0, 9, 11, 1114111] else rs) = zs) (hk : ∃ k, zs.length = 2 * k) (hz : zs.length ≤ 1000) :
    Calls Tryd.prog 45 #[.agg #[.int .i64 5, .slice ra rs.length rc, .int .i64 mn, .int .i64 mx, .bool lz, .bool false, .slice sa sb sc], .string s, v] w (RPost (s.size + 1) (Rch (Cls zs) (sN s) P) w) := by
  obtain ⟨va, vc, rfl⟩ := hv.form
  have hbg := Beg.of s hs #[.int .i64 5, .slice ra rs.length rc, .int .i64 mn, .int .i64 mx, .bool lz, .bool false, .slice sa sb sc] w
  have hmk := fun W => run_make_row' (P := Tryd.prog) 25 4 (.bool false) 1 Tryd.underlying25 info_bool rfl .i64 .i64 (s.size + 1) (by omega) (by omega) W
  simp only [Int.natCast_add, Int.cast_ofNat_Int] at hmk
  have wr1 : IntKind.i64.wrap ((s.size : Int) + 1) = (s.size : Int) + 1 := IntWalk.i64_in _ (by omega)
  obtain ⟨W2, hW2⟩ : ∃ W2, W2 = ((w.alloc (.cells #[.int .i64 5, .slice ra rs.length rc, .int .i64 mn, .int .i64 mx, .bool lz, .bool false, .slice sa sb sc] 35)).alloc (.cells (madeCells #[Value.bool false] (s.size + 1)) 4)) := ⟨_, rfl⟩
  rw [← hW2] at hbg
  have hv2 := hv.below hbg.bl
  have HBG := Lib.hid hbg
  have HV2 := Lib.hid hv2
  have hln : va = va := rfl
  clear hbg hv2  hln
  have hrg := fun (W : World) (hb : Below w.heap.size w W) => ranges_any 5 rs (.slice ra rs.length rc) mn mx lz (.slice sa sb sc) W (hR.below hb) ⟨_, _, _, rfl⟩ (by omega)
  rw [ez] at hrg
  obtain ⟨R0, hR0⟩ : ∃ R0 : List Bool, R0 = List.replicate (s.size + 1) false := ⟨_, rfl⟩
  have hrb := RB.of HBG.out
  rw [← hR0] at hrb
  have HRB := Lib.hid hrb
  have HR0 := Lib.hid hR0
  have HRG := Lib.hid hrg
  have HZ := Lib.hid (And.intro hk hz)
  have HV0 := Lib.hid hv
  clear hrb hR0 hrg hk hz hR ez hv
  go_enter Tryd.func45, Tryd.ntmps45
  go_wp2_with fail
  rw [← hW2]
  clear hW2 hmk
  go_loopw [11] (fun iv wr => ∃ (i : Nat) (bs : List Bool), iv = .int .i64 (i : Int) ∧ i ≤ s.size ∧ Hid (RB s #[.int .i64 5, .slice ra rs.length rc, .int .i64 mn, .int .i64 mx, .bool lz, .bool false, .slice sa sb sc] bs w wr ∧ ∀ (j : Nat) b, bs[j]? = some b → (b = true ↔ CPre (sN s) zs P i j))) (fun iv _ => s.size - (intOf iv).toNat)
  case atStart => exact ⟨0, R0, rfl, Nat.zero_le _, Lib.hid ⟨HRB.out, fun j b hj => by
    rw [HR0.out, List.getElem?_replicate] at hj
    split at hj
    · cases hj; exact ⟨fun h => (by cases h), fun h => (cpre_zero _ _ _ _ h).elim⟩
    · cases hj⟩⟩
  case round =>
    obtain ⟨i, bs, rfl, hi, HR⟩ := hrel
    rename World => wr
    have wr2 : IntKind.i64.wrap ((i : Int) + 1) = (i : Int) + 1 := IntWalk.i64_in _ (by omega)
    by_cases hlt : i < s.size
    · have t0 : (0 : Int) ≤ (i : Int) := by omega
      have t1 : (i : Int) ≤ (s.size : Int) := by omega
      have hrune := rune_any (s.extract i s.size) wr (by rw [ByteArray.size_extract]; omega)
      have HRUNE := Lib.hid hrune
      clear hrune
      go_wp2_with fail
      refine HRUNE.out.mono ?_
      rintro e w3 ⟨hb3, c, k, rfl, hbeg⟩
      rw [sI_from] at hbeg
      have hrb3 := HR.out.1.below hb3
      obtain ⟨⟨l0, l1, l2, l3, l4, l5, l6⟩, _⟩ := cells7 hrb3.box
      obtain ⟨bs0, hs1, hs2, hs3⟩ := HV0.out.below hrb3.bl
      obtain ⟨gb, off, cap, q, e0, hq, c2⟩ := Reads.one Value.bool hs1 (show i < s.size + 1 by omega)
      cases e0
      have hqP := hs3 i q hq
      have HQ := Lib.hid hqP
      have HBEG := Lib.hid hbeg
      have HB3 := Lib.hid hrb3
      have t2 : (i : Int) < (s.size : Int) + 1 := by omega
      clear hs1 hs2 hs3 hq hqP hbeg hrb3 hb3
      cases q with
      | false =>
        go_wp2_with fail
        go_roundw
        case rel => exact ⟨i + 1, bs, by go_num, hlt, Lib.hid ⟨HB3.out, fun j b hj => by
          rw [HR.out.2 j b hj, cpre_step HBEG.out j]
          have : ¬ P i := fun h => by have := HQ.out.2 h; cases this
          simp [this]⟩⟩
        case measure => simp [intOf]; omega
      | true =>
      by_cases hk0 : 0 < k
      · have hrg := HRG.out w3 HB3.out.bl
        have HRG3 := Lib.hid hrg
        clear hrg
        go_wp2_with fail
        refine HRG3.out.mono ?_
        rintro e w4 ⟨v4, rfl, hr4, hb4⟩
        have hrb4 := HB3.out.below hb4
        have hin := in_any zs v4 c w4 hr4 HZ.out.1 HZ.out.2
        obtain ⟨q2, hq2⟩ : ∃ q2, q2 = inB zs c := ⟨_, rfl⟩
        rw [← hq2] at hin
        have HIN := Lib.hid hin
        have HQ2 := Lib.hid hq2
        have HB4 := Lib.hid hrb4
        clear hrb4 hin hq2 hb4 hr4 l0 l1 l2 l3 l4 l5 l6
        go_wp2_with fail
        refine HIN.out.mono ?_
        rintro e w5 ⟨rfl, rfl⟩
        cases q2 with
        | false =>
          go_wp2_with fail
          go_roundw
          case rel => exact ⟨i + 1, bs, by go_num, hlt, Lib.hid ⟨HB4.out, fun j b hj => by
            rw [HR.out.2 j b hj, cpre_step HBEG.out j]
            have := HQ2.out
            simp [← this]⟩⟩
          case measure => simp [intOf]; omega
        | true =>
          have hbd := begins_bd HBEG.out hk0
          rw [sN_len] at hbd
          have wr3 : IntKind.i64.wrap ((i : Int) + (k : Int)) = ((i + k : Nat) : Int) := by rw [IntWalk.i64_in _ (by omega)]; omega
          have t3 : (0 : Int) ≤ ((i + k : Nat) : Int) := by omega
          have t4 : ((i + k : Nat) : Int) < (s.size : Int) + 1 := by omega
          obtain ⟨ob, ho, cc, cf⟩ := own_bit HB4.out.own (k := i + k) (by omega)
          have HBD := Lib.hid hbd
          clear hbd ho
          obtain ⟨ik, hik⟩ : ∃ ik, ik = i + k := ⟨_, rfl⟩
          rw [← hik] at wr3 t3 t4 cc cf
          have HIK := Lib.hid hik
          clear hik
          go_wp2_with fail
          go_roundw
          case rel => exact ⟨i + 1, bs.set ik true, by go_num, hlt, Lib.hid ⟨HB4.out.store ik, set_true HR.out.2 fun j => by
            rw [cpre_step HBEG.out j, HIK.out]
            have h1 := HQ2.out
            have h2 : P i := HQ.out.1 (by first | rfl | trivial)
            simp [← h1, h2, hk0]⟩⟩
          case measure => simp [intOf]; omega
      · obtain rfl : k = 0 := by omega
        go_wp2_with fail
        go_roundw
        case rel => exact ⟨i + 1, bs, by go_num, hlt, Lib.hid ⟨HB3.out, fun j b hj => by
          rw [HR.out.2 j b hj, cpre_step HBEG.out j]
          simp⟩⟩
        case measure => simp [intOf]; omega
    · obtain rfl : i = s.size := by omega
      go_wp2_with fail
      go_ret
      exact ⟨HR.out.1.bl, _, rfl, (HR.out.1.set HR.out.2).congr fun j _ => by
        rw [← cpre_all, sN_len]⟩
set_option maxHeartbeats 4000000 in
theorem reach_cls6 (s : ByteArray) (hs : s.size ≤ 100) (P : Nat → Prop) (v : Value) (w : World) (hv : SetAt w v (s.size + 1) P) (ra : Option Addr) (rc : Nat) (mn mx : Int) (lz : Bool) (sa : Option Addr) (sb sc : Nat) (rs : List Int) (hR : Reads w (.slice ra rs.length rc) rs.length 1 (rs.map rV)) (zs : List Int) (ez : (if 6 = 6 then ([0, 1114111] : List Int) else if 6 = 5 then [0, 9, 11, 1114111] else rs) = zs) (hk : ∃ k, zs.length = 2 * k) (hz : zs.length ≤ 1000) :
    Calls Tryd.prog 45 #[.agg #[.int .i64 6, .slice ra rs.length rc, .int .i64 mn, .int .i64 mx, .bool lz, .bool false, .slice sa sb sc], .string s, v] w (RPost (s.size + 1) (Rch (Cls zs) (sN s) P) w) := by
  obtain ⟨va, vc, rfl⟩ := hv.form
  have hbg := Beg.of s hs #[.int .i64 6, .slice ra rs.length rc, .int .i64 mn, .int .i64 mx, .bool lz, .bool false, .slice sa sb sc] w
  have hmk := fun W => run_make_row' (P := Tryd.prog) 25 4 (.bool false) 1 Tryd.underlying25 info_bool rfl .i64 .i64 (s.size + 1) (by omega) (by omega) W
  simp only [Int.natCast_add, Int.cast_ofNat_Int] at hmk
  have wr1 : IntKind.i64.wrap ((s.size : Int) + 1) = (s.size : Int) + 1 := IntWalk.i64_in _ (by omega)
  obtain ⟨W2, hW2⟩ : ∃ W2, W2 = ((w.alloc (.cells #[.int .i64 6, .slice ra rs.length rc, .int .i64 mn, .int .i64 mx, .bool lz, .bool false, .slice sa sb sc] 35)).alloc (.cells (madeCells #[Value.bool false] (s.size + 1)) 4)) := ⟨_, rfl⟩
  rw [← hW2] at hbg
  have hv2 := hv.below hbg.bl
  have HBG := Lib.hid hbg
  have HV2 := Lib.hid hv2
  have hln : va = va := rfl
  clear hbg hv2  hln
  have hrg := fun (W : World) (hb : Below w.heap.size w W) => ranges_any 6 rs (.slice ra rs.length rc) mn mx lz (.slice sa sb sc) W (hR.below hb) ⟨_, _, _, rfl⟩ (by omega)
  rw [ez] at hrg
  obtain ⟨R0, hR0⟩ : ∃ R0 : List Bool, R0 = List.replicate (s.size + 1) false := ⟨_, rfl⟩
  have hrb := RB.of HBG.out
  rw [← hR0] at hrb
  have HRB := Lib.hid hrb
  have HR0 := Lib.hid hR0
  have HRG := Lib.hid hrg
  have HZ := Lib.hid (And.intro hk hz)
  have HV0 := Lib.hid hv
  clear hrb hR0 hrg hk hz hR ez hv
  go_enter Tryd.func45, Tryd.ntmps45
  go_wp2_with fail
  rw [← hW2]
  clear hW2 hmk
  go_loopw [11] (fun iv wr => ∃ (i : Nat) (bs : List Bool), iv = .int .i64 (i : Int) ∧ i ≤ s.size ∧ Hid (RB s #[.int .i64 6, .slice ra rs.length rc, .int .i64 mn, .int .i64 mx, .bool lz, .bool false, .slice sa sb sc] bs w wr ∧ ∀ (j : Nat) b, bs[j]? = some b → (b = true ↔ CPre (sN s) zs P i j))) (fun iv _ => s.size - (intOf iv).toNat)
  case atStart => exact ⟨0, R0, rfl, Nat.zero_le _, Lib.hid ⟨HRB.out, fun j b hj => by
    rw [HR0.out, List.getElem?_replicate] at hj
    split at hj
    · cases hj; exact ⟨fun h => (by cases h), fun h => (cpre_zero _ _ _ _ h).elim⟩
    · cases hj⟩⟩
  case round =>
    obtain ⟨i, bs, rfl, hi, HR⟩ := hrel
    rename World => wr
    have wr2 : IntKind.i64.wrap ((i : Int) + 1) = (i : Int) + 1 := IntWalk.i64_in _ (by omega)
    by_cases hlt : i < s.size
    · have t0 : (0 : Int) ≤ (i : Int) := by omega
      have t1 : (i : Int) ≤ (s.size : Int) := by omega
      have hrune := rune_any (s.extract i s.size) wr (by rw [ByteArray.size_extract]; omega)
      have HRUNE := Lib.hid hrune
      clear hrune
      go_wp2_with fail
      refine HRUNE.out.mono ?_
      rintro e w3 ⟨hb3, c, k, rfl, hbeg⟩
      rw [sI_from] at hbeg
      have hrb3 := HR.out.1.below hb3
      obtain ⟨⟨l0, l1, l2, l3, l4, l5, l6⟩, _⟩ := cells7 hrb3.box
      obtain ⟨bs0, hs1, hs2, hs3⟩ := HV0.out.below hrb3.bl
      obtain ⟨gb, off, cap, q, e0, hq, c2⟩ := Reads.one Value.bool hs1 (show i < s.size + 1 by omega)
      cases e0
      have hqP := hs3 i q hq
      have HQ := Lib.hid hqP
      have HBEG := Lib.hid hbeg
      have HB3 := Lib.hid hrb3
      have t2 : (i : Int) < (s.size : Int) + 1 := by omega
      clear hs1 hs2 hs3 hq hqP hbeg hrb3 hb3
      cases q with
      | false =>
        go_wp2_with fail
        go_roundw
        case rel => exact ⟨i + 1, bs, by go_num, hlt, Lib.hid ⟨HB3.out, fun j b hj => by
          rw [HR.out.2 j b hj, cpre_step HBEG.out j]
          have : ¬ P i := fun h => by have := HQ.out.2 h; cases this
          simp [this]⟩⟩
        case measure => simp [intOf]; omega
      | true =>
      by_cases hk0 : 0 < k
      · have hrg := HRG.out w3 HB3.out.bl
        have HRG3 := Lib.hid hrg
        clear hrg
        go_wp2_with fail
        refine HRG3.out.mono ?_
        rintro e w4 ⟨v4, rfl, hr4, hb4⟩
        have hrb4 := HB3.out.below hb4
        have hin := in_any zs v4 c w4 hr4 HZ.out.1 HZ.out.2
        obtain ⟨q2, hq2⟩ : ∃ q2, q2 = inB zs c := ⟨_, rfl⟩
        rw [← hq2] at hin
        have HIN := Lib.hid hin
        have HQ2 := Lib.hid hq2
        have HB4 := Lib.hid hrb4
        clear hrb4 hin hq2 hb4 hr4 l0 l1 l2 l3 l4 l5 l6
        go_wp2_with fail
        refine HIN.out.mono ?_
        rintro e w5 ⟨rfl, rfl⟩
        cases q2 with
        | false =>
          go_wp2_with fail
          go_roundw
          case rel => exact ⟨i + 1, bs, by go_num, hlt, Lib.hid ⟨HB4.out, fun j b hj => by
            rw [HR.out.2 j b hj, cpre_step HBEG.out j]
            have := HQ2.out
            simp [← this]⟩⟩
          case measure => simp [intOf]; omega
        | true =>
          have hbd := begins_bd HBEG.out hk0
          rw [sN_len] at hbd
          have wr3 : IntKind.i64.wrap ((i : Int) + (k : Int)) = ((i + k : Nat) : Int) := by rw [IntWalk.i64_in _ (by omega)]; omega
          have t3 : (0 : Int) ≤ ((i + k : Nat) : Int) := by omega
          have t4 : ((i + k : Nat) : Int) < (s.size : Int) + 1 := by omega
          obtain ⟨ob, ho, cc, cf⟩ := own_bit HB4.out.own (k := i + k) (by omega)
          have HBD := Lib.hid hbd
          clear hbd ho
          obtain ⟨ik, hik⟩ : ∃ ik, ik = i + k := ⟨_, rfl⟩
          rw [← hik] at wr3 t3 t4 cc cf
          have HIK := Lib.hid hik
          clear hik
          go_wp2_with fail
          go_roundw
          case rel => exact ⟨i + 1, bs.set ik true, by go_num, hlt, Lib.hid ⟨HB4.out.store ik, set_true HR.out.2 fun j => by
            rw [cpre_step HBEG.out j, HIK.out]
            have h1 := HQ2.out
            have h2 : P i := HQ.out.1 (by first | rfl | trivial)
            simp [← h1, h2, hk0]⟩⟩
          case measure => simp [intOf]; omega
      · obtain rfl : k = 0 := by omega
        go_wp2_with fail
        go_roundw
        case rel => exact ⟨i + 1, bs, by go_num, hlt, Lib.hid ⟨HB3.out, fun j b hj => by
          rw [HR.out.2 j b hj, cpre_step HBEG.out j]
          simp⟩⟩
        case measure => simp [intOf]; omega
    · obtain rfl : i = s.size := by omega
      go_wp2_with fail
      go_ret
      exact ⟨HR.out.1.bl, _, rfl, (HR.out.1.set HR.out.2).congr fun j _ => by
        rw [← cpre_all, sN_len]⟩
set_option maxHeartbeats 4000000 in
theorem reach_lit (s : ByteArray) (hs : s.size ≤ 100) (P : Nat → Prop) (v : Value) (w : World) (hv : SetAt w v (s.size + 1) P) (ra : Option Addr) (rc : Nat) (mn mx : Int) (lz fo : Bool) (sa : Option Addr) (sb sc : Nat) (rs : List Int) (hR : Reads w (.slice ra rs.length rc) rs.length 1 (rs.map rV)) (hl : rs.length ≤ 1000) (hlet : ∀ r ∈ rs, Let r) :
    Calls Tryd.prog 45 #[.agg #[.int .i64 3, .slice ra rs.length rc, .int .i64 mn, .int .i64 mx, .bool lz, .bool fo, .slice sa sb sc], .string s, v] w (RPost (s.size + 1) (Rch (fun x => x = word rs) (sN s) P) w) := by
  obtain ⟨va, vc, rfl⟩ := hv.form
  have hbg := Beg.of s hs #[.int .i64 3, .slice ra rs.length rc, .int .i64 mn, .int .i64 mx, .bool lz, .bool fo, .slice sa sb sc] w
  have hmk := fun W => run_make_row' (P := Tryd.prog) 25 4 (.bool false) 1 Tryd.underlying25 info_bool rfl .i64 .i64 (s.size + 1) (by omega) (by omega) W
  simp only [Int.natCast_add, Int.cast_ofNat_Int] at hmk
  have wr1 : IntKind.i64.wrap ((s.size : Int) + 1) = (s.size : Int) + 1 := IntWalk.i64_in _ (by omega)
  obtain ⟨W2, hW2⟩ : ∃ W2, W2 = ((w.alloc (.cells #[.int .i64 3, .slice ra rs.length rc, .int .i64 mn, .int .i64 mx, .bool lz, .bool fo, .slice sa sb sc] 35)).alloc (.cells (madeCells #[Value.bool false] (s.size + 1)) 4)) := ⟨_, rfl⟩
  rw [← hW2] at hbg
  have hv2 := hv.below hbg.bl
  have HBG := Lib.hid hbg
  have HV2 := Lib.hid hv2
  have hln : va = va := rfl
  clear hbg hv2  hln
  obtain ⟨R0, hR0⟩ : ∃ R0 : List Bool, R0 = List.replicate (s.size + 1) false := ⟨_, rfl⟩
  obtain ⟨n, hn⟩ : ∃ n, n = rs.length := ⟨_, rfl⟩
  have hrb := RB.of HBG.out
  rw [← hR0] at hrb
  rw [← hn] at hR hl hrb hW2 HBG ⊢
  have HRB := Lib.hid hrb
  have HR0 := Lib.hid hR0
  have HRR := Lib.hid hR
  have HN := Lib.hid hn
  have HLET := Lib.hid hlet
  have HV0 := Lib.hid hv
  clear hrb hR0 hR hlet hv hn
  go_enter Tryd.func45, Tryd.ntmps45
  go_wp2_with fail
  rw [← hW2]
  clear hW2 hmk
  go_loopw [8, 9] (fun sv iv wr => ∃ (i : Nat) (wd : ByteArray), iv = .int .i64 (i : Int) ∧ sv = .string wd ∧ i ≤ n ∧ Hid (RB s #[.int .i64 3, .slice ra n rc, .int .i64 mn, .int .i64 mx, .bool lz, .bool fo, .slice sa sb sc] R0 w wr ∧ sN wd = word (rs.take i))) (fun _ iv _ => n - (intOf iv).toNat)
  case atStart => exact ⟨0, ⟨#[]⟩, rfl, rfl, Nat.zero_le _, Lib.hid ⟨HRB.out, rfl⟩⟩
  case round =>
    obtain ⟨i, wd, rfl, rfl, hi, HR⟩ := hrel
    rename World => wr
    have wr2 : IntKind.i64.wrap ((i : Int) + 1) = (i : Int) + 1 := IntWalk.i64_in _ (by omega)
    obtain ⟨⟨l0, l1, l2, l3, l4, l5, l6⟩, _⟩ := cells7 HR.out.1.box
    by_cases hlt : i < n
    · obtain ⟨gb, off, cap, x, e0, hx, c2⟩ := Reads.one rV (HRR.out.below HR.out.1.bl) hlt
      cases e0
      have d1 : rV x = .int .i32 x := rfl
      rw [d1] at c2
      have t0 : (0 : Int) ≤ (i : Int) := by omega
      have t1 : (i : Int) < (n : Int) := by omega
      have henc := fun W => encoded_any x W (HLET.out x (List.mem_of_getElem? hx))
      have HENC := Lib.hid henc
      have HX := Lib.hid (And.intro hx (HLET.out x (List.mem_of_getElem? hx)))
      have hwd := word_sz (wd := wd) (rs.take i) HR.out.2
      have hxs : (strOfNums (ubytes x)).size ≤ 4 := by rw [strOfNums_size, wid_len]; exact wid_le4 x
      have hcat : ¬ 9223372036854775807 < wd.size + (strOfNums (ubytes x)).size := by have := List.length_take_le i rs; omega
      have hsn : sN (wd ++ strOfNums (ubytes x)) = word (rs.take (i + 1)) := by
        rw [sN_append, HR.out.2, List.take_add_one, hx]
        show word (rs.take i) ++ sN (strOfNums (ubytes x)) = word (rs.take i ++ [x])
        unfold word
        rw [List.flatMap_append]
        congr 1
        simp only [List.flatMap_cons, List.flatMap_nil, List.append_nil]
        exact str_ub x (HLET.out x (List.mem_of_getElem? hx))
      have HSN := Lib.hid hsn
      clear henc hx d1 hwd hxs hsn
      go_wp2_with fail
      refine (HENC.out _).mono ?_
      rintro e w3 ⟨rfl, hb3⟩
      have H3 := Lib.hid (HR.out.1.below hb3)
      clear hb3
      go_wp2_with fail
      go_roundw
      case rel => exact ⟨i + 1, _, by go_num, rfl, hlt, Lib.hid ⟨H3.out, HSN.out⟩⟩
      case measure => simp [intOf]; omega
    · obtain rfl : i = n := by omega
      have hws := word_sz (wd := wd) (rs.take i) HR.out.2
      have hwe : sN wd = word rs := by rw [HR.out.2, List.take_of_length_le (by have := HN.out; omega)]
      have hws2 : wd.size ≤ 4000 := by have := List.length_take_le i rs; omega
      have HWE := Lib.hid hwe
      have HRB2 := Lib.hid HR.out.1
      clear hws hwe HR
      go_wp2_with fail
      go_loopw [10] (fun iv wr => ∃ (m : Nat) (bs : List Bool), iv = .int .i64 (m : Int) ∧ m + wd.size ≤ s.size + 1 + wd.size ∧ Hid (RB s #[.int .i64 3, .slice ra i rc, .int .i64 mn, .int .i64 mx, .bool lz, .bool fo, .slice sa sb sc] bs w wr ∧ (0 < m → m + wd.size ≤ s.size + 1) ∧ ∀ (j : Nat) b, bs[j]? = some b → (b = true ↔ LPre (sN s) (sN wd) P m j))) (fun iv _ => s.size + 1 - (intOf iv).toNat)
      case atStart => exact ⟨0, R0, rfl, by omega, Lib.hid ⟨HRB2.out, fun h => by omega, fun j b hj => by
        rw [HR0.out, List.getElem?_replicate] at hj
        split at hj
        · cases hj; exact ⟨fun h => (by cases h), fun ⟨i, h, _⟩ => by omega⟩
        · cases hj⟩⟩
      case round =>
        obtain ⟨m, bs, rfl, hm, HR⟩ := hrel
        rename World => wr2
        have wr4 : IntKind.i64.wrap ((m : Int) + (wd.size : Int)) = (m : Int) + (wd.size : Int) := IntWalk.i64_in _ (by omega)
        have wr5 : IntKind.i64.wrap ((m : Int) + 1) = (m : Int) + 1 := IntWalk.i64_in _ (by omega)
        by_cases hlt : m + wd.size ≤ s.size
        · obtain ⟨bs0, hs1, hs2, hs3⟩ := HV0.out.below HR.out.1.bl
          obtain ⟨gb, off, cap, q, e0, hq, c2⟩ := Reads.one Value.bool hs1 (show m < s.size + 1 by omega)
          cases e0
          have HQ := Lib.hid (hs3 m q hq)
          have t0 : (0 : Int) ≤ (m : Int) := by omega
          have t1 : (m : Int) < (s.size : Int) + 1 := by omega
          have t2 : (m : Int) + (wd.size : Int) ≤ (s.size : Int) := by omega
          have t3 : (m : Int) ≤ (m : Int) + (wd.size : Int) := by omega
          have hstep := fun j => lpre_step (L := sN s) (w := sN wd) (P := P) (i := m) (by rw [sN_len, sN_len]; exact hlt) j
          have HSTEP := Lib.hid hstep
          clear hs1 hs2 hs3 hq hstep
          cases q with
          | false =>
            go_wp2_with fail
            go_roundw
            case rel => exact ⟨m + 1, bs, by go_num, by omega, Lib.hid ⟨HR.out.1, fun _ => by omega, fun j b hj => by
              rw [HR.out.2.2 j b hj, HSTEP.out j]
              have : ¬ P m := fun h => by have := HQ.out.2 h; first | (cases this; done) | exact this
              simp [this]⟩⟩
            case measure => simp [intOf]; omega
          | true =>
            obtain ⟨q2, hq2⟩ : ∃ q2, q2 = ((s.extract m (m + wd.size)).toList == wd.toList) := ⟨_, rfl⟩
            have hqs : q2 = true ↔ ((sN s).take (m + (sN wd).length)).drop m = sN wd := by rw [hq2, str_eq, sN_extract, sN_len]
            have hQ2 := hq2.symm
            have HQS := Lib.hid hqs
            have HPM := Lib.hid (HQ.out.1 (by first | rfl | trivial))
            clear hq2 hqs HQ
            cases q2 with
            | false =>
              go_wp2_with fail
              go_roundw
              case rel => exact ⟨m + 1, bs, by go_num, by omega, Lib.hid ⟨HR.out.1, fun _ => by omega, fun j b hj => by
                rw [HR.out.2.2 j b hj, HSTEP.out j]
                have : ¬ ((sN s).take (m + (sN wd).length)).drop m = sN wd := fun h => by have := HQS.out.2 h; first | (cases this; done) | exact this
                simp only [this, false_and, and_false, or_false]⟩⟩
              case measure => simp [intOf]; omega
            | true =>
              obtain ⟨ob, ho, cc, cf⟩ := own_bit HR.out.1.own (k := m + wd.size) (by omega)
              obtain ⟨mk, hmk⟩ : ∃ mk, mk = m + wd.size := ⟨_, rfl⟩
              have wr6 : IntKind.i64.wrap ((m : Int) + (wd.size : Int)) = (mk : Int) := by rw [wr4]; omega
              have t4 : (m : Int) + (wd.size : Int) = (mk : Int) := by omega
              have t5 : (0 : Int) ≤ (mk : Int) := by omega
              have t6 : (mk : Int) < (s.size : Int) + 1 := by omega
              rw [← hmk] at cc cf hQ2
              have HMK := Lib.hid hmk
              have HS2 := Lib.hid (HR.out.1.store mk)
              clear hmk ho
              go_wp2_with fail
              go_roundw
              case rel => exact ⟨m + 1, bs.set mk true, by go_num, by omega, Lib.hid ⟨HS2.out, fun _ => by omega, set_true HR.out.2.2 fun j => by
                rw [HSTEP.out j, HMK.out]
                have h1 := HPM.out
                have h2 := HQS.out.1 (by first | rfl | trivial)
                rw [sN_len] at h2 ⊢
                simp only [h1, h2, true_and]⟩⟩
              case measure => simp [intOf]; omega
        · have t2 : ¬ (m : Int) + (wd.size : Int) ≤ (s.size : Int) := by omega
          have hfin : ∀ j, LPre (sN s) (sN wd) P m j ↔ Rch (fun x => x = word rs) (sN s) P j := fun j => lpre_all (by rw [sN_len, sN_len]; omega) rs HWE.out j
          have HFIN := Lib.hid hfin
          clear hfin
          go_wp2_with fail
          go_ret
          exact ⟨HR.out.1.bl, _, rfl, (HR.out.1.set HR.out.2.2).congr fun j _ => HFIN.out j⟩
end Go.Proofs.YtnpchkohfomagaaDoor.Rgm
/-! spec.Reached for all expressions; spec.Matches. -/
namespace Go.Proofs.YtnpchkohfomagaaDoor.Rgm
open Go.ChangeShapes Go.WideShapes Go.ChangeAt Go.RowKit Go.Trav Go.Rg Go.Utf Go.Proofs.YtnpchkohfomagaaDoor.Rgw Go.Proofs.YtnpchkohfomagaaDoor.Rgy Go.Proofs.YtnpchkohfomagaaDoor.Utf0 Go.Proofs.YtnpchkohfomagaaDoor.Seq
set_option linter.unusedVariables false
set_option linter.unusedSimpArgs false
set_option maxRecDepth 100000
theorem RPost.congr {n : Nat} {Q Q' : Nat → Prop} {w : World} {e : Ending} {w' : World} (h : RPost n Q w e w') (hq : ∀ j, j < n → (Q j ↔ Q' j)) : RPost n Q' w e w' := by
  obtain ⟨h1, v, h2, h3⟩ := h
  exact ⟨h1, v, h2, h3.congr hq⟩
theorem rch_bd (L : List Nat → Prop) (l : List Nat) (P : Nat → Prop) (j : Nat) : Rch L l (fun i => P i ∧ i ≤ l.length) j ↔ Rch L l P j :=
  Rch.congr (fun _ => Iff.rfl) (fun i hi => ⟨fun h => h.1, fun h => ⟨h, hi⟩⟩) j
theorem bad_sub {d : Nat} {t : Tr} (h : bad (d + 1) t = none) (x : Tr) (hx : x ∈ t.subs) (h13 : 13 ≤ t.op) (h1 : t.op ≤ 17 → t.subs = [x]) : bad d x = none := by
  have h0 : (if t.lazy then some 1 else if 7 ≤ t.op ∧ t.op ≤ 10 then some 2 else if t.op = 11 ∨ t.op = 12 then some 3 else if t.op < 13 then none else if t.op ≤ 17 then bad d t.sub else (t.subs.map (bad d)).findSome? id) = none := h
  split at h0
  · cases h0
  rw [if_neg (by omega), if_neg (by omega), if_neg (by omega)] at h0
  split at h0
  · rename_i h17
    have := h1 h17
    unfold Tr.sub at h0
    rw [this] at h0
    exact h0
  · rw [List.findSome?_eq_none_iff] at h0
    exact h0 _ (List.mem_map.2 ⟨x, hx, rfl⟩)
theorem bad_op {d : Nat} {t : Tr} (h : bad (d + 1) t = none) : t.lazy = false ∧ ¬ (7 ≤ t.op ∧ t.op ≤ 12) := by
  have h0 : (if t.lazy then some 1 else if 7 ≤ t.op ∧ t.op ≤ 10 then some 2 else if t.op = 11 ∨ t.op = 12 then some 3 else if t.op < 13 then none else if t.op ≤ 17 then bad d t.sub else (t.subs.map (bad d)).findSome? id) = none := h
  split at h0
  · cases h0
  rename_i hl
  refine ⟨by simpa using hl, fun hh => ?_⟩
  by_cases h10 : t.op ≤ 10
  · rw [if_pos (by omega)] at h0; cases h0
  · rw [if_neg (by omega), if_pos (by omega)] at h0; cases h0
theorem ops12 {o : Nat} (h2 : 2 ≤ o) (h3 : o ≤ 19) (h : ¬ (7 ≤ o ∧ o ≤ 12)) : o = 2 ∨ o = 3 ∨ o = 4 ∨ o = 5 ∨ o = 6 ∨ o = 13 ∨ o = 14 ∨ o = 15 ∨ o = 16 ∨ o = 17 ∨ o = 18 ∨ o = 19 := by omega
set_option maxHeartbeats 4000000 in
theorem reached_any (s : ByteArray) (hs : s.size ≤ 100) : ∀ (d : Nat) (t : Tr) (cs : List Value) (w : World) (v : Value) (P : Nat → Prop), RxV w d t cs → WF d t → bad d t = none → SetAt w v (s.size + 1) P →
    Calls Tryd.prog 45 #[.agg cs.toArray, .string s, v] w (RPost (s.size + 1) (Rch (lang d t) (sN s) P) w) := by
  intro d
  induction d with
  | zero => intro t cs w v P h; exact h.elim
  | succ d ih =>
    rintro t cs w v P ⟨rv, sv, css, rfl, ⟨ho, hrl, hcl⟩, hrv, hlen, hsv, h7, hsub⟩ hW hb hv
    obtain ⟨ra, rc, rfl⟩ := hrv.form
    obtain ⟨sa, sc, rfl⟩ := hsv.form
    obtain ⟨hlz, hno⟩ := bad_op hb
    obtain ⟨w1, w2, w3, w4, w5, w6, w7, w8⟩ := hW
    have hlang : ∀ x, lang (d + 1) t x ↔ (if t.op = 2 then x = [] else if t.op = 3 then x = word t.runes else if t.op = 4 ∨ t.op = 5 ∨ t.op = 6 then Cls (rsOf t) x
      else if t.op = 13 then lang d t.sub x else if t.op = 14 then Star (lang d t.sub) x
      else if t.op = 15 then ∃ b c, x = b ++ c ∧ lang d t.sub b ∧ Star (lang d t.sub) c
      else if t.op = 16 then x = [] ∨ lang d t.sub x
      else if t.op = 17 then ∃ b c, x = b ++ c ∧ Pow (lang d t.sub) t.mn.toNat b ∧ (if t.mx = -1 then Star (lang d t.sub) c else Opt (lang d t.sub) (t.mx - t.mn).toNat c)
      else if t.op = 18 then CatL (t.subs.map (lang d)) x
      else ∃ L ∈ t.subs.map (lang d), L x) := fun x => Iff.rfl
    have hmk : ∀ (hwf : ∀ x ∈ t.subs, WF d x ∧ bad d x = none), Parts s css (t.subs.map (lang d)) sa sc w := fun hwf =>
      ⟨hsv, h7, hcl, by rw [List.length_map]; exact hlen, fun c hc => by
        obtain ⟨i, hi⟩ := List.getElem?_of_mem hc
        have hil := (List.getElem?_eq_some_iff.1 hi).1
        obtain ⟨o1, rv1, mn1, mx1, lz1, sv1, e1, ⟨x1, x2, x3, e2⟩, y1, y2, y3, e3⟩ := (hsub i c _ hi (List.getElem?_eq_getElem (by omega))).form
        subst e2 e3
        exact ⟨o1, x1, x2, x3, mn1, mx1, lz1, false, y1, y2, y3, e1⟩, fun i c L hc hL W u X hbw hu => by
        rw [List.getElem?_map] at hL
        obtain ⟨x, hx, rfl⟩ := Option.map_eq_some_iff.1 hL
        have hxm := List.mem_of_getElem? hx
        exact ih x c W u X (RxV.below hbw d x c (hsub i c x hc hx)) (hwf x hxm).1 (hwf x hxm).2 hu⟩
    have hone : 13 ≤ t.op → t.op ≤ 17 → ∃ (c : List Value) (x : Tr), css = [c] ∧ t.sub = x ∧ Parts s [c] [lang d x] sa sc w := fun h13 h17 => by
      obtain ⟨x, hx, hwx⟩ := w6 h13 h17
      have hp := hmk fun y hy => by
        rw [hx, List.mem_singleton] at hy
        subst hy
        exact ⟨hwx, bad_sub hb y (by rw [hx]; simp) h13 fun _ => hx⟩
      rw [hx] at hp hlen
      match css, hlen, hp with
      | [c], _, hp => exact ⟨c, x, rfl, by unfold Tr.sub; rw [hx]; rfl, hp⟩
    have hP : ∀ i, (fun i => P i ∧ i ≤ (sN s).length) i → i ≤ (sN s).length := fun i h => h.2
    have hvb : SetAt w v (s.size + 1) (fun i => P i ∧ i ≤ (sN s).length) := hv.congr fun j hj => ⟨fun h => ⟨h, by rw [sN_len]; omega⟩, fun h => h.1⟩
    have hcases : t.op = 2 ∨ t.op = 3 ∨ t.op = 4 ∨ t.op = 5 ∨ t.op = 6 ∨ t.op = 13 ∨ t.op = 14 ∨ t.op = 15 ∨ t.op = 16 ∨ t.op = 17 ∨ t.op = 18 ∨ t.op = 19 := ops12 w2 w3 hno
    have fin : ∀ {Q : Nat → Prop} (o m : Int), ((t.op : Nat) : Int) = o → t.mn = m → Calls Tryd.prog 45 #[.agg #[.int .i64 o, .slice ra t.runes.length rc, .int .i64 m, .int .i64 t.mx, .bool t.lazy, .bool false, .slice sa css.length sc], .string s, v] w (RPost (s.size + 1) Q w) → (∀ j, Q j ↔ Rch (lang (d + 1) t) (sN s) P j) →
        Calls Tryd.prog 45 #[.agg ([.int .i64 (t.op : Int), .slice ra t.runes.length rc, .int .i64 t.mn, .int .i64 t.mx, .bool t.lazy, .bool false, .slice sa css.length sc] : List Value).toArray, .string s, v] w (RPost (s.size + 1) (Rch (lang (d + 1) t) (sN s) P) w) :=
      fun o m e1 e2 h hq => by subst e1 e2; exact h.mono fun e w' hh => hh.congr fun j _ => hq j
    have lg : ∀ {L : List Nat → Prop}, (∀ x, lang (d + 1) t x ↔ L x) → ∀ j, Rch L (sN s) P j ↔ Rch (lang (d + 1) t) (sN s) P j := fun h j => Rch.congr (fun x => (h x).symm) (fun _ _ => Iff.rfl) j
    rcases hcases with hop | hop | hop | hop | hop | hop | hop | hop | hop | hop | hop | hop
    all_goals
      have hl := hlang
      rw [hop] at hl
    · refine fin (Q := fun j => P j ∧ j ≤ (sN s).length) 2 t.mn (by rw [hop]; rfl) rfl (reach_empty s hs _ v w hvb _ _ _ _ _ _ _ _ _ _) fun j => ?_
      refine Iff.trans ?_ (lg (L := fun x => x = []) (fun x => (hl x).trans (by simp only [if_true])) j)
      rw [rch_eps]
      exact And.comm
    · exact fin 3 t.mn (by rw [hop]; rfl) rfl (reach_lit s hs P v w hv _ _ _ _ _ _ _ _ _ t.runes hrv hrl (w4 hop)) (lg fun x => (hl x).trans (by rw [if_neg (by decide), if_pos rfl]))
    · obtain ⟨_, ⟨k, hk, _⟩, _⟩ := w5 hop
      have hz : rsOf t = t.runes := by unfold rsOf; rw [hop]; rfl
      exact fin 4 t.mn (by rw [hop]; rfl) rfl (reach_cls4 s hs P v w hv _ _ _ _ _ _ _ _ t.runes hrv t.runes rfl ⟨k, hk⟩ hrl) (lg fun x => (hl x).trans (by rw [if_neg (by decide), if_neg (by decide), if_pos (by decide), hz]))
    · have hz : rsOf t = [0, 9, 11, 1114111] := by unfold rsOf; rw [hop]; rfl
      exact fin 5 t.mn (by rw [hop]; rfl) rfl (reach_cls5 s hs P v w hv _ _ _ _ _ _ _ _ t.runes hrv [0, 9, 11, 1114111] rfl ⟨2, rfl⟩ (by decide)) (lg fun x => (hl x).trans (by rw [if_neg (by decide), if_neg (by decide), if_pos (by decide), hz]))
    · have hz : rsOf t = [0, 1114111] := by unfold rsOf; rw [hop]; rfl
      exact fin 6 t.mn (by rw [hop]; rfl) rfl (reach_cls6 s hs P v w hv _ _ _ _ _ _ _ _ t.runes hrv [0, 1114111] rfl ⟨1, rfl⟩ (by decide)) (lg fun x => (hl x).trans (by rw [if_neg (by decide), if_neg (by decide), if_pos (by decide), hz]))
    · obtain ⟨c, x, rfl, hx, hp⟩ := hone (by rw [hop]; decide) (by rw [hop]; decide)
      exact fin 13 t.mn (by rw [hop]; rfl) rfl (reach_cap s hs P v w hv _ _ _ _ _ _ _ _ _ c _ hp) (lg fun y => (hl y).trans (by rw [if_neg (by decide), if_neg (by decide), if_neg (by decide), if_pos rfl, hx]))
    · obtain ⟨c, x, rfl, hx, hp⟩ := hone (by rw [hop]; decide) (by rw [hop]; decide)
      refine fin 14 t.mn (by rw [hop]; rfl) rfl (reach_rep14 s hs _ v w hvb _ _ _ _ _ _ _ _ _ c _ hp) fun j => ?_
      refine Iff.trans ?_ (lg (L := Star (lang d x)) (fun y => (hl y).trans (by rw [if_neg (by decide), if_neg (by decide), if_neg (by decide), if_neg (by decide), if_pos rfl, hx])) j)
      rw [← rch_bd]
      exact (rch_star_node _ _ _ hP j).symm
    · obtain ⟨c, x, rfl, hx, hp⟩ := hone (by rw [hop]; decide) (by rw [hop]; decide)
      refine fin 15 t.mn (by rw [hop]; rfl) rfl (reach_rep15 s hs _ v w hvb _ _ _ _ _ _ _ _ _ c _ hp) fun j => ?_
      refine Iff.trans ?_ (lg (L := fun y => ∃ b c, y = b ++ c ∧ lang d x b ∧ Star (lang d x) c) (fun y => (hl y).trans (by rw [if_neg (by decide), if_neg (by decide), if_neg (by decide), if_neg (by decide), if_neg (by decide), if_pos rfl, hx])) j)
      rw [← rch_bd]
      exact (rch_plus_node _ _ _ hP j).symm
    · obtain ⟨c, x, rfl, hx, hp⟩ := hone (by rw [hop]; decide) (by rw [hop]; decide)
      refine fin 16 t.mn (by rw [hop]; rfl) rfl (reach_rep16 s hs _ v w hvb _ _ _ _ _ _ _ _ _ c _ hp) fun j => ?_
      refine Iff.trans ?_ (lg (L := fun y => y = [] ∨ lang d x y) (fun y => (hl y).trans (by rw [if_neg (by decide), if_neg (by decide), if_neg (by decide), if_neg (by decide), if_neg (by decide), if_neg (by decide), if_pos rfl, hx])) j)
      rw [← rch_bd]
      exact (rch_quest_node _ _ _ hP j).symm
    · obtain ⟨c, x, rfl, hx, hp⟩ := hone (by rw [hop]; decide) (by rw [hop]; decide)
      obtain ⟨m0, m1, m2, m3⟩ := w7 hop
      obtain ⟨lo, hlo⟩ := Int.eq_ofNat_of_zero_le m0
      have hlo2 : t.mn.toNat = lo := by rw [hlo]; rfl
      refine fin 17 (lo : Int) (by rw [hop]; rfl) hlo (reach_rep17 s hs _ v w hvb _ _ _ lo _ _ _ _ _ c _ hp (by omega) m2 (by omega)) fun j => ?_
      refine Iff.trans ?_ (lg (L := fun y => ∃ b c, y = b ++ c ∧ Pow (lang d x) t.mn.toNat b ∧ (if t.mx = -1 then Star (lang d x) c else Opt (lang d x) (t.mx - t.mn).toNat c)) (fun y => (hl y).trans (by rw [if_neg (by decide), if_neg (by decide), if_neg (by decide), if_neg (by decide), if_neg (by decide), if_neg (by decide), if_neg (by decide), if_pos rfl, hx])) j)
      rw [← rch_bd]
      have := (rch_rep_node (lang d x) _ _ hP t.mn t.mx m0 (by omega) j).symm
      rw [hlo2] at this ⊢
      exact this
    · have hp := hmk fun y hy => ⟨(w8 (by omega)).2.1 y hy, bad_sub hb y hy (by omega) fun h => by omega⟩
      exact fin 18 t.mn (by rw [hop]; rfl) rfl (reach_cat s hs P v w hv _ _ _ _ _ _ _ _ _ _ css _ rfl hp) (lg fun y => (hl y).trans (by rw [if_neg (by decide), if_neg (by decide), if_neg (by decide), if_neg (by decide), if_neg (by decide), if_neg (by decide), if_neg (by decide), if_neg (by decide), if_pos rfl]))
    · have hp := hmk fun y hy => ⟨(w8 (by omega)).2.1 y hy, bad_sub hb y hy (by omega) fun h => by omega⟩
      refine fin 19 t.mn (by rw [hop]; rfl) rfl (reach_alt s hs P v w hv _ _ _ _ _ _ _ _ _ _ css _ rfl hp) fun j => ?_
      refine Iff.trans ?_ (lg (L := fun y => ∃ L ∈ t.subs.map (lang d), L y) (fun y => (hl y).trans (by rw [if_neg (by decide), if_neg (by decide), if_neg (by decide), if_neg (by decide), if_neg (by decide), if_neg (by decide), if_neg (by decide), if_neg (by decide), if_neg (by decide)])) j)
      exact (rch_alts _ _ _ _).symm
theorem rch_whole (L : List Nat → Prop) (l : List Nat) : Rch L l (fun i => i = 0) l.length ↔ L l := by
  unfold Rch
  constructor
  · rintro ⟨_, i, _, rfl, h⟩
    simpa using h
  · intro h
    exact ⟨Nat.le_refl _, 0, Nat.zero_le _, rfl, by simpa using h⟩
set_option maxHeartbeats 4000000 in
theorem matches_any (s : ByteArray) (hs : s.size ≤ 100) (d : Nat) (t : Tr) (cs : List Value) (w : World) (mb : Bool) (hX : RxV w d t cs) (hW : WF d t) (hb : bad d t = none) (hm : mb = true ↔ lang d t (sN s)) :
    Calls Tryd.prog 20 #[.agg cs.toArray, .string s] w fun e w' => e = .returned (.bool mb) ∧ Below w.heap.size w w' := by
  obtain ⟨o1, rv1, mn1, mx1, lz1, sv1, rfl, ⟨ra, rb, rc, rfl⟩, sa, sb, sc, rfl⟩ := hX.form
  have hbg := Beg.of s hs #[.int .i64 o1, .slice ra rb rc, .int .i64 mn1, .int .i64 mx1, .bool lz1, .bool false, .slice sa sb sc] w
  have hmk := fun W => run_make_row' (P := Tryd.prog) 25 4 (.bool false) 1 Tryd.underlying25 info_bool rfl .i64 .i64 (s.size + 1) (by omega) (by omega) W
  simp only [Int.natCast_add, Int.cast_ofNat_Int] at hmk
  have wr1 : IntKind.i64.wrap ((s.size : Int) + 1) = (s.size : Int) + 1 := IntWalk.i64_in _ (by omega)
  obtain ⟨W2, hW2⟩ : ∃ W2, W2 = ((w.alloc (.cells #[.int .i64 o1, .slice ra rb rc, .int .i64 mn1, .int .i64 mx1, .bool lz1, .bool false, .slice sa sb sc] 35)).alloc (.cells (madeCells #[Value.bool false] (s.size + 1)) 4)) := ⟨_, rfl⟩
  rw [← hW2] at hbg
  obtain ⟨ob, ho, cc, cf⟩ := own_bit hbg.own (k := 0) (by omega)
  rw [hW2] at cc cf
  have hrb := (RB.of hbg).store 0
  have hset : SetAt (W2.setCell ⟨w.heap.size + 1, 0, none⟩ (.bool true)) (.slice (some ⟨w.heap.size + 1, 0, none⟩) (s.size + 1) (s.size + 1)) (s.size + 1) (fun i => i = 0) := hrb.set (set_true (Q := fun _ => False) (fun j b hj => by
    rw [List.getElem?_replicate] at hj
    split at hj
    · cases hj; simp
    · cases hj) fun j => by simp)
  have hreach := reached_any s hs d t _ _ _ _ (RxV.below hrb.bl d t _ hX) hW hb hset
  have hcells := (cells7 hrb.box).1
  rw [hW2] at hcells
  obtain ⟨l0, l1, l2, l3, l4, l5, l6⟩ := hcells
  have HREACH := Lib.hid hreach
  have HBL := Lib.hid hrb.bl
  have HM := Lib.hid hm
  clear hreach hset hrb hbg ho hX hm
  have t0 : (0 : Int) ≤ (s.size : Int) := by omega
  have t1 : (s.size : Int) < (s.size : Int) + 1 := by omega
  go_enter Tryd.func20, Tryd.ntmps20
  go_wp2_with fail
  rw [← World.setCell_alloc_at _ _ (w.heap.size + 1) 0 _ (by simp), ← hW2]
  clear l0 l1 l2 l3 l4 l5 l6 cc cf hW2 hmk
  refine HREACH.out.mono ?_
  rintro e w3 ⟨hb3, v3, rfl, bs, hs1, hs2, hs3⟩
  obtain ⟨a3, c3, rfl⟩ := hs1.form
  obtain ⟨gb, off, cap, q, e0, hq, c2⟩ := Reads.one Value.bool hs1 (show s.size < s.size + 1 by omega)
  cases e0
  have hqm : q = mb := by
    have h1 := hs3 _ _ hq
    have h2 := rch_whole (lang d t) (sN s)
    rw [sN_len] at h2
    rw [h2, ← HM.out] at h1
    cases q <;> cases mb <;> simp_all
  subst hqm
  have H3 := Lib.hid (HBL.out.trans (hb3.mono HBL.out.size))
  clear hb3 hs1 hs2 hs3 hq
  go_wp2_with fail
  go_ret
  exact ⟨rfl, H3.out⟩
end Go.Proofs.YtnpchkohfomagaaDoor.Rgm
/-! How many states a program has that is rows of ranges, parted by splits: plain. -/
namespace Go.Rg
set_option linter.unusedVariables false
/-- All sublists. -/
def subl : List Nat → List (List Nat)
  | [] => [[]]
  | a :: r => subl r ++ (subl r).map (a :: ·)
theorem subl_len : ∀ L : List Nat, (subl L).length = 2 ^ L.length
  | [] => rfl
  | a :: r => by rw [subl, List.length_append, List.length_map, subl_len r, List.length_cons, Nat.pow_succ]; omega
theorem mem_subl {T L : List Nat} (h : T.Sublist L) : T ∈ subl L := by
  induction h with
  | slnil => simp [subl]
  | cons a _ ih => rw [subl, List.mem_append]; exact .inl ih
  | cons_cons a _ ih => rw [subl, List.mem_append]; exact .inr (List.mem_map.2 ⟨_, ih, rfl⟩)
theorem nodup_sub {α : Type} [DecidableEq α] : ∀ (A B : List α), A.Nodup → (∀ x ∈ A, x ∈ B) → A.length ≤ B.length := by
  intro A
  induction A with
  | nil => intro B _ _; simp
  | cons a A ih =>
    intro B hn h
    have ha := h a (by simp)
    have h1 := ih (B.erase a) (List.nodup_cons.1 hn).2 fun x hx => by
      have hne : x ≠ a := fun e => (List.nodup_cons.1 hn).1 (e ▸ hx)
      exact (List.mem_erase_of_ne hne).2 (h x (by simp [hx]))
    rw [List.length_erase_of_mem ha] at h1
    have : 0 < B.length := List.length_pos_of_mem ha
    rw [List.length_cons]
    omega
def isR (l : List In) (x : Nat) : Bool := match l[x]? with
  | some i => i.op == 3
  | none => false
theorem takes_of_isR {l : List In} {x : Nat} (h : isR l x = true) : takes l x = true := by
  cases hx : l[x]? with
  | none => simp [isR, hx] at h
  | some i =>
    simp [isR, hx] at h
    simp [takes, hx, h]
theorem isR_of_into {l : List In} {c x : Nat} (h : into l c x = true) : isR l x = true := by
  cases hx : l[x]? with
  | none => simp [into, hx] at h
  | some i =>
    simp [into, hx] at h
    simp [isR, hx, h]
/-- Rows of ranges, each of at most four, from a place of bs on; behind each the end e, or a jump to it. -/
structure Leaf (l : List In) (e : Nat) (bs : List Nat) : Prop where
  fin : ∃ i, l[e]? = some i ∧ i.op = 0
  start : ∀ x ∈ startK l, isR l x = true → x ∈ bs
  row : ∀ b ∈ bs, ∃ w, w ≤ 4 ∧ (∀ j, j < w → isR l (b + j) = true) ∧ (b + w = e ∨ ∃ i, l[b + w]? = some i ∧ i.op = 1 ∧ i.to = e)
/-- A root of a step: a range, the end, or a jump to it. -/
def Root (l : List In) (e x : Nat) : Prop := isR l x = true ∨ x = e ∨ ∃ i, l[x]? = some i ∧ i.op = 1 ∧ i.to = e
theorem add_root {l : List In} {e : Nat} (hf : ∃ i, l[e]? = some i ∧ i.op = 0) {S : List Nat} {x f : Nat} (hx : Root l e x) (hS : x ∉ S ∨ isR l x = false) (hlen : 0 < l.length) (hn : l.length + 1 = f + 2) :
    (add l (f + 2) S x).filter (isR l) = S.filter (isR l) ++ [x].filter (isR l) ∧ (∀ y ∈ add l (f + 2) S x, y ∈ S ∨ y = x ∨ y = e) := by
  obtain ⟨ie, he, he0⟩ := hf
  have hre : isR l e = false := by simp [isR, he, he0]
  unfold add
  by_cases hm : x ∈ S
  · rw [if_pos hm]
    have hr : isR l x = false := hS.resolve_left (fun h => h hm)
    exact ⟨by simp [hr], fun y hy => .inl hy⟩
  · rw [if_neg hm]
    rcases hx with hr | rfl | ⟨i, hi, h1, h2⟩
    · cases hi : l[x]? with
      | none => simp [isR, hi] at hr
      | some i =>
        have h3 : i.op = 3 := by simpa [isR, hi] using hr
        simp only [h3, show ¬ (3 : Nat) = 1 by decide, show ¬ (3 : Nat) = 2 by decide, if_false]
        exact ⟨by rw [List.filter_append], fun y hy => by simp at hy; rcases hy with h | h; exact .inl h; exact .inr (.inl h)⟩
    · rw [he]
      simp only [he0, show ¬ (0 : Nat) = 1 by decide, show ¬ (0 : Nat) = 2 by decide, if_false]
      exact ⟨by rw [List.filter_append], fun y hy => by simp at hy; rcases hy with h | h; exact .inl h; exact .inr (.inl h)⟩
    · rw [hi]
      simp only [h1, if_true, h2]
      have hrx : isR l x = false := by simp [isR, hi, h1]
      unfold add
      by_cases hme : e ∈ S ++ [x]
      · rw [if_pos hme]
        exact ⟨by rw [List.filter_append], fun y hy => by simp at hy; rcases hy with h | h; exact .inl h; exact .inr (.inl h)⟩
      · rw [if_neg hme, he]
        simp only [he0, show ¬ (0 : Nat) = 1 by decide, show ¬ (0 : Nat) = 2 by decide, if_false]
        refine ⟨by rw [List.filter_append, List.filter_append]; simp [hre], fun y hy => ?_⟩
        simp at hy
        rcases hy with h | h | h
        · exact .inl h
        · exact .inr (.inl h)
        · exact .inr (.inr h)
theorem addAll_roots {l : List In} {e : Nat} (hf : ∃ i, l[e]? = some i ∧ i.op = 0) (hlen : 1 < l.length) : ∀ (n : Nat) (r : List Nat), r.length = n → r.Nodup → (∀ x ∈ r, Root l e x) →
    (addAll l [] r).filter (isR l) = r.filter (isR l) ∧ (∀ y ∈ addAll l [] r, y ∈ r ∨ y = e) := by
  intro n
  induction n with
  | zero =>
    intro r h _ _
    obtain rfl := List.eq_nil_of_length_eq_zero h
    exact ⟨rfl, fun y hy => by simp [addAll] at hy⟩
  | succ n ih =>
    intro r h hn hr
    obtain ⟨r', x, rfl⟩ : ∃ r' x, r = r' ++ [x] := by
      rcases List.eq_nil_or_concat r with rfl | ⟨r', x, rfl⟩
      · simp at h
      · exact ⟨r', x, by simp⟩
    have hn' := List.nodup_append.1 hn
    obtain ⟨h1, h2⟩ := ih r' (by simpa using h) hn'.1 fun y hy => hr y (by simp [hy])
    have hx := hr x (by simp)
    have hxr : x ∉ r' := fun hm => hn'.2.2 x hm x (by simp) rfl
    obtain ⟨f, hff⟩ : ∃ f, l.length + 1 = f + 2 := ⟨l.length - 1, by omega⟩
    have hS : x ∉ addAll l [] r' ∨ isR l x = false := by
      by_cases hm : x ∈ addAll l [] r'
      · right
        rcases h2 x hm with h | h
        · exact absurd h hxr
        · obtain ⟨i, hi, hi0⟩ := hf
          rw [h]; simp [isR, hi, hi0]
      · exact .inl hm
    obtain ⟨k1, k2⟩ := add_root hf (f := f) hx hS (by omega) hff
    rw [addAll_snoc, hff]
    refine ⟨by rw [k1, h1, List.filter_append], fun y hy => ?_⟩
    rcases k2 y hy with h | h | h
    · rcases h2 y h with h | h
      · exact .inl (by simp [h])
      · exact .inr h
    · exact .inl (by simp [h])
    · exact .inr h
/-- The states of such a program: the first one, and behind each number of bytes one a sublist of the rows. -/
def states4 (l : List In) : List (List Nat) := startK l :: (List.range 4).flatMap fun d => (subl ((startK l).filter (isR l))).map fun R => key l (addAll l [] (R.map (· + (d + 1))))
theorem states4_len (l : List In) : (states4 l).length = 1 + 4 * 2 ^ ((startK l).filter (isR l)).length := by
  unfold states4
  rw [List.length_cons, List.length_flatMap]
  simp only [List.length_map, subl_len, List.map_const']
  simp [List.range, List.range.loop, List.replicate, List.sum_cons]
  omega
theorem leaf_rk {l : List In} {e : Nat} {bs : List Nat} (h : Leaf l e bs) (hs : Sound l) (hlen : 1 < l.length) {K : List Nat} (hK : Rk l K) : K ∈ states4 l ∧
    ∃ (w : Nat → Nat) (d : Nat), (∀ b ∈ bs, w b ≤ 4 ∧ (∀ j, j < w b → isR l (b + j) = true) ∧ (b + w b = e ∨ ∃ i, l[b + w b]? = some i ∧ i.op = 1 ∧ i.to = e)) ∧
      (K.filter (isR l)).Sublist ((((startK l).filter (isR l)).filter fun b => decide (d < w b)).map (· + d)) := by
  obtain ⟨ie, hie, hie0⟩ := h.fin
  have hre : isR l e = false := by simp [isR, hie, hie0]
  have hB : ∀ b ∈ (startK l).filter (isR l), b ∈ bs ∧ isR l b = true := fun b hb => by
    have := List.mem_filter.1 hb
    exact ⟨h.start b this.1 this.2, this.2⟩
  have hBn : ((startK l).filter (isR l)).Nodup := (isK_start hs (by omega)).nd.sublist List.filter_sublist
  induction hK with
  | start =>
    refine ⟨by simp [states4], ?_⟩
    obtain ⟨w, hw⟩ : ∃ w : Nat → Nat, ∀ b ∈ bs, w b ≤ 4 ∧ (∀ j, j < w b → isR l (b + j) = true) ∧ (b + w b = e ∨ ∃ i, l[b + w b]? = some i ∧ i.op = 1 ∧ i.to = e) :=
      ⟨fun b => if hb : b ∈ bs then (h.row b hb).choose else 0, fun b hb => by simp only [hb, dif_pos]; exact (h.row b hb).choose_spec⟩
    refine ⟨w, 0, hw, ?_⟩
    have : (((startK l).filter (isR l)).filter fun b => decide (0 < w b)) = (startK l).filter (isR l) := List.filter_eq_self.2 fun b hb => by
      obtain ⟨h1, h2⟩ := hB b hb
      obtain ⟨_, _, h5⟩ := hw b h1
      rw [decide_eq_true_iff]
      rcases Nat.eq_zero_or_pos (w b) with h0 | h0
      · rw [h0, Nat.add_zero] at h5
        rcases h5 with h5 | ⟨i, hi, h6, _⟩
        · rw [h5, hre] at h2; cases h2
        · simp [isR, hi, h6] at h2
      · exact h0
    rw [this]
    simp
  | @step K c hK hc ih =>
    obtain ⟨_, w, d, hw, hsub⟩ := ih
    have h1 : (K.filter (into l c)).Sublist (K.filter (isR l)) := by
      have : K.filter (into l c) = (K.filter (isR l)).filter (into l c) := by
        rw [List.filter_filter]
        apply List.filter_congr
        intro x _
        cases hx : into l c x with
        | false => simp
        | true => simp [isR_of_into hx]
      rw [this]
      exact List.filter_sublist
    obtain ⟨R, hR, hRe⟩ := List.sublist_map_iff.1 (h1.trans hsub)
    have hroots : rootsOf l K c = R.map (· + (d + 1)) := by
      unfold rootsOf
      rw [hRe, List.map_map]
      apply List.map_congr_left
      intro x _
      simp; omega
    have hRB : R.Sublist ((startK l).filter (isR l)) := hR.trans List.filter_sublist
    have hRm : ∀ b ∈ R, b ∈ bs ∧ d < w b := fun b hb => by
      have := List.mem_filter.1 (hR.subset hb)
      exact ⟨(hB b this.1).1, by simpa using this.2⟩
    have hrn : (R.map (· + (d + 1))).Nodup := by
      rw [List.nodup_iff_pairwise_ne, List.pairwise_map]
      exact (hBn.sublist hRB).imp fun h e => h (by omega)
    have hrr : ∀ x ∈ R.map (· + (d + 1)), Root l e x := fun x hx => by
      obtain ⟨b, hb, rfl⟩ := List.mem_map.1 hx
      obtain ⟨h3, h4⟩ := hRm b hb
      obtain ⟨_, h5, h6⟩ := hw b h3
      rcases Nat.lt_or_ge (d + 1) (w b) with h7 | h7
      · exact .inl (h5 (d + 1) h7)
      · have : w b = d + 1 := by omega
        rw [this] at h6
        exact .inr h6
    obtain ⟨k1, _⟩ := addAll_roots h.fin hlen _ _ rfl hrn hrr
    have hstep : stepK l K c = key l (addAll l [] (R.map (· + (d + 1)))) := by unfold stepK; rw [hroots]
    constructor
    · rw [hstep]
      unfold states4
      apply List.mem_cons_of_mem
      rw [List.mem_flatMap]
      by_cases hd : d < 4
      · exact ⟨d, List.mem_range.2 hd, List.mem_map.2 ⟨R, mem_subl hRB, rfl⟩⟩
      · have hR0 : R = [] := List.eq_nil_iff_forall_not_mem.2 fun b hb => by
          obtain ⟨h3, h4⟩ := hRm b hb
          have := (hw b h3).1
          omega
        subst hR0
        exact ⟨0, by simp, List.mem_map.2 ⟨[], mem_subl (List.nil_sublist _), rfl⟩⟩
    · refine ⟨w, d + 1, hw, ?_⟩
      rw [hstep]
      have e1 : (key l (addAll l [] (R.map (· + (d + 1))))).filter (isR l) = (R.map (· + (d + 1))).filter (isR l) := by
        unfold key
        rw [List.filter_filter, ← k1]
        apply List.filter_congr
        intro x _
        cases hx : isR l x with
        | false => simp
        | true => simp [takes_of_isR hx]
      rw [e1, List.filter_map]
      apply List.Sublist.map
      have e2 : R.filter (isR l ∘ (· + (d + 1))) = R.filter fun b => decide (d + 1 < w b) := by
        apply List.filter_congr
        intro b hb
        obtain ⟨h3, h4⟩ := hRm b hb
        obtain ⟨_, h5, h6⟩ := hw b h3
        rcases Nat.lt_or_ge (d + 1) (w b) with h7 | h7
        · simp only [Function.comp, h5 (d + 1) h7, h7, decide_true]
        · have hwd : w b = d + 1 := by omega
          rw [hwd] at h6
          have : isR l (b + (d + 1)) = false := by
            rcases h6 with h6 | ⟨i, hi, h8, _⟩
            · rw [h6]; exact hre
            · simp [isR, hi, h8]
          simp only [Function.comp, this]
          simp; omega
      rw [e2]
      exact hRB.filter _
theorem leaf_few {l : List In} {e : Nat} {bs : List Nat} (h : Leaf l e bs) (hs : Sound l) (hlen : 1 < l.length) (hb : bs.length ≤ 11) : ¬ Many l := by
  rintro ⟨Ks, h1, h2, h3⟩
  have h4 := nodup_sub Ks (states4 l) h1 fun K hK => (leaf_rk h hs hlen (h3 K hK).1).1
  rw [states4_len] at h4
  have hBn : ((startK l).filter (isR l)).Nodup := (isK_start hs (by omega)).nd.sublist List.filter_sublist
  have h5 := nodup_sub _ bs hBn fun b hb => by
    have := List.mem_filter.1 hb
    exact h.start b this.1 this.2
  have h6 : 2 ^ ((startK l).filter (isR l)).length ≤ 2 ^ 11 := Nat.pow_le_pow_right (by omega) (by omega)
  have : (2 : Nat) ^ 11 = 2048 := by decide
  omega
theorem wid_pos1 (x : Int) : 1 ≤ Utf.wid x := by unfold Utf.wid; split <;> (try split) <;> (try split) <;> omega
def nodes : Nat → List (Int × Int) → List Nat
  | q, [] => [q]
  | q, x :: r => q :: (q + 1) :: nodes (q + (seqIns x).length + 2) r
def bsOf : Nat → List (Int × Int) → List Nat
  | q, [] => [q]
  | q, x :: r => (q + 1) :: bsOf (q + (seqIns x).length + 2) r
theorem bsOf_len : ∀ (r : List (Int × Int)) (q : Nat), (bsOf q r).length = r.length + 1
  | [], _ => rfl
  | x :: r, q => by rw [bsOf, List.length_cons, bsOf_len r, List.length_cons]
theorem nodes_head : ∀ (r : List (Int × Int)) (q : Nat), q ∈ nodes q r
  | [], _ => by simp [nodes]
  | _ :: _, _ => by simp [nodes]
theorem nodes_are {l : List In} {E : Nat} {last : Int × Int} : ∀ (r : List (Int × Int)) (q : Nat), Holds l q (segs E q (r.map seqPc) ++ seqIns last) → ∀ x ∈ nodes q r, x ∈ bsOf q r ∨ ∃ i, l[x]? = some i ∧ i.op = 2 ∧ i.a ∈ nodes q r ∧ i.b ∈ nodes q r
  | [], q, _, x, hx => .inl (by simpa [nodes, bsOf] using hx)
  | y :: r, q, h, x, hx => by
    rw [List.map_cons, segs, List.append_assoc] at h
    obtain ⟨h1, h2⟩ := h.app
    rw [seg_len] at h2
    have h2' : Holds l (q + (seqIns y).length + 2) (segs E (q + (seqIns y).length + 2) (r.map seqPc) ++ seqIns last) := h2
    have hs := h1.cons.1
    simp only [nodes, List.mem_cons] at hx
    rcases hx with rfl | rfl | hx
    · exact .inr ⟨_, hs, rfl, by simp [nodes, In.spl], by
        show (x + (seqIns y).length + 2) ∈ nodes x (y :: r)
        simp only [nodes, List.mem_cons]
        exact .inr (.inr (nodes_head _ _))⟩
    · exact .inl (by simp [bsOf])
    · rcases nodes_are r _ h2' x hx with h3 | ⟨i, h3, h4, h5, h6⟩
      · exact .inl (by simp [bsOf, h3])
      · exact .inr ⟨i, h3, h4, by simp [nodes, h5], by simp [nodes, h6]⟩
theorem seqIns_rng {q : Int × Int} {k : Nat} {i : In} (h : (seqIns q)[k]? = some i) : i.op = 3 := by
  unfold seqIns at h
  rw [List.getElem?_map] at h
  obtain ⟨x, _, rfl⟩ := Option.map_eq_some_iff.1 h
  rfl
theorem holds_row {l : List In} {p : Nat} {q : Int × Int} (h : Holds l p (seqIns q)) : ∀ j, j < (seqIns q).length → isR l (p + j) = true := fun j hj => by
  have h1 : (seqIns q)[j]? = some (seqIns q)[j] := List.getElem?_eq_getElem hj
  have h2 := h j _ h1
  simp [isR, h2, seqIns_rng h1]
theorem rows_are4 {l : List In} {E : Nat} {last : Int × Int} (hl : Utf.Good last.1 last.2) : ∀ (r : List (Int × Int)) (q : Nat), (∀ x ∈ r, Utf.Good x.1 x.2) → Holds l q (segs E q (r.map seqPc) ++ seqIns last) → E = q + plen (r.map seqPc) + (seqIns last).length →
    ∀ b ∈ bsOf q r, ∃ w, 1 ≤ w ∧ w ≤ 4 ∧ (∀ j, j < w → isR l (b + j) = true) ∧ (b + w = E ∨ ∃ i, l[b + w]? = some i ∧ i.op = 1 ∧ i.to = E)
  | [], q, _, h, hE, b, hb => by
    simp only [bsOf, List.mem_singleton] at hb
    subst hb
    have hw := seqIns_len hl
    refine ⟨(seqIns last).length, by rw [hw]; exact wid_pos1 _, by rw [hw]; exact (wid_le4 _).2, ?_, .inl (by rw [hE]; simp [plen])⟩
    exact holds_row (by simpa [segs] using h)
  | y :: r, q, hg, h, hE, b, hb => by
    rw [List.map_cons, segs, List.append_assoc] at h
    obtain ⟨h1, h2⟩ := h.app
    rw [seg_len] at h2
    have h2' : Holds l (q + (seqIns y).length + 2) (segs E (q + (seqIns y).length + 2) (r.map seqPc) ++ seqIns last) := h2
    simp only [bsOf, List.mem_cons] at hb
    rcases hb with rfl | hb
    · have hw := seqIns_len (hg y (by simp))
      have h3 := h1.cons.2
      have h3' : Holds l (q + 1) (seqIns y ++ [In.jmp E]) := h3
      obtain ⟨h4, h5⟩ := h3'.app
      refine ⟨(seqIns y).length, by rw [hw]; exact wid_pos1 _, by rw [hw]; exact (wid_le4 _).2, holds_row h4, .inr ⟨In.jmp E, h5.cons.1, rfl, rfl⟩⟩
    · exact rows_are4 hl r _ (fun x hx => hg x (by simp [hx])) h2' (by
        rw [hE, List.map_cons, plen_cons]
        show q + ((seqIns y).length + 2 + plen (r.map seqPc)) + _ = _
        omega) b hb
/-- All letters are cut into at most nine ranges. -/
theorem done_nine {out : List (Int × Int)} (h : Utf.Done 0 1114111 out) : out.length ≤ 9 := by
  have h1 := nodup_sub (out.map Prod.fst) [0, 128, 2048, 4096, 53248, 57344, 65536, 262144, 1048576] (by
    rw [List.nodup_iff_pairwise_ne, List.pairwise_map]
    refine List.Pairwise.imp_of_mem ?_ h.rise
    intro a b ha _ hab e
    have := (h.good a ha).1.2.2.1
    omega) (fun x hx => by
    obtain ⟨q, hq, rfl⟩ := List.mem_map.1 hx
    have := h.st rfl rfl q hq
    unfold Utf.Fst at this
    simp
    exact this)
  simpa using h1
theorem any_few {c : List In} (h : RngC 0 1114111 0 c) (hs : Sound (c ++ [In.fin])) : ¬ Many (c ++ [In.fin]) := by
  obtain ⟨init, q, hd, hc⟩ := h
  have h9 := done_nine hd
  rw [List.length_append, List.length_singleton] at h9
  have hgq := (hd.good q (by simp)).1
  have hgi : ∀ x ∈ init, Utf.Good x.1 x.2 := fun x hx => (hd.good x (by simp [hx])).1
  have hE : c.length = 0 + plen (init.map seqPc) + (seqIns q).length := by rw [hc, List.length_append, segs_len]; omega
  have hc' : c = segs c.length 0 (init.map seqPc) ++ seqIns q := by
    conv => lhs; rw [hc]
    rw [hE]
  have hh : Holds (c ++ [In.fin]) 0 (segs c.length 0 (init.map seqPc) ++ seqIns q) := by
    rw [← hc']
    intro k i hk
    rw [Nat.zero_add, List.getElem?_append_left (List.getElem?_eq_some_iff.1 hk).1]
    exact hk
  have hrow := rows_are4 hgq init 0 hgi hh hE
  have hpos : 1 ≤ (seqIns q).length := by rw [seqIns_len hgq]; exact wid_pos1 _
  have hlen : 1 < (c ++ [In.fin]).length := by rw [List.length_append, List.length_singleton]; omega
  refine leaf_few (e := c.length) (bs := bsOf 0 init) ⟨⟨In.fin, by simp, rfl⟩, fun x hx hr => ?_, fun b hb => ?_⟩ hs hlen (by rw [bsOf_len]; omega)
  · have hcl := addAll_closure (c ++ [In.fin]) hs [0] (by simp)
    have hx1 := (List.mem_filter.1 hx).1
    have hn := hcl.least (fun x => x ∈ nodes 0 init) (by simpa using nodes_head init 0) (fun x i hx hi y hy => by
      rcases nodes_are init 0 hh x hx with hb | ⟨j, hj, hj2, hja, hjb⟩
      · obtain ⟨w, hw1, _, hw3, _⟩ := hrow x hb
        have := hw3 0 hw1
        rw [Nat.add_zero] at this
        simp [isR, hi] at this
        simp [In.succ, this] at hy
      · rw [hi] at hj
        cases hj
        simp [In.succ, hj2] at hy
        rcases hy with rfl | rfl
        · exact hja
        · exact hjb) x hx1
    rcases nodes_are init 0 hh x hn with hb | ⟨j, hj, hj2, _⟩
    · exact hb
    · simp [isR, hj, hj2] at hr
  · obtain ⟨w, _, h2, h3, h4⟩ := hrow b hb
    exact ⟨w, h2, h3, h4⟩
end Go.Rg
/-! Regexp.MatchesRegex; impl.RegexMatches. -/
namespace Go.Proofs.YtnpchkohfomagaaDoor.Rgm
open Go.ChangeShapes Go.WideShapes Go.ChangeAt Go.RowKit Go.Trav Go.Rg Go.Utf Go.Proofs.YtnpchkohfomagaaDoor.Rgw Go.Proofs.YtnpchkohfomagaaDoor.Rgy Go.Proofs.YtnpchkohfomagaaDoor.Seq
set_option linter.unusedVariables false
set_option linter.unusedSimpArgs false
set_option maxRecDepth 100000
theorem runT_le {Ks nx : List (List Nat)} (h : ∀ r ∈ nx, ∀ n ∈ r, n ≤ Ks.length) (hK : Ks.length ≤ 100000) (s : List Nat) : ∀ i, Go.Rg.runT Ks nx s i ≤ 100000
  | 0 => by show 1 ≤ 100000; omega
  | i + 1 => Nat.le_trans (accT_lt h _ _) hK
theorem sN_byte (s : ByteArray) (i : Nat) (h : i < s.size) : (sN s)[i]?.getD 0 = (s[i]'h).toNat := by
  unfold sN
  rw [List.getElem?_map, List.getElem?_eq_getElem (by exact h)]
  rfl
set_option maxHeartbeats 4000000 in
theorem mr_any (X D : Nat) (l : List In) (Ks nx : List (List Nat)) (s : ByteArray) (w : World) (mb : Bool) (hX : w.cell? ⟨X, 1, none⟩ = some (.pointer (some ⟨D, 0, none⟩))) (h : DF w D l Ks nx) (hrow : ∀ r ∈ nx, ∀ n ∈ r, n ≤ Ks.length) (hss : s.size ≤ 1000)
    (hend : matT l Ks (Go.Rg.runT Ks nx (sN s) s.size) = mb) (hstop : ∀ i, i < s.size → canT Ks (Go.Rg.runT Ks nx (sN s) i) = false → mb = false) :
    Calls Tryd.prog 44 #[.pointer (some ⟨X, 0, none⟩), .string s] w fun e w' => e = .returned (.bool mb) ∧ Below w.heap.size w w' := by
  have hK := h.few
  have HX := Lib.hid (fun (W : World) (hb : Below w.heap.size w W) => And.intro ((Mod.of_below (F := fun _ => False) hb).cell hX (fun x => x)) (h.below hb))
  have HE := Lib.hid (And.intro hend hstop)
  have HR := Lib.hid hrow
  have hst := fun W => start_any ⟨X, 0, none⟩ W
  have HST := Lib.hid hst
  clear hst hX h hrow hend hstop
  go_enter Tryd.func44, Tryd.ntmps44
  go_wp2_with fail
  refine (HST.out _).mono ?_
  rintro e w1 ⟨rfl, hb1⟩
  have HB1 := Lib.hid hb1
  clear hb1
  go_wp2_with fail
  go_loopw [5, 6] (fun sv iv wr => ∃ (i n : Nat), iv = .int .i64 (i : Int) ∧ sv = .int .i64 (n : Int) ∧ i ≤ s.size ∧ Hid (n = Go.Rg.runT Ks nx (sN s) i ∧ Below w.heap.size w wr)) (fun _ iv _ => s.size - (intOf iv).toNat)
  case atStart => exact ⟨0, 1, rfl, rfl, Nat.zero_le _, Lib.hid ⟨rfl, HB1.out⟩⟩
  case round =>
    obtain ⟨i, n, rfl, rfl, hi, HN⟩ := hrel
    rename World => wr
    have hn9 : n ≤ 100000 := by rw [HN.out.1]; exact runT_le HR.out hK _ i
    have hx := HX.out wr HN.out.2
    have hcan := can_any X D n l Ks nx wr hx.1 hx.2 hn9
    obtain ⟨cb, hcb⟩ : ∃ cb, cb = canT Ks n := ⟨_, rfl⟩
    rw [← hcb] at hcan
    have HCAN := Lib.hid hcan
    have HCB := Lib.hid hcb
    clear hcan hcb hx
    go_wp2_with fail
    refine HCAN.out.mono ?_
    rintro e w2 ⟨rfl, hb2⟩
    have H2 := Lib.hid (HN.out.2.trans (hb2.mono HN.out.2.size))
    clear hb2 HCAN
    by_cases hlt : i < s.size
    · have t1 : (i : Int) < (s.size : Int) := by omega
      have t0 : (0 : Int) ≤ (i : Int) := by omega
      have wr5 : IntKind.i64.wrap ((i : Int) + 1) = (i : Int) + 1 := IntWalk.i64_in _ (by omega)
      cases cb with
      | true =>
        obtain ⟨bb, hbb⟩ : ∃ bb : Nat, (s[i]'hlt).toNat = bb := ⟨_, rfl⟩
        have hb256 : bb < 256 := by rw [← hbb]; exact UInt8.toNat_lt _
        have hx2 := HX.out w2 H2.out
        have hacc := acc_any X D n bb l Ks nx w2 hx2.1 hx2.2 hn9 hb256
        obtain ⟨m, hm⟩ : ∃ m, m = accT Ks nx n bb := ⟨_, rfl⟩
        rw [← hm] at hacc
        have HACC := Lib.hid hacc
        have HM := Lib.hid (show m = Go.Rg.runT Ks nx (sN s) (i + 1) by
          show m = accT Ks nx (Go.Rg.runT Ks nx (sN s) i) ((sN s)[i]?.getD 0)
          rw [sN_byte s i hlt, hbb, ← HN.out.1, hm])
        clear hacc hm hx2
        go_wp2_with fail
        refine HACC.out.mono ?_
        rintro e w3 ⟨rfl, hb3⟩
        have H3 := Lib.hid (H2.out.trans (hb3.mono H2.out.size))
        clear hb3 HACC
        go_wp2_with fail
        go_roundw
        case rel => exact ⟨i + 1, m, by go_num, rfl, hlt, Lib.hid ⟨HM.out, H3.out⟩⟩
        case measure => simp [intOf]; omega
      | false =>
        have hmf : mb = false := HE.out.2 i hlt (by rw [← HN.out.1]; exact HCB.out.symm)
        have q1 : ((i : Int) == (s.size : Int)) = false := by simp; omega
        have HMF := Lib.hid hmf
        clear hmf
        go_wp2_with fail
        go_ret
        exact ⟨by rw [HMF.out]; rfl, H2.out⟩
    · obtain rfl : i = s.size := by omega
      have hx2 := HX.out w2 H2.out
      have his := is_any X D n l Ks nx w2 hx2.1 hx2.2 hn9
      rw [show matT l Ks n = mb by rw [HN.out.1]; exact HE.out.1] at his
      have HIS := Lib.hid his
      clear his hx2
      cases cb with
      | true =>
        go_wp2_with fail
        refine HIS.out.mono ?_
        rintro e w3 ⟨rfl, hb3⟩
        have H3 := Lib.hid (H2.out.trans (hb3.mono H2.out.size))
        clear hb3 HIS
        go_wp2_with fail
        go_ret
        exact ⟨rfl, H3.out⟩
      | false =>
        go_wp2_with fail
        refine HIS.out.mono ?_
        rintro e w3 ⟨rfl, hb3⟩
        have H3 := Lib.hid (H2.out.trans (hb3.mono H2.out.size))
        clear hb3 HIS
        go_wp2_with fail
        go_ret
        exact ⟨rfl, H3.out⟩
/-- What impl.RegexMatches answers. -/
def MPost (X : Nat → List In → Prop) (d : Nat) (t : Tr) (s : ByteArray) (w : World) (e : Ending) (w' : World) : Prop :=
  Below w.heap.size w w' ∧ ((∃ mb : Bool, e = .returned (.tuple #[.bool mb, .int .i64 0]) ∧ (mb = true ↔ lang d t (sN s)) ∧ bad d t = none) ∨
    ∃ k : Nat, e = .returned (.tuple #[.bool false, .int .i64 (k : Int)]) ∧ (1 ≤ k ∧ k ≤ 5) ∧ (bad d t = some k ∨ (k = 4 ∧ 262144 < size d t) ∨ (k = 5 ∧ bad d t = none ∧ 5 < places d t ∧ ∃ c, Ok (lang d t) (places d t) (size d t) 0 c ∧ X 0 c ∧ Many (c ++ [In.fin]))))
set_option maxHeartbeats 4000000 in
theorem rxm_gen (X : Nat → List In → Prop) (ad : Nat → Addr) (d : Nat) (t : Tr) (cs : List Value) (s : ByteArray) (w : World) (hX : RxV w d t cs) (hK : ErrK w ad) (hss : s.size ≤ 1000)
    (hn : ∀ (b : Nat) (w2 : World), Below w.heap.size w w2 → AstAt w2 d t b → Calls Tryd.prog 42 #[.string ⟨#[]⟩, .pointer (some ⟨b, 0, none⟩), .int .u64 10485760] w2 (NPostX X ad d t w2)) :
    Calls Tryd.prog 18 #[.agg cs.toArray, .string s] w (MPost X d t s w) := by
  obtain ⟨o1, rv1, mn1, mx1, lz1, sv1, rfl, ⟨ra, rb, rc, rfl⟩, sa, sb, sc, rfl⟩ := hX.form
  obtain ⟨W1, hW1⟩ : ∃ W1, W1 = w.alloc (.cells #[.int .i64 o1, .slice ra rb rc, .int .i64 mn1, .int .i64 mx1, .bool lz1, .bool false, .slice sa sb sc] 35) := ⟨_, rfl⟩
  have hb1 : Below w.heap.size w W1 := by rw [hW1]; exact (Below.refl _ _).alloc (Nat.le_refl _) _
  have ht := tree_any d t _ W1 (RxV.below hb1 d t _ hX)
  have HT := Lib.hid ht
  have HB1 := Lib.hid hb1
  have hbk : ∀ k, bad d t = some k → 1 ≤ k ∧ k ≤ 5 := fun k h => by have := bad_bd d t k h; omega
  have HH := Lib.hid (And.intro hn (And.intro hK hbk))
  clear hX ht hb1 hn hK hbk
  go_enter Tryd.func18, Tryd.ntmps18
  go_wp2_with fail
  rw [← hW1]
  refine HT.out.mono ?_
  rintro e w2 ⟨b, he, hb2, hA⟩
  obtain rfl : e = .returned (.pointer (some ⟨b, 0, none⟩)) := he
  have hb02 := HB1.out.trans (hb2.mono HB1.out.size)
  have hn := HH.out.1 b w2 hb02 (AstIn.at_ d t b hA)
  have HN := Lib.hid hn
  have HB2 := Lib.hid hb02
  clear hb2 hA hb02 hn HT HB1 hW1
  go_wp2_with fail
  refine HN.out.mono ?_
  rintro e w3 ⟨⟨Z, D, c, Ks, nx, rfl, hbad, hok, hZ, hmd, hrow, hDF⟩ | ⟨k, rfl, hk⟩, hb3⟩
  · have hbyte : ∀ x ∈ sN s, x < 256 := fun x hx => by
      obtain ⟨y, _, rfl⟩ := List.mem_map.1 hx
      exact y.toNat_lt
    obtain ⟨mb, hmb⟩ : ∃ mb, mb = isM (c ++ [In.fin]) (kAt (c ++ [In.fin]) (sN s) s.size) := ⟨_, rfl⟩
    have hml : mb = true ↔ lang d t (sN s) := by
      have := hok.isM (sN s) s.size (by rw [sN_len]; exact Nat.le_refl _)
      rw [hmb, this, List.take_of_length_le (by rw [sN_len]; exact Nat.le_refl _)]
    have hmr := mr_any Z D (c ++ [In.fin]) Ks nx s w3 mb hZ hDF hrow hss (by rw [hmb]; exact (made_run hmd hbyte s.size).1) fun i hi hc => by
      rw [(made_run hmd hbyte i).2] at hc
      cases hmt : mb with
      | false => rfl
      | true =>
        have h1 := hml.1 hmt
        have h2 := (hok.can (sN s) i (by rw [sN_len]; omega)).2 ⟨(sN s).drop i, by rw [List.take_append_drop]; exact h1⟩
        rw [h2] at hc
        cases hc
    have HMR := Lib.hid hmr
    have HB3 := Lib.hid hb3
    have HO := Lib.hid (And.intro hml hbad)
    clear hb3 hbad hok hZ hmd hrow hDF hmr hmb hml hbyte
    go_wp2_with fail
    refine HMR.out.mono ?_
    rintro e w7 ⟨rfl, hb7⟩
    have HB7 := Lib.hid hb7
    clear hb7
    go_wp2_with fail
    refine bodyPost_ret (v := .tuple #[.bool mb, .int .i64 0]) (by simp [results, Tryd.results18, go_sem]) rfl ?_
    have hb03 := HB2.out.trans (HB3.out.mono HB2.out.size)
    exact ⟨hb03.trans (HB7.out.mono hb03.size), Or.inl ⟨mb, rfl, HO.out.1, HO.out.2⟩⟩
  · have hb03 := HB2.out.trans (hb3.mono HB2.out.size)
    have hk5 : 1 ≤ k ∧ k ≤ 5 := by
      rcases hk with h | ⟨h, _⟩ | ⟨h, _⟩
      · exact HH.out.2.2 k h
      · omega
      · omega
    have hwr := wrong_k ad k w3 (HH.out.2.1.mod hb03) hk5.1 hk5.2
    have HWR := Lib.hid hwr
    have HB3 := Lib.hid hb03
    have HK := Lib.hid (And.intro hk5 hk)
    clear hb3 hb03 hk hwr hk5
    go_wp2_with fail
    refine HWR.out.mono ?_
    rintro e w7 ⟨rfl, hb7⟩
    have HB7 := Lib.hid hb7
    clear hb7
    go_wp2_with fail
    refine bodyPost_ret (v := .tuple #[.bool false, .int .i64 (k : Int)]) (by simp [results, Tryd.results18, go_sem]) rfl ?_
    exact ⟨HB3.out.trans (HB7.out.mono HB3.out.size), Or.inr ⟨k, rfl, HK.out.1, HK.out.2⟩⟩
/-- For any expression. -/
theorem rxm_any (ad : Nat → Addr) (d : Nat) (t : Tr) (cs : List Value) (s : ByteArray) (w : World) (hX : RxV w d t cs) (hW : WF d t) (hE : Env w w.heap.size ad) (hK : ErrK w ad) (h5b : 4 < w.heap.size) (hl : size d t ≤ 999990) (hss : s.size ≤ 1000) :
    Calls Tryd.prog 18 #[.agg cs.toArray, .string s] w (MPost (fun _ _ => True) d t s w) :=
  rxm_gen _ ad d t cs s w hX hK hss fun b w2 hb hA => npl_gen (fun _ _ => True) ad d b t w2 (fun C gs ge w1 hC hb1 => (c_spec w2.heap.size C gs ge ad d t b [] _ _ w1 hW ((hE.up hb.size hb).mod (Mod.of_below hb1 : Mod (TF cA w2.heap.size w2) w2 w1)) hC (hA.below hb1) (by simp; omega)).mono fun e w' h => h.toX) (hK.mod hb).h5 (Nat.lt_of_lt_of_le h5b hb.size) hl
def t6 : Tr := .mk 6 false false [] 0 0 []
/-- All letters: never refused. -/
theorem rxm_all (ad : Nat → Addr) (cs : List Value) (s : ByteArray) (w : World) (mb : Bool) (hX : RxV w 1 t6 cs) (hE : Env w w.heap.size ad) (hK : ErrK w ad) (h5b : 4 < w.heap.size) (hss : s.size ≤ 1000) (hm : mb = true ↔ lang 1 t6 (sN s)) :
    Calls Tryd.prog 18 #[.agg cs.toArray, .string s] w fun e w' => e = .returned (.tuple #[.bool mb, .int .i64 0]) ∧ Below w.heap.size w w' := by
  have hsz : size 1 t6 = 362 := by decide
  have hbd : bad 1 t6 = none := by decide
  refine (rxm_gen (RngC 0 1114111) ad 1 t6 cs s w hX hK hss fun b w2 hb hA => npl_gen _ ad 1 b t6 w2 (fun C gs ge w1 hC hb1 => c_all_x (d := 0) ((hE.up hb.size hb).mod (Mod.of_below hb1 : Mod (TF cA w2.heap.size w2) w2 w1)) hC (hA.below hb1) (by rw [hsz]; decide) rfl rfl) (hK.mod hb).h5 (Nat.lt_of_lt_of_le h5b hb.size) (by rw [hsz]; decide)).mono ?_
  rintro e w' ⟨hbw, ⟨mb', rfl, h1, _⟩ | ⟨k, rfl, _, h | ⟨h, h2⟩ | ⟨h, h2, h3, c, hok, hx, hmany⟩⟩⟩
  · refine ⟨?_, hbw⟩
    have : mb' = mb := by
      rw [← hm] at h1
      cases mb <;> cases mb' <;> simp_all
    rw [this]
  · rw [hbd] at h; cases h
  · rw [hsz] at h2; omega
  · exact absurd hmany (any_few hx hok.sound)
end Go.Proofs.YtnpchkohfomagaaDoor.Rgm
/-! FnRegexMatches: the law. -/
namespace Go.Proofs.YtnpchkohfomagaaDoor.Rgm
open Go.ChangeShapes Go.WideShapes Go.ChangeAt Go.RowKit Go.Trav Go.Rg Go.Utf Go.Proofs.YtnpchkohfomagaaDoor.Rgw Go.Proofs.YtnpchkohfomagaaDoor.Rgy Go.Proofs.YtnpchkohfomagaaDoor.Seq
set_option linter.unusedVariables false
set_option linter.unusedSimpArgs false
set_option maxRecDepth 100000
set_option maxHeartbeats 4000000 in
theorem refused_any (d : Nat) (t : Tr) (cs : List Value) (k : Nat) (w : World) (hX : RxV w d t cs) (hW : WF d t) (hL : Lf d t) (hP : places d t ≤ 1000000000) (hk : k = 4 ∨ k = 5) (h5 : 5 < places d t) :
    Calls Tryd.prog 19 #[.agg cs.toArray, .int .i64 (k : Int)] w fun e w' => e = .returned (.bool true) ∧ Below w.heap.size w w' := by
  obtain ⟨o1, rv1, mn1, mx1, lz1, sv1, rfl, ⟨ra, rb, rc, rfl⟩, sa, sb, sc, rfl⟩ := hX.form
  obtain ⟨W1, hW1⟩ : ∃ W1, W1 = w.alloc (.cells #[.int .i64 o1, .slice ra rb rc, .int .i64 mn1, .int .i64 mx1, .bool lz1, .bool false, .slice sa sb sc] 35) := ⟨_, rfl⟩
  have hb1 : Below w.heap.size w W1 := by rw [hW1]; exact (Below.refl _ _).alloc (Nat.le_refl _) _
  have hs := small_any d t _ W1 (RxV.below hb1 d t _ hX) hW hL hP
  rw [decide_eq_false (by omega)] at hs
  have HS := Lib.hid hs
  have HB := Lib.hid hb1
  clear hs hb1 hX hW hL hP h5
  rcases hk with rfl | rfl
  all_goals
    go_enter Tryd.func19, Tryd.ntmps19
    go_wp2_with fail
    rw [← hW1]
    refine HS.out.mono ?_
    rintro e w2 ⟨rfl, hb2⟩
    have H2 := Lib.hid (HB.out.trans (hb2.mono HB.out.size))
    clear hb2
    go_wp2_with fail
    go_ret
    exact ⟨rfl, H2.out⟩
theorem t6_rx (W : World) : RxV W 1 t6 [.int .i64 6, .slice none 0 0, .int .i64 0, .int .i64 0, .bool false, .bool false, .slice none 0 0] := RxI.rx _ _ _ (leaf_fin W (fun _ => True) 6 (by omega) 0)
theorem t6_a : lang 1 t6 (sN ⟨#[97]⟩) := by
  show Cls [0, 1114111] [97]
  exact ⟨(0, 1114111), by simp [prs], 97, ⟨by omega, by omega, by omega⟩, by decide, by decide, by decide⟩
set_option maxHeartbeats 8000000 in
theorem law_matches (ad : Nat → Addr) (n : Nat) (r : Rw) (cs : List Value) (s : ByteArray) (w : World) (h : RwV w n r cs) (hL : Laid w ad) :
    Calls Tryd.prog 4 #[.agg cs.toArray, .string s] w fun e w' => e = .returned (.bool true) ∧ Below w.heap.size w w' := by
  obtain ⟨rv1, lz1, fo1, sv1, rfl, ⟨ra1, rl1, rc1, rfl⟩, sa1, sl1, sc1, rfl⟩ := h.form
  obtain ⟨W1, hW1⟩ : ∃ W1, W1 = w.alloc (.cells #[.int .i64 r.op, .slice ra1 rl1 rc1, .int .i64 r.mn, .int .i64 r.mx, .bool lz1, .bool fo1, .slice sa1 sl1 sc1] 35) := ⟨_, rfl⟩
  have hb1 : Below w.heap.size w W1 := by rw [hW1]; exact (Below.refl _ _).alloc (Nat.le_refl _) _
  have b0 : W1.heap[w.heap.size]? = some (.cells #[.int .i64 r.op, .slice ra1 rl1 rc1, .int .i64 r.mn, .int .i64 r.mx, .bool lz1, .bool fo1, .slice sa1 sl1 sc1] 35 (0, 0)) := by rw [hW1]; exact heap_alloc_new w _
  have hx1 := fun (W : World) (hb : Below W1.heap.size W1 W) => expr_any 5 (by omega) (by omega) n r _ W (RwV.below (hb1.trans (hb.mono hb1.size)) n r _ h)
  have hk0 := fun (W : World) (hb : Below W1.heap.size W1 W) => (cells7 ((Mod.of_below (F := fun _ => False) hb).heap b0 (fun h => h))).1
  have hf1 := fun W => fits_any r.op ra1 rl1 rc1 r.mn r.mx lz1 fo1 sa1 sl1 sc1 W
  have hv1 := fun W => wide_any r.op ra1 rl1 rc1 r.mn r.mx lz1 fo1 sa1 sl1 sc1 W
  obtain ⟨f1, hfe1⟩ : ∃ f, f = (decide (rl1 ≤ 2147483647) && decide (sl1 ≤ 2147483647)) := ⟨_, rfl⟩
  obtain ⟨g1, hge1⟩ : ∃ g, g = (decide (rl1 ≤ 65536) && decide (sl1 ≤ 65536)) := ⟨_, rfl⟩
  rw [← hfe1] at hf1
  rw [← hge1] at hv1
  have HX1 := Lib.hid hx1
  have HK0 := Lib.hid hk0
  have HF1 := Lib.hid hf1
  have HV1 := Lib.hid hv1
  have HB1 := Lib.hid hb1
  have HL := Lib.hid hL
  clear hx1 hk0 hf1 hv1 hfe1 hge1 hb1 b0 h hL
  go_enter Tryd.func4, Tryd.ntmps4
  go_wp2_with fail
  rw [← hW1]
  clear hW1
  refine (HF1.out W1).mono ?_
  rintro e w3 ⟨rfl, hb3⟩
  have HB3 := Lib.hid hb3
  clear hb3
  cases f1 with
  | false =>
    go_wp2_with fail
    go_ret
    exact ⟨rfl, HB1.out.trans (HB3.out.mono HB1.out.size)⟩
  | true =>
  by_cases hs9 : s.size ≤ 2147483647
  case neg =>
    go_wp2_with fail
    go_ret
    exact ⟨rfl, HB1.out.trans (HB3.out.mono HB1.out.size)⟩
  obtain ⟨y0, y1, y2, y3, y4, y5, y6⟩ := HK0.out w3 HB3.out
  go_wp2_with fail
  refine (HV1.out w3).mono ?_
  rintro e w4 ⟨rfl, hb4⟩
  clear y0 y1 y2 y3 y4 y5 y6
  have HB4 := Lib.hid (HB3.out.trans (hb4.mono HB3.out.size))
  clear hb4 HB3
  cases g1 with
  | false =>
    go_wp2_with fail
    go_ret
    exact ⟨rfl, HB1.out.trans (HB4.out.mono HB1.out.size)⟩
  | true =>
  obtain ⟨y0, y1, y2, y3, y4, y5, y6⟩ := HK0.out w4 HB4.out
  have hfew := fun W => fewb_any s 40 W (by omega) (by omega)
  have HFEW := Lib.hid hfew
  clear hfew
  go_upto_region 5 with (fail)
  go_cut [5, 6] (fun v5 v6 wx => ∃ (b5 : Nat) (cA : List Value) (s' : ByteArray), v5 = .pointer (some ⟨b5, 0, none⟩) ∧ v6 = .string s' ∧ s'.size ≤ 40 ∧ Hid (wx.heap[b5]? = some (.cells cA.toArray 35 (0, 0)) ∧ RxV wx 5 (ex 5 r) cA ∧ Below w.heap.size w wx))
  case first =>
      go_wp2_with fail
      refine (HX1.out w4 HB4.out).mono ?_
      rintro e w5 ⟨cs5, he5, hl5, hb5, hx5⟩
      obtain ⟨o5, rv5, mn5, mx5, lz5, sv5, rfl, ⟨r51, r52, r53, rfl⟩, s51, s52, s53, rfl⟩ := hx5.form
      obtain rfl := he5
      have HX5 := Lib.hid (And.intro hx5 ((HB1.out.trans (HB4.out.mono HB1.out.size)).trans (hb5.mono (by have := HB4.out.size; have := HB1.out.size; omega))))
      clear hx5 hb5 hl5 y0 y1 y2 y3 y4 y5 y6
      go_wp2_with fail
      refine (HFEW.out _).mono ?_
      rintro e w6 ⟨⟨s', rfl, hs'⟩, rfl⟩
      go_wp2_with fail
      go_meet
      have hb : Below w5.heap.size w5 (w5.alloc (.cells #[.int .i64 o5, .slice r51 r52 r53, .int .i64 mn5, .int .i64 mx5, .bool lz5, .bool false, .slice s51 s52 s53] 35)) := (Below.refl _ _).alloc (Nat.le_refl _) _
      exact ⟨_, [.int .i64 o5, .slice r51 r52 r53, .int .i64 mn5, .int .i64 mx5, .bool lz5, .bool false, .slice s51 s52 s53], s', rfl, rfl, hs', Lib.hid ⟨heap_alloc_new _ _, RxV.below hb _ _ _ (RxI.rx _ _ _ HX5.out.1), HX5.out.2.trans (hb.mono HX5.out.2.size)⟩⟩
  obtain ⟨b5, cA, s', rfl, rfl, hs40, H7⟩ := hcut
  rename World => w7
  obtain ⟨oA, rvA, mnA, mxA, lzA, svA, rfl, ⟨a1, a2, a3, rfl⟩, a4, a5, a6, rfl⟩ := H7.out.2.1.form
  clear y0 y1 y2 y3 y4 y5 y6
  have hk7 := fun (W : World) (hb : Below w7.heap.size w7 W) => (cells7 (up_b hb H7.out.1)).1
  obtain ⟨l0, l1, l2, l3, l4, l5, l6⟩ := hk7 w7 (Below.refl _ _)
  have hmd := modest_any 5 (ex 5 r) _ 1 w7 H7.out.2.1 (ex_wf 5 r (by omega)) (ex_lf 5 r) (ex5_places r) (by omega)
  obtain ⟨mb, hmb⟩ : ∃ mb, mb = decide (places 5 (ex 5 r) * 1 ≤ 160) := ⟨_, rfl⟩
  rw [← hmb] at hmd
  have HMD := Lib.hid hmd
  have HK7 := Lib.hid hk7
  clear hmd hmb hk7
  go_wp2_with fail
  refine HMD.out.mono ?_
  rintro e w8 ⟨rfl, hb8⟩
  have HB8 := Lib.hid hb8
  clear hb8 l0 l1 l2 l3 l4 l5 l6 HMD
  have H8 := Lib.hid (And.intro (RxV.below HB8.out _ _ _ H7.out.2.1) (H7.out.2.2.trans (HB8.out.mono H7.out.2.2.size)))
  cases mb with
  | false =>
    go_wp2_with fail
    go_ret
    exact ⟨rfl, H8.out.2⟩
  | true =>
  have hL8 : Laid w8 ad := HL.out.below H8.out.2
  have hrx := rxm_any ad 5 (ex 5 r) _ s' w8 H8.out.1 (ex_wf 5 r (by omega)) hL8.env hL8.errs hL8.h5b (ex_small r) (by omega)
  have HRX := Lib.hid hrx
  obtain ⟨l0, l1, l2, l3, l4, l5, l6⟩ := HK7.out w8 HB8.out
  clear hrx hL8
  go_wp2_with fail
  refine HRX.out.mono ?_
  clear HRX
  rintro e w9 ⟨hb9, ⟨m, rfl, hm, _⟩ | ⟨k, rfl, hk5, hk⟩⟩
  · have hb79 : Below w7.heap.size w7 w9 := chain HB8.out hb9
    have HB9 := Lib.hid hb79
    have hL9 : Laid w9 ad := HL.out.below (H8.out.2.trans (hb9.mono H8.out.2.size))
    have hall := rxm_all ad _ ⟨#[97]⟩ w9 true (t6_rx w9) hL9.env hL9.errs hL9.h5b (by decide) ⟨fun _ => t6_a, fun _ => rfl⟩
    have HALL := Lib.hid hall
    have HM := Lib.hid hm
    clear hb9 hb79 hL9 hall hm l0 l1 l2 l3 l4 l5 l6
    go_wp2_with fail
    refine HALL.out.mono ?_
    rintro e w10 ⟨rfl, hb10⟩
    have hb710 : Below w7.heap.size w7 w10 := chain HB9.out hb10
    have hmt := matches_any s' (by omega) 5 (ex 5 r) _ w10 m (RxV.below hb710 _ _ _ H7.out.2.1) (ex_wf 5 r (by omega)) (ex_bad 5 r) HM.out
    have HMT := Lib.hid hmt
    have HB10 := Lib.hid hb710
    obtain ⟨l0, l1, l2, l3, l4, l5, l6⟩ := HK7.out w10 hb710
    clear hb10 hb710 hmt
    go_wp2_with fail
    refine HMT.out.mono ?_
    rintro e w11 ⟨rfl, hb11⟩
    have HB11 := Lib.hid (chain HB10.out hb11)
    clear hb11 l0 l1 l2 l3 l4 l5 l6
    cases m
    all_goals
      go_wp2_with fail
      go_ret
      exact ⟨rfl, H7.out.2.2.trans (HB11.out.mono H7.out.2.2.size)⟩
  · have hk45 : (k = 4 ∨ k = 5) ∧ 5 < places 5 (ex 5 r) := by
      rcases hk with h | ⟨h, h2⟩ | ⟨h, _, h2, _⟩
      · rw [ex_bad] at h; cases h
      · exact ⟨.inl h, by
          rcases Nat.lt_or_ge 5 (places 5 (ex 5 r)) with h3 | h3
          · exact h3
          · have := ex_few r h3; omega⟩
      · exact ⟨.inr h, h2⟩
    have hb79 : Below w7.heap.size w7 w9 := chain HB8.out hb9
    have href := refused_any 5 (ex 5 r) _ k w9 (RxV.below hb79 _ _ _ H7.out.2.1) (ex_wf 5 r (by omega)) (ex_lf 5 r) (ex5_places r) hk45.1 hk45.2
    have HREF := Lib.hid href
    have HB9 := Lib.hid hb79
    obtain ⟨y0, y1, y2, y3, y4, y5, y6⟩ := HK7.out w9 hb79
    have k0 : ((k : Int) == 0) = false := by simp; omega
    clear hb9 hb79 href hk hk45 l0 l1 l2 l3 l4 l5 l6
    go_wp2_with fail
    refine HREF.out.mono ?_
    rintro e w10 ⟨rfl, hb10⟩
    have HB10 := Lib.hid (chain HB9.out hb10)
    clear hb10
    go_wp2_with fail
    go_ret
    exact ⟨rfl, H7.out.2.2.trans (HB10.out.mono H7.out.2.2.size)⟩
end Go.Proofs.YtnpchkohfomagaaDoor.Rgm
