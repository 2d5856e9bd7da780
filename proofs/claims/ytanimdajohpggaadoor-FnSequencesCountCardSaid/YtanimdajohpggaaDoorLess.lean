/- spec.Less: the order of texts by their bytes. -/
import Derived.Test.YtanimdajohpggaaDoorLib
import Derived.Test.YtanimdajohpggaaDoorRows
import Derived.Deep.QuietTactic
import Derived.BigQuiet
import Derived.WalkLawsBesides
import Derived.WalkSpells
import Derived.Lib.QuietBelow
namespace Go.Proofs.YtanimdajohpggaaDoor.Less
open Go.ChangeShapes Go.WideShapes Go.ChangeAt Go.RowKit Go.Trav
set_option linter.unusedVariables false
set_option maxRecDepth 100000
def lessB : List UInt8 → List UInt8 → Bool
  | _, [] => false
  | [], _ :: _ => true
  | a :: s, b :: t => if a = b then lessB s t else decide (a.toNat < b.toNat)
theorem drop_at (s : ByteArray) (k : Nat) (h : k < s.size) : s.data.toList.drop k = s[k] :: s.data.toList.drop (k + 1) := by
  rw [List.drop_eq_getElem_cons (by simpa using h)]; rfl
theorem drop_end (s : ByteArray) (k : Nat) (h : s.size ≤ k) : s.data.toList.drop k = [] := List.drop_of_length_le (by simpa using h)
theorem less_eq {s t : ByteArray} {k : Nat} (h1 : k < s.size) (h2 : k < t.size) (h : s[k] = t[k]) : lessB (s.data.toList.drop k) (t.data.toList.drop k) = lessB (s.data.toList.drop (k + 1)) (t.data.toList.drop (k + 1)) := by
  rw [drop_at s k h1, drop_at t k h2]; simp only [lessB]; rw [if_pos h]
theorem less_ne {s t : ByteArray} {k : Nat} (h1 : k < s.size) (h2 : k < t.size) (h : s[k] ≠ t[k]) : lessB (s.data.toList.drop k) (t.data.toList.drop k) = decide (s[k].toNat < t[k].toNat) := by
  rw [drop_at s k h1, drop_at t k h2]; simp only [lessB]; rw [if_neg h]
theorem less_any (s t : ByteArray) (r : Bool) (w : World) (hs : s.size ≤ maxLen) (ht : t.size ≤ maxLen) (hr : lessB s.data.toList t.data.toList = r) :
    Calls Tryd.prog 23 #[.string s, .string t] w fun e w' => e = .returned (.bool r) ∧ ∃ k, w' = w.drewN k := by
  unfold maxLen at hs ht
  have HR := Lib.hid hr
  clear hr
  go_enter Tryd.func23, Tryd.ntmps23
  go_wp2_with fail
  go_loopw [5] (fun i wr => ∃ k : Nat, k ≤ s.size ∧ k ≤ t.size ∧ i = .int .i64 k ∧ Hid (lessB (s.data.toList.drop k) (t.data.toList.drop k) = r) ∧ (∃ q, wr = w.drewN q)) (fun i _ => s.size - (intOf i).toNat)
  case atStart => exact ⟨0, Nat.zero_le _, Nat.zero_le _, rfl, Lib.hid (by simpa using HR.out), ⟨0, rfl⟩⟩
  case round =>
    obtain ⟨k, hk1, hk2, rfl, HK, ⟨nq, rfl⟩⟩ := hrel
    by_cases h1 : k < s.size
    · by_cases h2 : k < t.size
      · by_cases h3 : s[k] = t[k]
        · have HN := Lib.hid (less_eq h1 h2 h3)
          have c1 : ((s[k].toNat : Int) != (t[k].toNat : Int)) = false := by rw [h3]; simp
          have c2 : ((s[k].toNat : Int) == (t[k].toNat : Int)) = true := by rw [h3]; simp
          clear h3
          go_wp2_with fail
          go_quiet (fail)
          go_wp2
          go_roundw
          case rel => exact ⟨k + 1, by omega, by omega, by go_num, Lib.hid (by rw [← HN.out]; exact HK.out), ⟨_, rfl⟩⟩
          case measure => simp [intOf]; omega
        · have HN := Lib.hid (less_ne h1 h2 h3)
          have h4 : (s[k].toNat : Int) ≠ (t[k].toNat : Int) := fun e => h3 (UInt8.toNat_inj.1 (by omega))
          have c1 : ((s[k].toNat : Int) != (t[k].toNat : Int)) = true := by simpa using h4
          have c2 : ((s[k].toNat : Int) == (t[k].toNat : Int)) = false := by simpa using h4
          clear h3 h4
          by_cases h5 : s[k].toNat < t[k].toNat
          · have HT : Hid (r = true) := Lib.hid (by rw [← HK.out, HN.out]; simpa using h5)
            go_wp2_with fail
            go_quiet (fail)
            go_wp2
            go_quiet (fail)
            go_wp2
            go_ret
            exact ⟨by rw [HT.out]; rfl, _, by rw [World.drewN_drewN, World.drewN_drewN]⟩
          · have HT : Hid (r = false) := Lib.hid (by rw [← HK.out, HN.out]; simpa using h5)
            have h5b : decide (s[k].toNat < t[k].toNat) = false := by simpa using h5
            go_wp2_with fail
            go_quiet (fail)
            go_wp2
            go_quiet (fail)
            go_wp2
            go_ret
            exact ⟨by rw [HT.out]; rfl, _, by rw [World.drewN_drewN, World.drewN_drewN]⟩
      · have HT : Hid (r = false) := Lib.hid (by rw [← HK.out, drop_end t k (by omega)]; cases s.data.toList.drop k <;> rfl)
        have h6 : ¬ s.size < t.size := by omega
        have h6b : decide (s.size < t.size) = false := by simpa using h6
        go_wp2_with fail
        go_ret
        exact ⟨by rw [HT.out]; rfl, _, rfl⟩
    · have hks : k = s.size := by omega
      subst hks
      by_cases h2 : s.size < t.size
      · have HT : Hid (r = true) := Lib.hid (by rw [← HK.out, drop_end s _ (Nat.le_refl _), drop_at t _ h2]; rfl)
        go_wp2_with fail
        go_ret
        exact ⟨by rw [HT.out]; rfl, _, rfl⟩
      · have HT : Hid (r = false) := Lib.hid (by rw [← HK.out, drop_end s _ (Nat.le_refl _), drop_end t _ (by omega)]; rfl)
        have h6b : decide (s.size < t.size) = false := by simpa using h2
        go_wp2_with fail
        go_ret
        exact ⟨by rw [HT.out]; rfl, _, rfl⟩
end Go.Proofs.YtanimdajohpggaaDoor.Less
