/- The reference's Many, Between; the laws' ends. -/
import Derived.Test.YtanimdajohpggaaDoorSeq7
import Derived.Laws.IdiomStrings
import Derived.IntWalk
namespace Go.Proofs.YtanimdajohpggaaDoor.Seq
open Go.ChangeShapes Go.WideShapes Go.ChangeAt Go.RowKit Go.Trav Go.Utf
set_option linter.unusedVariables false
set_option maxRecDepth 100000
theorem many_bd (ls : List (Int × Int)) (h : ∀ p ∈ ls, p.1 ≤ p.2 ∧ 0 ≤ p.1 ∧ p.2 ≤ 255) : ∀ k, 1 ≤ many (ls.take k) ∧ many (ls.take k) ≤ 256 ^ k := by
  intro k
  induction k with
  | zero => simp [many]
  | succ k ih =>
    by_cases hk : k < ls.length
    · have hq : ls[k]? = some ls[k] := List.getElem?_eq_getElem hk
      obtain ⟨h1, h2, h3⟩ := h ls[k] (List.getElem_mem hk)
      rw [take_snoc' _ _ _ hq, many_snoc]
      generalize ls[k] = p at h1 h2 h3
      have a1 : many (ls.take k) * 1 ≤ many (ls.take k) * (p.2 - p.1 + 1) := Int.mul_le_mul_of_nonneg_left (by omega) (by omega)
      have a2 : many (ls.take k) * (p.2 - p.1 + 1) ≤ many (ls.take k) * 256 := Int.mul_le_mul_of_nonneg_left (by omega) (by omega)
      rw [Int.pow_succ]
      omega
    · rw [List.take_of_length_le (by omega), ← List.take_of_length_le (show ls.length ≤ k by omega)]
      rw [Int.pow_succ]
      omega
theorem many_any (v : Value) (n : Nat) (ls : List (Int × Int)) (w : World) (hn : n ≤ 4) (hd : ∀ p ∈ ls, p.1 ≤ p.2 ∧ 0 ≤ p.1 ∧ p.2 ≤ 255) (h : Reads w v n 2 (ls.flatMap rgCells)) :
    Calls Tryd.prog 21 #[v] w fun e w' => e = .returned (.int .i64 (many ls)) ∧ ∃ k, w' = w.drewN k := by
  have hl := Reads.recs rgCells (fun _ => rfl) h (by omega)
  have hb := many_bd ls hd
  obtain ⟨ao, cap, rfl⟩ := h.form
  have HL := Lib.hid hl
  have HB := Lib.hid hb
  have HD := Lib.hid hd
  have H := Lib.hid h
  clear hl hb hd h
  go_enter Tryd.func21, Tryd.ntmps21
  go_wp2_with fail
  go_loopw [3, 4] (fun r i wr => ∃ k : Nat, k ≤ n ∧ i = .int .i64 k ∧ r = .int .i64 (many (ls.take k)) ∧ (∃ q, wr = w.drewN q)) (fun _ i _ => n - (intOf i).toNat)
  case atStart => exact ⟨0, Nat.zero_le _, rfl, rfl, ⟨0, rfl⟩⟩
  case round =>
    obtain ⟨k, hk, rfl, rfl, ⟨nq, rfl⟩⟩ := hrel
    by_cases hlt : k < n
    · obtain ⟨b, off, _, p, hx, hp, hc⟩ := Reads.rec rgCells (fun _ => rfl) H.out (by omega) hlt
      have hc1 := hc 0 (.int .u8 p.1) rfl
      have hc2 := hc 1 (.int .u8 p.2) rfl
      simp only [Nat.add_zero] at hc1
      cases hx
      obtain ⟨p1, p2, p3⟩ := HD.out p (List.mem_of_getElem? hp)
      obtain ⟨m1, m2⟩ := HB.out k
      have m3 : many (ls.take k) ≤ 16777216 := by
        have : (256 : Int) ^ k ≤ 256 ^ 3 := by
          rcases (show k = 0 ∨ k = 1 ∨ k = 2 ∨ k = 3 by omega) with rfl | rfl | rfl | rfl <;> decide
        have e : (256 : Int) ^ 3 = 16777216 := by decide
        omega
      have HS : Hid (many (ls.take (k + 1)) = many (ls.take k) * (p.2 - p.1 + 1)) := Lib.hid (by rw [take_snoc' _ _ _ hp, many_snoc])
      have s1 : 0 ≤ many (ls.take k) * (p.2 - p.1 + 1) := Int.mul_nonneg (by omega) (by omega)
      have s2 : many (ls.take k) * (p.2 - p.1 + 1) ≤ 16777216 * 256 := Int.mul_le_mul m3 (by omega) (by omega) (by omega)
      have c1b : ¬ p.2 < p.1 := by omega
      clear hc hp m2
      generalize many (ls.take k) = M at *
      have q1 : IntKind.i64.wrap (p.2 - p.1) = p.2 - p.1 := IntWalk.i64_in _ (by omega)
      have q2 : IntKind.i64.wrap (p.2 - p.1 + 1) = p.2 - p.1 + 1 := IntWalk.i64_in _ (by omega)
      have q3 : IntKind.i64.wrap (M * (p.2 - p.1 + 1)) = M * (p.2 - p.1 + 1) := IntWalk.i64_in _ (by omega)
      go_wp2_with fail
      go_quiet (fail)
      go_wp2
      go_quiet (fail)
      clear q1 q2 q3
      go_wp2
      go_roundw
      case rel => exact ⟨k + 1, by omega, by go_num, by rw [HS.out], ⟨_, rfl⟩⟩
      case measure => simp [intOf]; omega
    · have hkn : n ≤ k := by omega
      have hmm : Hid (many (ls.take k) = many ls) := Lib.hid (by rw [List.take_of_length_le (by rw [HL.out]; omega)])
      go_wp2_with fail
      go_ret
      exact ⟨by rw [← hmm.out]; rfl, _, rfl⟩
theorem between_any (f t : Int) (w : World) (hf : 0 ≤ f) (hf2 : f ≤ 1114111) (ht : 0 ≤ t) (ht2 : t ≤ 1114111) :
    Calls Tryd.prog 22 #[.int .i64 f, .int .i64 t] w fun e w' => e = .returned (.int .i64 (btw f t)) ∧ w = w' := by
  by_cases h1 : f > t
  · have HB : Hid (btw f t = 0) := Lib.hid (by unfold btw; rw [if_pos h1])
    go_enter Tryd.func22, Tryd.ntmps22
    go_wp2_with fail
    go_ret
    exact ⟨by rw [HB.out]; rfl, rfl⟩
  · have h1' : f ≤ t := by omega
    clear h1
    by_cases h2 : max f 55296 ≤ min t 57343
    · have HB : Hid (btw f t = t - f + 1 - (min t 57343 - max f 55296 + 1)) := Lib.hid (by unfold btw; rw [if_neg (by omega), if_pos h2])
      have h3 : 55296 ≤ max f 55296 ∧ max f 55296 ≤ 1114111 := by omega
      have h4 : 0 ≤ min t 57343 ∧ min t 57343 ≤ 57343 := by omega
      have h5 : 0 ≤ t - f + 1 - (min t 57343 - max f 55296 + 1) := by omega
      go_enter Tryd.func22, Tryd.ntmps22
      go_wp2_with fail
      go_ret
      exact ⟨by rw [HB.out]; rfl, rfl⟩
    · have HB : Hid (btw f t = t - f + 1) := Lib.hid (by unfold btw; rw [if_neg (by omega), if_neg h2]; omega)
      have h3 : 55296 ≤ max f 55296 ∧ max f 55296 ≤ 1114111 := by omega
      have h4 : 0 ≤ min t 57343 ∧ min t 57343 ≤ 57343 := by omega
      go_enter Tryd.func22, Tryd.ntmps22
      go_wp2_with fail
      go_ret
      exact ⟨by rw [HB.out]; rfl, rfl⟩
theorem Tryd.info5 : (Tryd.prog.info? 5).map (fun i => (i.zero, i.size, i.bytes)) = some (some (.int .u8 0), 1, 1) := by kernel_rfl
def pick (which : Nat) (p : Int × Int) : Int := if which = 0 then p.1 else p.2
/-- The text of the ends. -/
def endsStr (which : Nat) (ls : List (Int × Int)) : ByteArray := ⟨((ls.map (pick which)).map fun z => UInt8.ofNat z.toNat).toArray⟩
theorem endsStr_nums (which : Nat) (ls : List (Int × Int)) (hd : ∀ p ∈ ls, p.1 ≤ p.2 ∧ 0 ≤ p.1 ∧ p.2 ≤ 255) : (endsStr which ls).data.toList.map (fun c => (c.toNat : Int)) = ls.map (pick which) := by
  unfold endsStr
  simp only [List.map_map]
  refine List.map_congr_left fun p hp => ?_
  obtain ⟨p1, p2, p3⟩ := hd p hp
  have : 0 ≤ pick which p ∧ pick which p ≤ 255 := by unfold pick; split <;> omega
  simp only [Function.comp]
  rw [UInt8.toNat_ofNat_of_lt' (by simp [UInt8.size]; omega)]
  omega
theorem endsStr_size (which : Nat) (ls : List (Int × Int)) : (endsStr which ls).size = ls.length := by
  show ((ls.map (pick which)).map fun z => UInt8.ofNat z.toNat).toArray.size = _
  simp
theorem ends_any (v : Value) (n which : Nat) (ls : List (Int × Int)) (w : World) (hw : which = 0 ∨ which = 1) (h0 : 0 < n) (hn : n ≤ 4) (hd : ∀ p ∈ ls, p.1 ≤ p.2 ∧ 0 ≤ p.1 ∧ p.2 ≤ 255) (h : Reads w v n 2 (ls.flatMap rgCells)) :
    Calls Tryd.prog 24 #[v, .int .i64 which] w fun e w' => e = .returned (.string (endsStr which ls)) ∧ Below w.heap.size w w' := by
  have hl := Reads.recs rgCells (fun _ => rfl) h (by omega)
  obtain ⟨ao, cap, rfl⟩ := h.form
  have HL := Lib.hid hl
  have HD := Lib.hid hd
  have H := Lib.hid h
  clear hl hd h
  go_enter Tryd.func24, Tryd.ntmps24
  go_wp2_with fail
  go_loopw [5, 6] (fun bv ix wr => ∃ k : Nat, ix = .int .i64 k ∧ k ≤ n ∧ Hid (wr.ownsRow w.heap.size 5 1 bv k (((ls.take k).map (pick which)).map bV)) ∧ Below w.heap.size w wr) (fun _ ix _ => n - (intOf ix).toNat)
  case atStart => exact ⟨0, rfl, Nat.zero_le _, Lib.hid (World.ownsRow_nil _ _ _ _), Below.refl _ _⟩
  case round =>
    obtain ⟨k, rfl, hk, HO, hb⟩ := hrel
    by_cases hlt : k < n
    · obtain ⟨b, off, _, q, hx, hq, hc⟩ := Reads.rec rgCells (fun _ => rfl) (H.out.below hb) (by omega) hlt
      cases hx
      have c0 : wr.cell? ⟨b, off + k * 2 + which, none⟩ = some (.int .u8 (pick which q)) := by
        rcases hw with rfl | rfl
        · exact hc 0 _ rfl
        · exact hc 1 _ rfl
      have HQ := Lib.hid hq
      have hbs : w.heap.size ≤ wr.heap.size := hb.size
      clear hq hc
      have hw2 : which < 2 := by omega
      have HY := Lib.hid (rfl : pick which q = pick which q)
      generalize hyy : pick which q = y at c0
      have HY2 := Lib.hid hyy
      clear hyy HY
      go_wp2_with (at_builtin; refine wpList_append_one rfl (.tmp 13) (.tmp 20) 24 rfl w.heap.size 5 _ 1 1 Tryd.underlying24 Tryd.info5 rfl (by decide) (by decide) _ _ _ rfl HO.out #[.int .u8 y] _ _ rfl (by simp) rfl (by simp [Value.oneCell']) (by omega) hbs ?_; intro ao9 cap9 w9 hown9 hgr9 hat9; have hb9 := below_own hb HO.out _ hgr9 hbs; have HO9 := Lib.hid hown9; clear hown9 hgr9 hat9)
      go_roundw
      case rel => exact ⟨k + 1, by go_num, by omega, Lib.hid (by rw [take_snoc' _ _ _ HQ.out, List.map_append, List.map_append]; have := HO9.out; rw [← HY2.out] at this; exact this), hb9⟩
      case measure => simp [intOf]; omega
    · obtain rfl : n = k := by omega
      have hlen : (((ls.take n).map (pick which)).map bV).length = n := by rw [HO.out.1]; omega
      obtain ⟨g, cap2, hv, hnc, hcm, hgb, hcell⟩ := ownsRow_at HO.out (by omega)
      have hnum : ((ls.map (pick which)).map fun z => UInt8.ofNat z.toNat).map (fun c => (c.toNat : Int)) = ls.map (pick which) := by simpa [endsStr] using endsStr_nums which ls HD.out
      have HE := Lib.hid (show endsStr which ls = ⟨((ls.map (pick which)).map fun z => UInt8.ofNat z.toNat).toArray⟩ from rfl)
      have htk : ls.take n = ls := List.take_of_length_le (by rw [HL.out]; exact Nat.le_refl _)
      have hll : ((ls.map (pick which)).map fun z => UInt8.ofNat z.toNat).length = n := by simpa using HL.out
      have hcv := run_convert_bytes_back (P := Tryd.prog) wr 24 9 5 ⟨g, 0, none⟩ cap2 ((ls.map (pick which)).map fun z => UInt8.ofNat z.toNat) Tryd.underlying24 Tryd.underlying5 Tryd.underlying9 (fun j hj => by
        have hj2 : j < (ls.map (pick which)).length := by simpa using hj
        rw [addr_add, Nat.zero_add]
        have h1 := (hcell j (.int .u8 ((ls.map (pick which))[j])) (by rw [htk]; simp [bV, List.getElem?_eq_getElem (show j < ls.length by simpa using hj2)])).1
        have h2 : (((ls.map (pick which)).map fun z => UInt8.ofNat z.toNat)[j].toNat : Int) = (ls.map (pick which))[j] := by
          have := congrArg (fun l => l[j]?) hnum
          simp only [List.getElem?_map, List.getElem?_eq_getElem hj2, Option.map_some, Option.some.injEq] at this
          simpa using this
        rw [h2]
        exact h1)
      rw [hll] at hcv
      subst hv
      clear hnum hll htk hlen hcell
      generalize ((ls.map (pick which)).map fun z => UInt8.ofNat z.toNat) = bs at *
      go_wp2_with fail
      go_ret
      exact ⟨by rw [HE.out]; rfl, hb⟩
end Go.Proofs.YtanimdajohpggaaDoor.Seq
