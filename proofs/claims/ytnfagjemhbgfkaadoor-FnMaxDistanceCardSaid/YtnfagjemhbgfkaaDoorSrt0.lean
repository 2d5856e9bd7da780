/- sort.Sort over records of any number of cells, as far as that: it ends, and the row holds what swaps make of it. The methods by contracts. -/
import Derived.Test.YtnfagjemhbgfkaaDoorRows
import Derived.Test.YtnfagjemhbgfkaaDoorLib
import Derived.Test.YtnfagjemhbgfkaaDoorLib2
import Derived.Deep.QuietTactic
import Derived.BigQuiet
import Derived.WalkLawsBesides
import Derived.WalkSpells
import Derived.Deep.RegionWith
import Derived.Lib.QuietBelow
import Derived.StillTailTactics
namespace Go.Proofs.YtnfagjemhbgfkaaDoor.Srt
open Go.ChangeShapes Go.WideShapes Go.ChangeAt Go.RowKit Go.Trav
set_option linter.unusedVariables false
set_option linter.unusedSimpArgs false
set_option maxRecDepth 100000
/-- The row's block holds something that is allowed. -/
def Row (B : Nat) (R : Array Value → Prop) (T : TypeId) (w : World) : Prop := ∃ c, R c ∧ w.heap[B]? = some (.cells c T (0, 0))
/-- A world behind some steps: the row is allowed, nothing else of what was there is another. -/
structure St (B : Nat) (R : Array Value → Prop) (T : TypeId) (w w' : World) : Prop where
  row : Row B R T w'
  mod : Mod (fun k => k = B) w w'
variable {B : Nat} {R : Array Value → Prop} {T : TypeId}
theorem Row.lt {w : World} (h : Row B R T w) : B < w.heap.size := by
  obtain ⟨c, _, h⟩ := h
  exact block_lt h
theorem St.refl {w : World} (h : Row B R T w) : St B R T w w := ⟨h, Mod.refl _ w⟩
theorem St.trans {w w1 w2 : World} (h : St B R T w w1) (k : St B R T w1 w2) : St B R T w w2 := ⟨k.row, h.mod.trans k.mod⟩
theorem Row.alloc {w : World} (h : Row B R T w) (o : Obj) : Row B R T (w.alloc o) := by
  obtain ⟨c, h1, h2⟩ := h
  exact ⟨c, h1, block_alloc h2⟩
theorem Row.drewN {w : World} (h : Row B R T w) (n : Nat) : Row B R T (w.drewN n) := h
theorem Row.below {w w' : World} (h : Row B R T w) (hb : Below w.heap.size w w') : Row B R T w' := by
  obtain ⟨c, h1, h2⟩ := h
  exact ⟨c, h1, (hb.block B (block_lt h2)).trans h2⟩
theorem Row.set {w : World} (h : Row B R T w) {p : Addr} (hp : p.block ≠ B) (v : Value) : Row B R T (w.setCell p v) := by
  have hm : Mod (fun k => k = p.block) w (w.setCell p v) := (Mod.refl (fun k => k = p.block) w).setCell (p := p) (fun _ => rfl) v
  obtain ⟨c, h1, h2⟩ := h
  exact ⟨c, h1, hm.heap h2 fun e => hp e.symm⟩
theorem St.below {w w1 w2 : World} (h : St B R T w w1) (hb : Below w1.heap.size w1 w2) : St B R T w w2 := ⟨h.row.below hb, h.mod.trans (Mod.of_below hb)⟩
/-- What is asked of the methods. -/
structure Meth (U : TypeId) (rv : Value) (n B : Nat) (R : Array Value → Prop) (T : TypeId) where
  gl : FuncId
  gs : FuncId
  fL : ∀ w, (method 250 U rv "Less").run Tryd.prog w = .ok (gl, rv) w
  fS : ∀ w, (method 250 U rv "Swap").run Tryd.prog w = .ok (gs, rv) w
  eL : ∀ args w, (callFunc gl args).run Tryd.prog w = .ok (.enter gl args) w
  eS : ∀ args w, (callFunc gs args).run Tryd.prog w = .ok (.enter gs args) w
  cL : ∀ (w : World) (i j : Int), Row B R T w → 0 ≤ i → i < n → 0 ≤ j → j < n → Calls Tryd.prog gl #[rv, .int .i64 i, .int .i64 j] w fun e w' => (∃ b, e = .returned (.bool b)) ∧ Below w.heap.size w w'
  cS : ∀ (w : World) (i j : Int), Row B R T w → 0 ≤ i → i < n → 0 ≤ j → j < n → Calls Tryd.prog gs #[rv, .int .i64 i, .int .i64 j] w fun e w' => e = .returned (.tuple #[]) ∧ St B R T w w'
variable {U : TypeId} {rv : Value} {n : Nat}
set_option maxHeartbeats 2000000 in
theorem ins_any (X : Meth U rv n B R T) (hn : n ≤ 1000000) (a b : Nat) (w : World) (hr : Row B R T w) (hab : a ≤ b) (hb : b ≤ n) :
    Calls Tryd.prog 37 #[.iface U rv, .int .i64 a, .int .i64 b] w fun e w' => e = .returned (.tuple #[]) ∧ St B R T w w' := by
  have mL := X.fL
  have mS := X.fS
  have eL := X.eL
  have eS := X.eS
  have HR := Lib.hid (St.refl hr)
  clear hr
  go_enter Tryd.func37, Tryd.ntmps37
  go_wp2_with fail
  go_loopw [6] (fun iv wr => ∃ i : Nat, iv = .int .i64 i ∧ a < i ∧ i ≤ b + 1 ∧ Hid (St B R T w wr)) (fun iv _ => b + 1 - (intOf iv).toNat)
  case atStart => exact ⟨a + 1, by go_num, by omega, by omega, HR⟩
  case round =>
    obtain ⟨i, rfl, h1, h2, HW⟩ := hrel
    by_cases hib : i < b
    · go_wp2_with fail
      go_loopw [7] (fun jv wr => ∃ j : Nat, jv = .int .i64 j ∧ a ≤ j ∧ j ≤ i ∧ Hid (St B R T w wr)) (fun jv _ => (intOf jv).toNat)
      case atStart => exact ⟨i, rfl, by omega, Nat.le_refl _, HW⟩
      case round =>
        obtain ⟨j, rfl, h3, h4, HW2⟩ := hrel
        by_cases hja : a < j
        · go_wp2_with fail
          refine (X.cL _ _ _ HW2.out.row (by omega) (by omega) (by omega) (by omega)).mono ?_
          rintro e w2 ⟨⟨q, rfl⟩, hs2⟩
          have HS2 := Lib.hid (HW2.out.below hs2)
          clear hs2
          cases q with
          | true =>
            go_wp2_with fail
            refine (X.cS _ _ _ HS2.out.row (by omega) (by omega) (by omega) (by omega)).mono ?_
            rintro e w3 ⟨rfl, hs3⟩
            have HS3 := Lib.hid (HS2.out.trans hs3)
            clear hs3
            go_wp2_with fail
            go_roundw
            case rel => exact ⟨j - 1, by go_num, by omega, by omega, HS3⟩
            case measure => simp [intOf] <;> omega
          | false =>
            go_wp2_with fail
            go_roundw
            case rel => exact ⟨i + 1, by go_num, by omega, by omega, HS2⟩
            case measure => simp [intOf] <;> omega
        · go_wp2_with fail
          go_roundw
          case rel => exact ⟨i + 1, by go_num, by omega, by omega, HW2⟩
          case measure => simp [intOf] <;> omega
    · go_wp2_with fail
      go_end0
      exact ⟨rfl, HW.out⟩
set_option maxHeartbeats 2000000 in
theorem sift_any (X : Meth U rv n B R T) (hn : n ≤ 1000000) (lo hi first : Nat) (w : World) (hr : Row B R T w) (hb : first + hi ≤ n) (hlo : lo ≤ n) :
    Calls Tryd.prog 47 #[.iface U rv, .int .i64 lo, .int .i64 hi, .int .i64 first] w fun e w' => e = .returned (.tuple #[]) ∧ St B R T w w' := by
  have mL := X.fL
  have mS := X.fS
  have eL := X.eL
  have eS := X.eS
  have HR := Lib.hid (St.refl hr)
  clear hr
  go_enter Tryd.func47, Tryd.ntmps47
  go_wp2_with fail
  go_loopw [8] (fun rt wr => ∃ root : Nat, rt = .int .i64 root ∧ root ≤ n ∧ Hid (St B R T w wr)) (fun rt _ => n + 1 - (intOf rt).toNat)
  case atStart => exact ⟨lo, rfl, hlo, HR⟩
  case round =>
    obtain ⟨root, rfl, h2, HW⟩ := hrel
    by_cases h0 : 2 * root + 1 < hi
    · have h0z : 2 * (root : Int) + 1 < (hi : Int) := by omega
      by_cases h1 : 2 * root + 2 < hi
      · have h1z : 2 * (root : Int) + 1 + 1 < (hi : Int) := by omega
        go_wp2_with fail
        refine (X.cL _ _ _ HW.out.row (by omega) (by omega) (by omega) (by omega)).mono ?_
        rintro e w2 ⟨⟨q, rfl⟩, hs2⟩
        have HS2 := Lib.hid (HW.out.below hs2)
        clear hs2
        cases q
        all_goals
          go_wp2_with fail
          refine (X.cL _ _ _ HS2.out.row (by omega) (by omega) (by omega) (by omega)).mono ?_
          rintro e w3 ⟨⟨q3, rfl⟩, hs3⟩
          have HS3 := Lib.hid (HS2.out.below hs3)
          clear hs3
          cases q3
          · go_wp2_with fail
            (try simp only [Exit.inBlock, Exit.then])
            refine bodyPost_ret (results_none rfl _ _ _) rfl ?_
            exact ⟨rfl, HS3.out⟩
          · go_wp2_with fail
            refine (X.cS _ _ _ HS3.out.row (by omega) (by omega) (by omega) (by omega)).mono ?_
            rintro e w4 ⟨rfl, hs4⟩
            have HS4 := Lib.hid (HS3.out.trans hs4)
            clear hs4
            go_wp2_with fail
            go_roundw
            case rel => first | exact ⟨2 * root + 1, by go_num, by omega, HS4⟩ | exact ⟨2 * root + 2, by go_num, by omega, HS4⟩
            case measure => simp [intOf] <;> omega
      · have h1z : ¬ 2 * (root : Int) + 1 + 1 < (hi : Int) := by omega
        go_wp2_with fail
        refine (X.cL _ _ _ HW.out.row (by omega) (by omega) (by omega) (by omega)).mono ?_
        rintro e w3 ⟨⟨q3, rfl⟩, hs3⟩
        have HS3 := Lib.hid (HW.out.below hs3)
        clear hs3
        cases q3
        · go_wp2_with fail
          (try simp only [Exit.inBlock, Exit.then])
          refine bodyPost_ret (results_none rfl _ _ _) rfl ?_
          exact ⟨rfl, HS3.out⟩
        · go_wp2_with fail
          refine (X.cS _ _ _ HS3.out.row (by omega) (by omega) (by omega) (by omega)).mono ?_
          rintro e w4 ⟨rfl, hs4⟩
          have HS4 := Lib.hid (HS3.out.trans hs4)
          clear hs4
          go_wp2_with fail
          go_roundw
          case rel => exact ⟨2 * root + 1, by go_num, by omega, HS4⟩
          case measure => simp [intOf] <;> omega
    · have h0z : ¬ 2 * (root : Int) + 1 < (hi : Int) := by omega
      go_wp2_with fail
      go_end0
      exact ⟨rfl, HW.out⟩
set_option maxHeartbeats 2000000 in
theorem heap_any (X : Meth U rv n B R T) (hn : n ≤ 1000000) (a b : Nat) (w : World) (hr : Row B R T w) (hab : a < b) (hb : b ≤ n) :
    Calls Tryd.prog 38 #[.iface U rv, .int .i64 a, .int .i64 b] w fun e w' => e = .returned (.tuple #[]) ∧ St B R T w w' := by
  have mS := X.fS
  have eS := X.eS
  have HR := Lib.hid (St.refl hr)
  have ecast : ((b - a : Nat) : Int) = (b : Int) - (a : Int) := by omega
  clear hr
  go_enter Tryd.func38, Tryd.ntmps38
  go_wp2_with fail
  go_loopw [9] (fun iv wr => ∃ k : Nat, iv = .int .i64 ((k : Int) - 1) ∧ k ≤ b - a ∧ Hid (St B R T w wr)) (fun iv _ => (intOf iv + 1).toNat)
  case atStart => exact ⟨(b - a - 1) / 2 + 1, by congr 1; omega, by omega, HR⟩
  case round =>
    obtain ⟨k, rfl, h1, HW⟩ := hrel
    cases k with
    | zero =>
      rw [show (((0 : Nat) : Int) - 1) = -1 from rfl]
      go_wp2_with fail
      go_loopw [10] (fun iv wr => ∃ k : Nat, iv = .int .i64 ((k : Int) - 1) ∧ k ≤ b - a ∧ Hid (St B R T w wr)) (fun iv _ => (intOf iv + 1).toNat)
      case atStart => exact ⟨b - a, by rw [ecast], Nat.le_refl _, HW⟩
      case round =>
        obtain ⟨k, rfl, h2, HW2⟩ := hrel
        cases k with
        | zero =>
          go_wp2_with fail
          go_end0
          exact ⟨rfl, HW2.out⟩
        | succ k =>
          go_wp2_with fail
          refine (X.cS _ _ _ HW2.out.row (by omega) (by omega) (by omega) (by omega)).mono ?_
          rintro e w2 ⟨rfl, hs2⟩
          have HS2 := Lib.hid (HW2.out.trans hs2)
          have HC := Lib.hid (sift_any X hn 0 k a w2 HS2.out.row (by omega) (by omega))
          clear hs2
          go_wp2_with fail
          refine HC.out.mono ?_
          rintro e w3 ⟨rfl, hs3⟩
          have HS3 := Lib.hid (HS2.out.trans hs3)
          clear hs3
          go_wp2_with fail
          go_roundw
          case rel => exact ⟨k, by go_num, by omega, HS3⟩
          case measure => simp [intOf] <;> omega
    | succ k =>
      have hc := sift_any X hn k (b - a) a wr HW.out.row (by omega) (by omega)
      rw [ecast] at hc
      have HC := Lib.hid hc
      clear hc
      go_wp2_with fail
      refine HC.out.mono ?_
      rintro e w3 ⟨rfl, hs3⟩
      have HS3 := Lib.hid (HW.out.trans hs3)
      clear hs3
      go_wp2_with fail
      go_roundw
      case rel => exact ⟨k, by go_num, by omega, HS3⟩
      case measure => simp [intOf] <;> omega
set_option maxHeartbeats 2000000 in
theorem rev_any (X : Meth U rv n B R T) (hn : n ≤ 1000000) (a b : Nat) (w : World) (hr : Row B R T w) (hab : a < b) (hb : b ≤ n) :
    Calls Tryd.prog 41 #[.iface U rv, .int .i64 a, .int .i64 b] w fun e w' => e = .returned (.tuple #[]) ∧ St B R T w w' := by
  have mS := X.fS
  have eS := X.eS
  have HR := Lib.hid (St.refl hr)
  clear hr
  go_enter Tryd.func41, Tryd.ntmps41
  go_wp2_with fail
  go_loopw [6, 7] (fun iv jv wr => ∃ i j : Nat, iv = .int .i64 i ∧ jv = .int .i64 ((j : Int) - 1) ∧ i ≤ b ∧ j ≤ b ∧ Hid (St B R T w wr)) (fun iv _ _ => b + 1 - (intOf iv).toNat)
  case atStart => exact ⟨a, b, rfl, rfl, by omega, Nat.le_refl _, HR⟩
  case round =>
    obtain ⟨i, j, rfl, rfl, h1, h2, HW⟩ := hrel
    by_cases hij : (i : Int) < (j : Int) - 1
    · go_wp2_with fail
      refine (X.cS _ _ _ HW.out.row (by omega) (by omega) (by omega) (by omega)).mono ?_
      rintro e w2 ⟨rfl, hs2⟩
      have HS2 := Lib.hid (HW.out.trans hs2)
      clear hs2
      go_wp2_with fail
      go_roundw
      case rel => exact ⟨i + 1, j - 1, by go_num, by congr 1; omega, by omega, by omega, HS2⟩
      case measure => simp [intOf] <;> omega
    · go_wp2_with fail
      go_end0
      exact ⟨rfl, HW.out⟩
end Go.Proofs.YtnfagjemhbgfkaaDoor.Srt
