/- The automaton of instructions as an automaton: Regexp's methods at what the builder has made. -/
import Derived.Test.YtnpchkohfomagaaDoorRgBld
import Derived.Test.YtnpchkohfomagaaDoorRgPa
import Derived.Test.YtnpchkohfomagaaDoorPath
namespace Go.Proofs.YtnpchkohfomagaaDoor.Rgw
open Go.ChangeShapes Go.WideShapes Go.ChangeAt Go.RowKit Go.Trav Go.Rg Go.Maps Go.Proofs.YtnpchkohfomagaaDoor.Sparse Path
set_option linter.unusedVariables false
set_option maxRecDepth 100000
/-- What is left of the builder, for the automaton: its states and their rows. -/
structure DF (w : World) (D : Nat) (l : List In) (Ks nx : List (List Nat)) : Prop where
  few : Ks.length ≤ 100000
  at_ : ∃ (pv : Value) (sb cap : Nat), w.cell? ⟨D, 1, none⟩ = some (.slice (some ⟨sb, 0, none⟩) ((Ks.length + 1 : Nat)) cap) ∧
    ∀ n : Nat, n < Ks.length + 1 → w.cell? ⟨sb, n * 3 + 2, none⟩ = some (.bool (matT l Ks n)) ∧ ∃ nb : Nat, w.cell? ⟨sb, n * 3 + 1, none⟩ = some (.slice (some ⟨nb, 0, none⟩) 256 256) ∧ ∀ c : Nat, c < 256 → w.cell? ⟨nb, c, none⟩ = some (.int .i64 (accT Ks nx n c : Int))
theorem BI.df {w : World} {base U D M : Nat} {pv sv kv : Value} {sts : List SV} {l : List In} {Ks nx : List (List Nat)} (h : BI w base U D M pv sv kv sts l Ks nx) (hf : Ks.length ≤ 100000) : DF w D l Ks nx := by
  have hl := h.hl
  obtain ⟨sb, cap, rfl, hsb, hst⟩ := st_cells h.hs rfl (by omega)
  refine ⟨hf, pv, sb, cap, ?_, fun n hn => ?_⟩
  · have := block_cell (i := 1) h.hD rfl
    rw [this, hl]; rfl
  · rcases n with _ | n
    · obtain ⟨nb, h1, h2⟩ := h.h0
      obtain ⟨_, g1, g2⟩ := hst 0 _ h1
      refine ⟨by rw [g2]; simp [matT], nb, g1, fun c hc => ?_⟩
      rw [block_cell h2 (u := iN 0) (row_get (by rw [List.getElem?_replicate, if_pos hc]))]
      have : accT Ks nx 0 c = 0 := by unfold accT; simp
      rw [this]; rfl
    · have hnk : n < Ks.length := by omega
      obtain ⟨K, hK⟩ : ∃ K, Ks[n]? = some K := ⟨_, List.getElem?_eq_getElem hnk⟩
      obtain ⟨r, hr⟩ : ∃ r, nx[n]? = some r := ⟨_, List.getElem?_eq_getElem (by rw [h.hx]; exact hnk)⟩
      obtain ⟨s, h1, h2, _⟩ := h.hi n K hK
      obtain ⟨h256, s', h1', h3⟩ := h.hn n r hr
      rw [h1] at h1'; cases h1'
      obtain ⟨_, g1, g2⟩ := hst (n + 1) s h1
      refine ⟨?_, s.nb, g1, fun c hc => ?_⟩
      · rw [g2, h2]
        simp [matT, hn, hK]
      · obtain ⟨x, hx⟩ : ∃ x, r[c]? = some x := ⟨_, List.getElem?_eq_getElem (show c < r.length by omega)⟩
        rw [block_cell h3 (u := iN x) (row_get hx)]
        have : accT Ks nx (n + 1) c = x := by
          unfold accT
          rw [if_pos hn, if_neg (by omega), Nat.add_sub_cancel, hr]
          show r[c]?.getD 0 = x
          rw [hx]; rfl
        rw [this]; rfl
theorem DF.below {w w' : World} {D : Nat} {l : List In} {Ks nx : List (List Nat)} (h : DF w D l Ks nx) (hb : Below w.heap.size w w') : DF w' D l Ks nx := by
  have hm : ∀ {a : Addr} {v : Value}, w.cell? a = some v → w'.cell? a = some v := fun ha => (Mod.of_below (F := fun _ => False) hb).cell ha (fun x => x)
  obtain ⟨hf, pv, sb, cap, h1, h2⟩ := h
  refine ⟨hf, pv, sb, cap, hm h1, fun n hn => ?_⟩
  obtain ⟨g1, nb, g2, g3⟩ := h2 n hn
  exact ⟨hm g1, nb, hm g2, fun c hc => hm (g3 c hc)⟩
theorem accT_lt {Ks nx : List (List Nat)} (h : ∀ r ∈ nx, ∀ n ∈ r, n ≤ Ks.length) (n c : Nat) : accT Ks nx n c ≤ Ks.length := by
  unfold accT
  split
  · split
    · omega
    · cases e : nx[n - 1]? with
      | none => simp
      | some r =>
        simp only [Option.getD_some]
        cases e2 : r[c]? with
        | none => simp
        | some m => exact h r (List.mem_of_getElem? e) m (List.mem_of_getElem? e2)
  · omega
theorem start_any (a : Addr) (w : World) : Calls Tryd.prog 54 #[.pointer (some a)] w fun e w' => e = .returned (.int .i64 1) ∧ Below w.heap.size w w' := by
  go_enter Tryd.func54, Tryd.ntmps54
  go_wp2
  go_ret
  exact ⟨rfl, Below.refl _ _⟩
theorem will_any (a : Addr) (x : Int) (w : World) : Calls Tryd.prog 119 #[.pointer (some a), .int .i64 x] w fun e w' => e = .returned (.bool false) ∧ Below w.heap.size w w' := by
  go_enter Tryd.func119, Tryd.ntmps119
  go_wp2
  go_ret
  exact ⟨rfl, Below.refl _ _⟩
theorem is_any (X D n : Nat) (l : List In) (Ks nx : List (List Nat)) (w : World) (hX : w.cell? ⟨X, 1, none⟩ = some (.pointer (some ⟨D, 0, none⟩))) (h : DF w D l Ks nx) (hn : n ≤ 100000) :
    Calls Tryd.prog 57 #[.pointer (some ⟨X, 0, none⟩), .int .i64 n] w fun e w' => e = .returned (.bool (matT l Ks n)) ∧ Below w.heap.size w w' := by
  have hf := h.few
  obtain ⟨pv, sb, cap, h1, h2⟩ := h.at_
  by_cases hlt : n < Ks.length + 1
  · obtain ⟨g1, _⟩ := h2 n hlt
    clear h2 h
    generalize matT l Ks n = b at *
    go_enter Tryd.func57, Tryd.ntmps57
    go_wp2_with fail
    go_ret
    exact ⟨rfl, Below.refl _ _⟩
  · have hf : matT l Ks n = false := by simp [matT, hlt]
    rw [hf]
    clear h2 h hf
    go_enter Tryd.func57, Tryd.ntmps57
    go_wp2_with fail
    go_ret
    exact ⟨rfl, Below.refl _ _⟩
theorem can_any (X D n : Nat) (l : List In) (Ks nx : List (List Nat)) (w : World) (hX : w.cell? ⟨X, 1, none⟩ = some (.pointer (some ⟨D, 0, none⟩))) (h : DF w D l Ks nx) (hn : n ≤ 100000) :
    Calls Tryd.prog 55 #[.pointer (some ⟨X, 0, none⟩), .int .i64 n] w fun e w' => e = .returned (.bool (canT Ks n)) ∧ Below w.heap.size w w' := by
  have hf := h.few
  obtain ⟨pv, sb, cap, h1, h2⟩ := h.at_
  clear h2 h
  by_cases hlt : n < Ks.length + 1
  · by_cases h0 : 0 < n
    · have hc : canT Ks n = true := by simp [canT, hlt, h0]
      rw [hc]
      go_enter Tryd.func55, Tryd.ntmps55
      go_wp2_with fail
      go_ret
      exact ⟨rfl, Below.refl _ _⟩
    · have hc : canT Ks n = false := by simp [canT, h0]
      rw [hc]
      go_enter Tryd.func55, Tryd.ntmps55
      go_wp2_with fail
      go_ret
      exact ⟨rfl, Below.refl _ _⟩
  · have hc : canT Ks n = false := by simp [canT, hlt]
    rw [hc]
    go_enter Tryd.func55, Tryd.ntmps55
    go_wp2_with fail
    go_ret
    exact ⟨rfl, Below.refl _ _⟩
theorem acc_any (X D n c : Nat) (l : List In) (Ks nx : List (List Nat)) (w : World) (hX : w.cell? ⟨X, 1, none⟩ = some (.pointer (some ⟨D, 0, none⟩))) (h : DF w D l Ks nx) (hn : n ≤ 100000) (hc : c < 256) :
    Calls Tryd.prog 56 #[.pointer (some ⟨X, 0, none⟩), .int .i64 n, .int .u8 c] w fun e w' => e = .returned (.int .i64 (accT Ks nx n c : Int)) ∧ Below w.heap.size w w' := by
  have hf := h.few
  obtain ⟨pv, sb, cap, h1, h2⟩ := h.at_
  by_cases hlt : n < Ks.length + 1
  · obtain ⟨_, nb, g1, g2⟩ := h2 n hlt
    have g3 := g2 c hc
    clear h2 h g2
    generalize accT Ks nx n c = b at *
    go_enter Tryd.func56, Tryd.ntmps56
    go_wp2_with fail
    go_ret
    exact ⟨rfl, Below.refl _ _⟩
  · have hf : accT Ks nx n c = 0 := by simp [accT, hlt]
    rw [hf]
    clear h2 h hf
    go_enter Tryd.func56, Tryd.ntmps56
    go_wp2_with fail
    go_ret
    exact ⟨rfl, Below.refl _ _⟩
def reAut (X D : Nat) (l : List In) (Ks nx : List (List Nat)) (w0 : World) (hX : w0.cell? ⟨X, 1, none⟩ = some (.pointer (some ⟨D, 0, none⟩))) (h : DF w0 D l Ks nx) (hK : ∀ r ∈ nx, ∀ n ∈ r, n ≤ Ks.length) :
    Aut 82 (.pointer (some ⟨X, 0, none⟩)) (.pointer (some ⟨X, 0, none⟩)) (fun s => ∃ n : Nat, s = n ∧ n ≤ 100000) 1 (fun s => matT l Ks s.toNat) (fun s => canT Ks s.toNat) (fun _ => false) (fun s b => (accT Ks nx s.toNat b.toNat : Int)) w0 where
  fS := 54
  fI := 57
  fC := 55
  fW := 119
  fA := 56
  mS := fun w => by kernel_rfl
  mI := fun w => by kernel_rfl
  mC := fun w => by kernel_rfl
  mW := fun w => by kernel_rfl
  mA := fun w => by kernel_rfl
  nA := fun w => by kernel_rfl
  eS := Tryd.call54
  eI := Tryd.call57
  eC := Tryd.call55
  eW := Tryd.call119
  eA := Tryd.call56
  cS := fun w _ => start_any _ w
  cI := fun w s hb ho => by
    obtain ⟨n, rfl, hn⟩ := ho
    exact is_any X D n l Ks nx w ((Mod.of_below (F := fun _ => False) hb).cell hX (fun x => x)) (h.below hb) hn
  cC := fun w s hb ho => by
    obtain ⟨n, rfl, hn⟩ := ho
    exact can_any X D n l Ks nx w ((Mod.of_below (F := fun _ => False) hb).cell hX (fun x => x)) (h.below hb) hn
  cW := fun w s _ _ => will_any _ s w
  cA := fun w s b hb ho h1 h2 => by
    obtain ⟨n, rfl, hn⟩ := ho
    obtain ⟨c, rfl⟩ : ∃ c : Nat, b = c := ⟨b.toNat, by omega⟩
    exact acc_any X D n c l Ks nx w ((Mod.of_below (F := fun _ => False) hb).cell hX (fun x => x)) (h.below hb) hn (by omega)
  ok0 := ⟨1, rfl, by omega⟩
  okA := fun s b ho h1 h2 => by
    obtain ⟨n, rfl, hn⟩ := ho
    exact ⟨_, rfl, Nat.le_trans (accT_lt hK _ _) h.few⟩
end Go.Proofs.YtnpchkohfomagaaDoor.Rgw
