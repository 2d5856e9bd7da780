/- NFAStates: Len, Less, Swap; sort.Sort of a row of places: the row holds the same places in some order. -/
import Derived.Test.YtnfagjemhbgfkaaDoorSrt3
import Derived.Test.YtnfagjemhbgfkaaDoorNorP
namespace Go.Proofs.YtnfagjemhbgfkaaDoor.Nfa
open Go.ChangeShapes Go.WideShapes Go.ChangeAt Go.RowKit Go.Trav Go.Nor Go.Proofs.YtnfagjemhbgfkaaDoor.Srt
set_option linter.unusedVariables false
set_option linter.unusedSimpArgs false
set_option maxRecDepth 100000
def pC (x : Plc) : List Value := [.int .u32 (x.o : Nat), .int .u8 (x.d : Nat), .bool x.t]
theorem pC_len (x : Plc) : (pC x).length = 3 := rfl
/-- A block's cells: the places of S in some order, then the rest. -/
def RowOf (S : List Plc) (rest : List Value) (c : Array Value) : Prop := ∃ S' : List Plc, S'.Perm S ∧ c = (S'.flatMap pC ++ rest).toArray
theorem row_at {w : World} {B : Nat} {T : TypeId} {S : List Plc} {rest : List Value} (h : w.heap[B]? = some (.cells (S.flatMap pC ++ rest).toArray T (0, 0))) {k : Nat} {x : Plc} (hk : S[k]? = some x) :
    (w.cell? ⟨B, k * 3, none⟩ = some (.int .u32 (x.o : Nat)) ∧ w.cell? ⟨B, k * 3 + 1, none⟩ = some (.int .u8 (x.d : Nat)) ∧ w.cell? ⟨B, k * 3 + 2, none⟩ = some (.bool x.t)) ∧
    w.frozen? ⟨B, k * 3, none⟩ = false ∧ w.frozen? ⟨B, k * 3 + 1, none⟩ = false ∧ w.frozen? ⟨B, k * 3 + 2, none⟩ = false := by
  have hl : (S.flatMap pC).length = S.length * 3 := flatMap_len pC 3 pC_len S
  have hk2 : k < S.length := (List.getElem?_eq_some_iff.1 hk).1
  have at' : ∀ j u, j < 3 → (pC x)[j]? = some u → w.cell? ⟨B, k * 3 + j, none⟩ = some u := fun j u hj hu => by
    refine block_cell h ?_
    rw [List.getElem?_toArray, List.getElem?_append_left (by omega), flatMap_at pC 3 pC_len S k j hj x hk]
    exact hu
  exact ⟨⟨at' 0 _ (by omega) rfl, at' 1 _ (by omega) rfl, at' 2 _ (by omega) rfl⟩, block_free h, block_free h, block_free h⟩
theorem pC_set (S : List Plc) (k : Nat) (x y : Plc) (hk : S[k]? = some y) (rest : List Value) :
    (((S.flatMap pC ++ rest).set (k * 3) (.int .u32 (x.o : Nat))).set (k * 3 + 1) (.int .u8 (x.d : Nat))).set (k * 3 + 2) (.bool x.t) = (S.set k x).flatMap pC ++ rest := by
  induction S generalizing k with
  | nil => simp at hk
  | cons z r ih =>
    cases k with
    | zero => simp [pC]
    | succ k =>
      have := ih k (by simpa using hk)
      have e : (k + 1) * 3 = k * 3 + 3 := by omega
      have e1 : (k + 1) * 3 + 1 = k * 3 + 1 + 3 := by omega
      have e2 : (k + 1) * 3 + 2 = k * 3 + 2 + 3 := by omega
      rw [e2, e1, e]
      show Value.int .u32 (z.o : Nat) :: Value.int .u8 (z.d : Nat) :: Value.bool z.t :: ((((r.flatMap pC ++ rest).set (k * 3) _).set (k * 3 + 1) _).set (k * 3 + 2) _) = _
      rw [this]
      rfl
theorem row_set {w : World} {B : Nat} {T : TypeId} {S : List Plc} {rest : List Value} (h : w.heap[B]? = some (.cells (S.flatMap pC ++ rest).toArray T (0, 0))) {k : Nat} {y : Plc} (hk : S[k]? = some y) (x : Plc) :
    (((w.setCell ⟨B, k * 3, none⟩ (.int .u32 (x.o : Nat))).setCell ⟨B, k * 3 + 1, none⟩ (.int .u8 (x.d : Nat))).setCell ⟨B, k * 3 + 2, none⟩ (.bool x.t)).heap[B]? = some (.cells ((S.set k x).flatMap pC ++ rest).toArray T (0, 0)) := by
  have := block_set (i := k * 3 + 2) (u := .bool x.t) (block_set (i := k * 3 + 1) (u := .int .u8 (x.d : Nat)) (block_set (i := k * 3) (u := .int .u32 (x.o : Nat)) h))
  rw [this]
  simp only [List.setIfInBounds_toArray]
  rw [pC_set S k x y hk rest]
theorem len_reached (p : Option Addr) (n c : Nat) : ∀ w, (method 250 75 (.slice p n c) "Len").run Tryd.prog w = .ok (72, .slice p n c) w := fun w => by kernel_rfl
theorem less_reached (p : Option Addr) (n c : Nat) : ∀ w, (method 250 75 (.slice p n c) "Less").run Tryd.prog w = .ok (73, .slice p n c) w := fun w => by kernel_rfl
theorem swap_reached (p : Option Addr) (n c : Nat) : ∀ w, (method 250 75 (.slice p n c) "Swap").run Tryd.prog w = .ok (74, .slice p n c) w := fun w => by kernel_rfl
theorem len_any (p : Option Addr) (n c : Nat) (w : World) : Calls Tryd.prog 72 #[.slice p n c] w fun e w' => e = .returned (.int .i64 n) ∧ Below w.heap.size w w' := by
  go_enter Tryd.func72, Tryd.ntmps72
  go_wp2
  go_ret
  exact ⟨rfl, Below.refl _ _⟩
set_option maxHeartbeats 4000000 in
theorem less_any (B n c : Nat) (T : TypeId) (S : List Plc) (rest : List Value) (i j : Nat) (w : World) (h : w.heap[B]? = some (.cells (S.flatMap pC ++ rest).toArray T (0, 0))) (hS : S.length = n) (hi : i < n) (hj : j < n) (hn : n ≤ 1000000) :
    Calls Tryd.prog 73 #[.slice (some ⟨B, 0, none⟩) n c, .int .i64 i, .int .i64 j] w fun e w' => IsB e ∧ Below w.heap.size w w' := by
  obtain ⟨⟨xo, xd, xt⟩, hx⟩ : ∃ x, S[i]? = some x := ⟨_, List.getElem?_eq_getElem (show i < S.length by omega)⟩
  obtain ⟨⟨yo, yd, yt⟩, hy⟩ : ∃ x, S[j]? = some x := ⟨_, List.getElem?_eq_getElem (show j < S.length by omega)⟩
  obtain ⟨⟨c0, c1, c2⟩, -⟩ := row_at h hx
  obtain ⟨⟨d0, d1, d2⟩, -⟩ := row_at h hy
  simp only at c0 c1 c2 d0 d1 d2
  clear h hS hx hy
  go_enter Tryd.func73, Tryd.ntmps73
  by_cases h1 : xo = yo
  · have h1z : (((xo : Nat) : Int) != ((yo : Nat) : Int)) = false := by simp [h1]
    by_cases h2 : xd = yd
    · have h2z : (((xd : Nat) : Int) != ((yd : Nat) : Int)) = false := by simp [h2]
      cases xt
      all_goals
        go_wp2
        go_quiet (fail)
        go_wp2
        go_quiet (fail)
        go_wp2
        go_ret
        exact ⟨⟨_, rfl⟩, by repeat (first | exact Below.refl _ _ | refine below_drewN ?_ _)⟩
    · have h2z : (((xd : Nat) : Int) != ((yd : Nat) : Int)) = true := by simp; omega
      go_wp2
      go_quiet (fail)
      go_wp2
      go_quiet (fail)
      go_wp2
      go_quiet (fail)
      go_wp2
      go_ret
      exact ⟨⟨_, rfl⟩, by repeat (first | exact Below.refl _ _ | refine below_drewN ?_ _)⟩
  · have h1z : (((xo : Nat) : Int) != ((yo : Nat) : Int)) = true := by simp; omega
    go_wp2
    go_quiet (fail)
    go_wp2
    go_quiet (fail)
    go_wp2
    go_ret
    exact ⟨⟨_, rfl⟩, by repeat (first | exact Below.refl _ _ | refine below_drewN ?_ _)⟩
set_option maxHeartbeats 4000000 in
theorem swap_any (B n c : Nat) (T : TypeId) (S : List Plc) (rest : List Value) (i j : Nat) (w : World) (h : w.heap[B]? = some (.cells (S.flatMap pC ++ rest).toArray T (0, 0))) (hS : S.length = n) (hi : i < n) (hj : j < n) (hn : n ≤ 1000000) :
    Calls Tryd.prog 74 #[.slice (some ⟨B, 0, none⟩) n c, .int .i64 i, .int .i64 j] w fun e w' => e = .returned (.tuple #[]) ∧ St B (RowOf S rest) T w w' := by
  obtain ⟨x, hix⟩ : ∃ x, S[i]? = some x := ⟨_, List.getElem?_eq_getElem (show i < S.length by omega)⟩
  obtain ⟨y, hjx⟩ : ∃ x, S[j]? = some x := ⟨_, List.getElem?_eq_getElem (show j < S.length by omega)⟩
  obtain ⟨⟨c0, c1, c2⟩, f0, f1, f2⟩ := row_at h hix
  obtain ⟨⟨d0, d1, d2⟩, g0, g1, g2⟩ := row_at h hjx
  have H := Lib.hid h
  have HI := Lib.hid hix
  have HJ := Lib.hid hjx
  have HS := Lib.hid hS
  clear h hix hjx hS
  have hl : S.length = n := HS.out
  obtain ⟨z, hz⟩ : ∃ z, (S.set i y)[j]? = some z := ⟨_, List.getElem?_eq_getElem (by rw [List.length_set]; omega)⟩
  have hp : ((S.set i y).set j x).Perm S := by
    have e1 := (List.getElem?_eq_some_iff.1 HI.out).2
    have e2 := (List.getElem?_eq_some_iff.1 HJ.out).2
    have := @List.set_set_perm _ S i j (by omega) (by omega)
    rwa [e1, e2] at this
  have fin : Hid (St B (RowOf S rest) T w (((((((w.setCell ⟨B, i * 3, none⟩ (.int .u32 (y.o : Nat))).setCell ⟨B, i * 3 + 1, none⟩ (.int .u8 (y.d : Nat))).setCell ⟨B, i * 3 + 2, none⟩ (.bool y.t)).setCell ⟨B, j * 3, none⟩ (.int .u32 (x.o : Nat))).setCell ⟨B, j * 3 + 1, none⟩ (.int .u8 (x.d : Nat))).setCell ⟨B, j * 3 + 2, none⟩ (.bool x.t)).drewN 1)) := by
    refine Lib.hid ⟨⟨_, ⟨_, hp, rfl⟩, row_set (row_set H.out HI.out y) hz x⟩, ?_⟩
    exact (((((((Mod.refl (fun k => k = B) w).setCell (p := ⟨B, i * 3, none⟩) (fun _ => rfl) _).setCell (p := ⟨B, i * 3 + 1, none⟩) (fun _ => rfl) _).setCell (p := ⟨B, i * 3 + 2, none⟩) (fun _ => rfl) _).setCell (p := ⟨B, j * 3, none⟩) (fun _ => rfl) _).setCell (p := ⟨B, j * 3 + 1, none⟩) (fun _ => rfl) _).setCell (p := ⟨B, j * 3 + 2, none⟩) (fun _ => rfl) _).drewN 1
  clear hz hp hl
  by_cases hij : i = j
  · subst hij
    obtain rfl : x = y := by simpa using HI.out.symm.trans HJ.out
    clear d0 d1 d2 g0 g1 g2 HJ
    go_enter Tryd.func74, Tryd.ntmps74
    go_wp2
    go_region
    all_goals (try go_wp2)
    all_goals go_end0
    exact ⟨rfl, fin.out⟩
  · go_enter Tryd.func74, Tryd.ntmps74
    go_wp2
    go_region
    all_goals (try go_wp2)
    all_goals go_end0
    exact ⟨rfl, fin.out⟩
/-- The methods, as sort.Sort wants them. -/
def meth (B n c : Nat) (S : List Plc) (rest : List Value) (hS : S.length = n) (hn : n ≤ 1000000) : Meth 75 (.slice (some ⟨B, 0, none⟩) n c) n B (RowOf S rest) 71 where
  gl := 73
  gs := 74
  fL := less_reached _ _ _
  fS := swap_reached _ _ _
  eL := enters_of Tryd.func73 (by kernel_rfl) rfl
  eS := enters_of Tryd.func74 (by kernel_rfl) rfl
  cL := fun w i j h h0 h1 h2 h3 => by
    obtain ⟨i, rfl⟩ := Int.eq_ofNat_of_zero_le h0
    obtain ⟨j, rfl⟩ := Int.eq_ofNat_of_zero_le h2
    obtain ⟨_, ⟨S', hp, rfl⟩, hh⟩ := h
    exact less_any B n c _ S' rest i j w hh (hp.length_eq.trans hS) (by omega) (by omega) hn
  cS := fun w i j h h0 h1 h2 h3 => by
    obtain ⟨i, rfl⟩ := Int.eq_ofNat_of_zero_le h0
    obtain ⟨j, rfl⟩ := Int.eq_ofNat_of_zero_le h2
    obtain ⟨_, ⟨S', hp, rfl⟩, hh⟩ := h
    refine (swap_any B n c _ S' rest i j w hh (hp.length_eq.trans hS) (by omega) (by omega) hn).mono ?_
    rintro e w' ⟨rfl, ⟨_, ⟨S2, hp2, rfl⟩, h2⟩, hm⟩
    exact ⟨rfl, ⟨_, ⟨S2, hp2.trans hp, rfl⟩, h2⟩, hm⟩
/-- sort.Sort: the same places in some order. -/
theorem sort_row (B n c : Nat) (S : List Plc) (rest : List Value) (w : World) (h : w.heap[B]? = some (.cells (S.flatMap pC ++ rest).toArray 71 (0, 0))) (hS : S.length = n) (hn : n ≤ 1000000) :
    Calls Tryd.prog 23 #[.iface 75 (.slice (some ⟨B, 0, none⟩) n c)] w fun e w' => e = .returned (.tuple #[]) ∧ ∃ S' : List Plc, S'.Perm S ∧ w'.heap[B]? = some (.cells (S'.flatMap pC ++ rest).toArray 71 (0, 0)) ∧ Mod (fun k => k = B) w w' := by
  refine (sort_any (meth B n c S rest hS hn) hn 72 (len_reached _ _ _) (enters_of Tryd.func72 (by kernel_rfl) rfl) w ⟨_, ⟨S, List.Perm.refl _, rfl⟩, h⟩ (len_any _ _ _ _)).mono ?_
  rintro e w' ⟨rfl, ⟨_, ⟨S', hp, rfl⟩, h2⟩, hm⟩
  exact ⟨rfl, S', hp, h2, hm⟩
set_option maxHeartbeats 1000000 in
/-- sort.Sort at a nil slice or one of no element. -/
theorem sort_none (p : Option Addr) (c : Nat) (w : World) :
    Calls Tryd.prog 23 #[.iface 75 (.slice p 0 c)] w fun e w' => e = .returned (.tuple #[]) ∧ Below w.heap.size w w' := by
  have fN := len_reached p 0 c
  have eN : ∀ args w, (callFunc 72 args).run Tryd.prog w = .ok (.enter 72 args) w := enters_of Tryd.func72 (by kernel_rfl) rfl
  have cN := len_any p 0 c w
  go_enter Tryd.func23, Tryd.ntmps23
  go_wp2_with fail
  refine cN.mono ?_
  rintro e w1 ⟨rfl, hw1⟩
  go_wp2_with fail
  (try simp only [Exit.inBlock, Exit.then])
  refine bodyPost_ret (results_none rfl _ _ _) rfl ?_
  exact ⟨rfl, hw1⟩
end Go.Proofs.YtnfagjemhbgfkaaDoor.Nfa
