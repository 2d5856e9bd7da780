/- registryCache: swap, promote; the pool's Put. -/
import Derived.Test.YtanimdajohpggaaHash
import Derived.Deep.RegionHeld3
namespace Go.Proofs.Ytanimdajohpggaa.Node
open Go.ChangeShapes Go.WideShapes Go.ChangeAt Go.RowKit Go.Trav Go.Sort
set_option linter.unusedVariables false
/-- A cell of the registry: the address and the node. -/
abbrev RC := Int × Option Addr
def rcCells (x : RC) : List Value := [.int .i64 x.1, Value.pointer x.2]
theorem rcCells_len (x : RC) : (rcCells x).length = 2 := rfl
/-- The registry's table: one block. -/
def TableAt (w : World) (T : Nat) (tab : List RC) : Prop := w.heap[T]? = some (.cells (tab.flatMap rcCells).toArray 112 (0, 0))
theorem TableAt.at {w : World} {T : Nat} {tab : List RC} (h : TableAt w T tab) {k : Nat} {a : Int} {p : Option Addr} (hk : tab[k]? = some (a, p)) :
    w.cell? ⟨T, k * 2, none⟩ = some (.int .i64 a) ∧ w.cell? ⟨T, k * 2 + 1, none⟩ = some (.pointer p) ∧ w.frozen? ⟨T, k * 2, none⟩ = false ∧ w.frozen? ⟨T, k * 2 + 1, none⟩ = false := by
  have h0 := flatMap_at rcCells 2 rcCells_len tab k 0 (by omega) _ hk
  have h1 := flatMap_at rcCells 2 rcCells_len tab k 1 (by omega) _ hk
  exact ⟨block_cell h (by simpa [rcCells] using h0), block_cell h (by simpa [rcCells] using h1), block_free h, block_free h⟩
theorem rc_set (tab : List RC) (k : Nat) (x y : RC) (hk : tab[k]? = some y) :
    ((tab.flatMap rcCells).set (k * 2) (.int .i64 x.1)).set (k * 2 + 1) (Value.pointer x.2) = (tab.set k x).flatMap rcCells := by
  induction tab generalizing k with
  | nil => simp at hk
  | cons z r ih =>
    cases k with
    | zero => simp [rcCells]
    | succ k =>
      have := ih k (by simpa using hk)
      have e : (k + 1) * 2 = k * 2 + 2 := by omega
      have e' : (k + 1) * 2 + 1 = k * 2 + 1 + 2 := by omega
      rw [e', e]
      show Value.int .i64 z.1 :: Value.pointer z.2 :: ((r.flatMap rcCells).set (k * 2) (.int .i64 x.1)).set (k * 2 + 1) (.pointer x.2) = _
      rw [this]
      rfl
theorem TableAt.set {w : World} {T : Nat} {tab : List RC} (h : TableAt w T tab) {k : Nat} {y : RC} (hk : tab[k]? = some y) (a : Int) (p : Option Addr) :
    TableAt ((w.setCell ⟨T, k * 2, none⟩ (.int .i64 a)).setCell ⟨T, k * 2 + 1, none⟩ (.pointer p)) T (tab.set k (a, p)) := by
  have := block_set (i := k * 2 + 1) (u := Value.pointer p) (block_set (i := k * 2) (u := .int .i64 a) h)
  unfold TableAt
  rw [this]
  simp only [List.setIfInBounds_toArray]
  rw [rc_set tab k (a, p) y hk]
theorem swap_any (T st n cap : Nat) (tab : List RC) (i j : Nat) (xi xj : RC) (w : World) (h : TableAt w T tab) (hi : tab[st + i]? = some xi) (hj : tab[st + j]? = some xj) (hin : i < n) (hjn : j < n) (hij : i ≠ j) :
    Calls Try.prog 75 #[.slice (some ⟨T, st * 2, none⟩) n cap, .int .i64 (i : Int), .int .i64 (j : Int)] w fun e w' => e = .returned (.tuple #[]) ∧ TableAt w' T ((tab.set (st + i) xj).set (st + j) xi) ∧ Mod (fun k => k = T) w w' := by
  obtain ⟨ai, pi⟩ := xi
  obtain ⟨aj, pj⟩ := xj
  obtain ⟨c0, c1, c2, c3⟩ := h.at hi
  obtain ⟨d0, d1, d2, d3⟩ := h.at hj
  have ei : (st + i) * 2 = st * 2 + i * 2 := by omega
  have ej : (st + j) * 2 = st * 2 + j * 2 := by omega
  rw [ei] at c0 c1 c2 c3
  rw [ej] at d0 d1 d2 d3
  have H := Lib.hid h
  clear h
  go_enter Try.func75, Try.ntmps75
  go_wp2
  go_region
  all_goals go_wp2
  go_end0
  refine ⟨rfl, ?_, ?_⟩
  · have a := H.out.set hi aj pj
    have b := a.set (k := st + j) (y := (aj, pj)) (by rw [List.getElem?_set_ne (by omega)]; exact hj) ai pi
    rw [ei, ej] at b
    exact b
  · exact (((((Mod.refl (fun k => k = T) w).setCell (p := ⟨T, st * 2 + i * 2, none⟩) (fun _ => rfl) _).setCell (p := ⟨T, st * 2 + i * 2 + 1, none⟩) (fun _ => rfl) _).setCell (p := ⟨T, st * 2 + j * 2, none⟩) (fun _ => rfl) _).setCell (p := ⟨T, st * 2 + j * 2 + 1, none⟩) (fun _ => rfl) _).drewN 1
def swapL (tab : List RC) (a b : Nat) : List RC := (tab.set a (tab[b]?.getD (0, none))).set b (tab[a]?.getD (0, none))
theorem swapL_len (tab : List RC) (a b : Nat) : (swapL tab a b).length = tab.length := by simp [swapL]
def bub (tab : List RC) (st : Nat) : Nat → List RC
  | 0 => tab
  | m + 1 => bub (swapL tab (st + m) (st + (m + 1))) st m
theorem promote_any (T st n cap : Nat) (tab : List RC) (i : Nat) (w : World) (h : TableAt w T tab) (hi : i < n) (hn : st + n ≤ tab.length) (hl : tab.length ≤ 1000000) :
    Calls Try.prog 70 #[.slice (some ⟨T, st * 2, none⟩) n cap, .int .i64 (i : Int)] w fun e w' => e = .returned (.tuple #[]) ∧ TableAt w' T (bub tab st i) ∧ Mod (fun k => k = T) w w' := by
  have H := Lib.hid h
  clear h
  go_enter Try.func70, Try.ntmps70
  go_wp2
  go_loopw [1] (fun x wr => ∃ (k : Nat) (tb : List RC), x = .int .i64 k ∧ k ≤ i ∧ Hid (TableAt wr T tb) ∧ Hid (bub tb st k = bub tab st i) ∧ Hid (tb.length = tab.length) ∧ Mod (fun k => k = T) w wr) (fun x _ => (intOf x).toNat)
  case atStart => exact ⟨i, tab, rfl, by omega, H, Lib.hid rfl, Lib.hid rfl, Mod.refl _ _⟩
  case round =>
    obtain ⟨k, tb, rfl, hk, HT, HB, HL, hm⟩ := hrel
    cases k with
    | zero =>
      go_wp2
      go_end0
      have := HB.out
      simp only [bub] at this
      exact ⟨rfl, by rw [← this]; exact HT.out, hm⟩
    | succ k =>
      have hl' := HL.out
      have e1 : tb[st + k]? = some (tb[st + k]?.getD (0, none)) := by simp [List.getElem?_eq_getElem (show st + k < tb.length by omega)]
      have e2 : tb[st + (k + 1)]? = some (tb[st + (k + 1)]?.getD (0, none)) := by simp [List.getElem?_eq_getElem (show st + (k + 1) < tb.length by omega)]
      have E1 := Lib.hid e1
      have E2 := Lib.hid e2
      clear e1 e2
      go_wp2_with fail
      refine (swap_any T st n cap tb k (k + 1) _ _ _ HT.out E1.out E2.out (by omega) (by omega) (by omega)).mono ?_
      rintro e w2 ⟨rfl, hT2, hm2⟩
      have HT2 : Hid (TableAt w2 T (swapL tb (st + k) (st + (k + 1)))) := Lib.hid hT2
      clear hT2
      go_wp2
      go_roundw
      case rel => exact ⟨k, _, by go_num, by omega, HT2, Lib.hid (by rw [← HB.out]; rfl), Lib.hid (by rw [swapL_len]; exact HL.out), hm.trans hm2⟩
      case measure => simp [intOf]
theorem reset_any (B : Nat) (v : Value) (f : Bool) (o : Int) (l : List Arc) (w : World) (h : NodeAt w B v f o l) :
    Calls Try.prog 74 #[.pointer (some ⟨B, 0, none⟩)] w fun e w' => e = .returned (.tuple #[]) ∧ (∃ c, w'.heap[B]? = some (.cells #[.int .u64 0, c, .bool false, .pointer none] 105 (0, 0))) ∧ Mod (fun k => k = B) w w' := by
  obtain ⟨nx, hb, hr⟩ := h.at
  have hbd := hr.bound
  obtain ⟨ao, cap, rfl⟩ := hr.form
  have x0 : w.cell? ⟨B, 0, none⟩ = some (.int .u64 o) := block_cell hb rfl
  have x1 : w.cell? ⟨B, 1, none⟩ = some (.slice ao l.length cap) := block_cell hb rfl
  have x2 : w.cell? ⟨B, 2, none⟩ = some (.bool f) := block_cell hb rfl
  have x3 : w.cell? ⟨B, 3, none⟩ = some (.pointer nx) := block_cell hb rfl
  have y0 : w.frozen? ⟨B, 0, none⟩ = false := block_free hb
  have y1 : w.frozen? ⟨B, 1, none⟩ = false := block_free hb
  have y2 : w.frozen? ⟨B, 2, none⟩ = false := block_free hb
  have y3 : w.frozen? ⟨B, 3, none⟩ = false := block_free hb
  have HB := Lib.hid hb
  clear hb hr
  go_enter Try.func74, Try.ntmps74
  go_wp2
  go_end0
  have a := block_set (i := 3) (u := .pointer none) (block_set (i := 1) (u := .slice ao 0 cap) (block_set (i := 0) (u := .int .u64 0) (block_set (i := 2) (u := .bool false) HB.out)))
  refine ⟨rfl, ⟨.slice ao 0 cap, a⟩, ?_⟩
  exact ((((Mod.refl (fun k => k = B) w).setCell (p := ⟨B, 2, none⟩) (fun _ => rfl) _).setCell (p := ⟨B, 0, none⟩) (fun _ => rfl) _).setCell (p := ⟨B, 1, none⟩) (fun _ => rfl) _).setCell (p := ⟨B, 3, none⟩) (fun _ => rfl) _
/-- Put, at a node of the table: it is emptied, and put ahead of the pool. -/
theorem put_any (B Pb : Nat) (v : Value) (f : Bool) (o : Int) (l : List Arc) (hd : Option Addr) (w : World) (h : NodeAt w B v f o l) (hp : w.heap[Pb]? = some (.cells #[.pointer hd] 102 (0, 0))) :
    Calls Try.prog 69 #[.pointer (some ⟨Pb, 0, none⟩), .pointer (some ⟨B, 0, none⟩)] w fun e w' => e = .returned (.tuple #[]) ∧ (∃ hd', w'.heap[Pb]? = some (.cells #[.pointer hd'] 102 (0, 0))) ∧ Mod (fun k => k = B ∨ k = Pb) w w' := by
  obtain ⟨nx, hb, hr⟩ := h.at
  have hne : B ≠ Pb := by
    rintro rfl
    rw [hb] at hp
    simp at hp
  have HN := Lib.hid h
  have HP := Lib.hid hp
  clear h hp hr hb
  go_enter Try.func69, Try.ntmps69
  go_wp2_with fail
  refine (reset_any B v f o l _ HN.out).mono ?_
  rintro e w1 ⟨rfl, ⟨c, hB⟩, hm⟩
  have hP : w1.heap[Pb]? = some (.cells #[.pointer hd] 102 (0, 0)) := hm.heap HP.out (fun e => hne e.symm)
  have x3 : w1.cell? ⟨B, 3, none⟩ = some (.pointer none) := block_cell hB rfl
  have y3 : w1.frozen? ⟨B, 3, none⟩ = false := block_free hB
  have x4 : w1.cell? ⟨Pb, 0, none⟩ = some (.pointer hd) := block_cell hP rfl
  have y4 : w1.frozen? ⟨Pb, 0, none⟩ = false := block_free hP
  have HB := Lib.hid hB
  have HQ := Lib.hid hP
  clear hB hP
  go_wp2
  go_end0
  refine ⟨rfl, ⟨some ⟨B, 0, none⟩, ?_⟩, ?_⟩
  · exact block_set (i := 0) (u := .pointer (some ⟨B, 0, none⟩)) (block_set_ne (a := ⟨B, 3, none⟩) (u := .pointer hd) HQ.out hne)
  · have hm' : Mod (fun k => k = B ∨ k = Pb) w w1 := hm.mono fun k _ (hk : k = B) => Or.inl hk
    exact (hm'.setCell (p := ⟨B, 3, none⟩) (fun _ => Or.inl rfl) _).setCell (p := ⟨Pb, 0, none⟩) (fun _ => Or.inr rfl) _
theorem put_nil (Pb : Nat) (w : World) :
    Calls Try.prog 69 #[.pointer (some ⟨Pb, 0, none⟩), .pointer none] w fun e w' => e = .returned (.tuple #[]) ∧ w = w' := by
  go_enter Try.func69, Try.ntmps69
  go_wp2
  refine bodyPost_ret (v := .tuple #[]) (by simp [results, Try.results69, go_sem]) rfl ⟨rfl, rfl⟩
end Go.Proofs.Ytanimdajohpggaa.Node
