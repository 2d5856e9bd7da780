/- ZzEntry, ZzRegistry: their contracts. -/
import Derived.Test.YtanimdajohpggaaRegEntry
import Derived.Deep.RegionWith
namespace Go.Proofs.Ytanimdajohpggaa.Node
open Go.ChangeShapes Go.WideShapes Go.ChangeAt Go.RowKit Go.Trav Go.Sort
set_option linter.unusedVariables false
set_option maxRecDepth 100000
theorem bub_len (tab : List RC) (st m : Nat) : (bub tab st m).length = tab.length := by
  induction m generalizing tab with
  | zero => rfl
  | succ m ih => rw [bub, ih, swapL_len]
theorem bub_head (tab : List RC) (st m : Nat) (h : st + m < tab.length) : (bub tab st m)[st]? = tab[st + m]? := by
  induction m generalizing tab with
  | zero => rfl
  | succ m ih =>
    rw [bub, ih _ (by rw [swapL_len]; omega)]
    unfold swapL
    rw [List.getElem?_set_ne (by omega), List.getElem?_set_self (by omega)]
    simp [List.getElem?_eq_getElem h]
theorem set_addr {w : World} {T : Nat} {tab : List RC} {st : Nat} {a : Int} {p : Option Addr} (h : TableAt w T tab) (hk : tab[st]? = some (a, p)) (b : Int) : TableAt (w.setCell ⟨T, st * 2, none⟩ (.int .i64 b)) T (tab.set st (b, p)) := by
  have h1 := block_set (i := st * 2) (u := .int .i64 b) h
  unfold TableAt
  rw [h1]
  have h2 := rc_set tab st (b, p) (a, p) hk
  have h0 := flatMap_at rcCells 2 rcCells_len tab st 1 (by omega) _ hk
  have h3 : ((tab.flatMap rcCells).set (st * 2) (.int .i64 b)).set (st * 2 + 1) (.pointer p) = (tab.flatMap rcCells).set (st * 2) (.int .i64 b) := by
    apply List.ext_getElem?
    intro j
    by_cases hj : st * 2 + 1 = j
    · subst hj
      have hlt := (List.getElem?_eq_some_iff.1 (show _ = some (Value.pointer p) from h0)).1
      rw [List.getElem?_set_self (by simpa using hlt), List.getElem?_set_ne (by omega), h0]
      rfl
    · rw [List.getElem?_set_ne hj]
  rw [h3] at h2
  simp only [List.setIfInBounds_toArray, h2]
theorem zzentry_hit (R T Pb B rows mru i : Nat) (n : Int) (tab : List RC) (nd : Nat → ND) (f : Bool) (o : Int) (l : List Arc) (v : Value) (a : Int) (w : World) (h : RegAt w R Pb T rows mru tab) (hm1 : 1 ≤ mru) (hm2 : mru ≤ 1000) (hr1 : 1 ≤ rows) (hr2 : rows ≤ 1000)
    (hrn : RowNodes w nd tab (hrow rows f o l * mru) mru) (hB : NodeAt w B v f o l) (hh : HitAt nd f o l tab (hrow rows f o l * mru) mru i a) :
    Calls Try.prog 32 #[.pointer (some ⟨R, 0, none⟩), .pointer (some ⟨B, 0, none⟩), .int .i64 n] w fun e w' => e = .returned (.tuple #[.bool true, .int .i64 a]) ∧ TableAt w' T (bub tab (hrow rows f o l * mru) i) ∧ Mod (fun k => k = T) w w' := by
  go_enter Try.func32, Try.ntmps32
  go_wp2_with fail
  refine (entry_hit R T Pb B rows mru i tab nd f o l v a w h hm1 hm2 hr1 hr2 hrn hB hh).mono ?_
  rintro e w2 ⟨rfl, hT2, hm⟩
  have HT2 := Lib.hid hT2
  clear hT2 h hrn hB hh
  go_wp2
  go_ret2
  exact ⟨rfl, HT2.out, hm⟩
theorem zzentry_miss (R T Pb B rows mru : Nat) (n : Int) (tab : List RC) (nd : Nat → ND) (f : Bool) (o : Int) (l : List Arc) (v : Value) (aL : Int) (pL : Option Addr) (w : World) (h : RegAt w R Pb T rows mru tab) (hm1 : 1 ≤ mru) (hm2 : mru ≤ 1000) (hr1 : 1 ≤ rows) (hr2 : rows ≤ 1000)
    (hrn : RowNodes w nd tab (hrow rows f o l * mru) mru) (hB : NodeAt w B v f o l) (hh : ∀ k, k < mru → ∀ x, tab[hrow rows f o l * mru + k]? = some x → hit nd f o l x = false) (hx : tab[hrow rows f o l * mru + (mru - 1)]? = some (aL, pL)) (hTP : T ≠ Pb) (hTB : ∀ q, pL = some q → q.block ≠ T) :
    Calls Try.prog 32 #[.pointer (some ⟨R, 0, none⟩), .pointer (some ⟨B, 0, none⟩), .int .i64 n] w fun e w' => e = .returned (.tuple #[.bool false, .int .i64 0]) ∧ TableAt w' T ((bub (tab.set (hrow rows f o l * mru + (mru - 1)) (aL, some ⟨B, 0, none⟩)) (hrow rows f o l * mru) (mru - 1)).set (hrow rows f o l * mru) (n, some ⟨B, 0, none⟩)) ∧ (∃ hd', w'.heap[Pb]? = some (.cells #[.pointer hd'] 102 (0, 0))) ∧ Mod (fun k => k = T ∨ k = Pb ∨ ∃ q, pL = some q ∧ k = q.block) w w' := by
  have hxl : hrow rows f o l * mru + (mru - 1) < tab.length := (List.getElem?_eq_some_iff.1 hx).1
  have hh2 := bub_head (tab.set (hrow rows f o l * mru + (mru - 1)) (aL, some ⟨B, 0, none⟩)) (hrow rows f o l * mru) (mru - 1) (by simpa using hxl)
  rw [List.getElem?_set_self hxl] at hh2
  go_enter Try.func32, Try.ntmps32
  go_wp2_with fail
  refine (entry_miss R T Pb B rows mru tab nd f o l v aL pL w h hm1 hm2 hr1 hr2 hrn hB hh hx hTP hTB).mono ?_
  rintro e w2 ⟨rfl, hT2, ⟨hd', hP2⟩, hm⟩
  obtain ⟨d0, d1, d2, d3⟩ := hT2.at hh2
  have HT2 := Lib.hid hT2
  have HP2 := Lib.hid hP2
  have HH2 := Lib.hid hh2
  clear hT2 h hrn hB hh hP2 hh2 hTB hx
  generalize hs : hrow rows f o l * mru = st at *
  have HS := Lib.hid hs
  clear hs
  go_wp2
  go_ret2
  rw [HS.out]
  exact ⟨rfl, set_addr HT2.out HH2.out _, ⟨hd', block_set_ne HP2.out hTP⟩, hm.setCell (p := ⟨T, st * 2, none⟩) (fun _ => Or.inl rfl) _⟩
theorem Try.info112 : (Try.prog.info? 112).map (fun i => (i.zero, i.size, i.bytes)) = some (some (.agg #[.int .i64 0, .pointer none]), 2, 16) := by kernel_rfl
theorem run_make_cells (n : Nat) (hn : n ≤ 1000000) (kl kc : IntKind) (w : World) :
    (Instr.makeSlice 127 (.int kl (n : Int)) (.int kc (n : Int))).run Try.prog w = .ok (.slice (some ⟨w.heap.size, 0, none⟩) n n) (w.alloc (.cells (madeCells #[.int .i64 0, .pointer none] (n * 2)) 112)) := by
  obtain ⟨i, hi, hzz⟩ := Option.map_eq_some_iff.1 Try.info112
  simp only [Prod.mk.injEq] at hzz
  obtain ⟨hz, hs, hb⟩ := hzz
  have hr := run_make (P := Try.prog) w 127 112 i _ Try.underlying127 hi hz kl kc n n (by omega) (Int.le_refl _) (by rw [hb]; omega) (by omega)
  simp only [hs, Int.toNat_natCast] at hr
  exact hr
theorem made_table (n : Nat) : madeCells #[.int .i64 0, .pointer none] (n * 2) = ((List.replicate n ((0, none) : RC)).flatMap rcCells).toArray := by
  apply Array.ext
  · simp [size_madeCells, rcCells, List.length_flatMap]
  · intro i h1 h2
    have hi : i < n * 2 := by simpa [size_madeCells] using h1
    have hk : (List.replicate n ((0, none) : RC))[i / 2]? = some (0, none) := by rw [List.getElem?_replicate, if_pos (by omega)]
    have h0 := flatMap_at rcCells 2 rcCells_len _ (i / 2) (i % 2) (by omega) _ hk
    have e : i / 2 * 2 + i % 2 = i := by omega
    rw [e] at h0
    have h3 : ((List.replicate n ((0, none) : RC)).flatMap rcCells).toArray[i]? = (rcCells (0, none))[i % 2]? := by simpa using h0
    rw [Array.getElem?_eq_getElem h2] at h3
    have h4 : (madeCells #[.int .i64 0, .pointer none] (n * 2))[i] = #[Value.int .i64 0, .pointer none][i % 2]! := by simp [madeCells]
    rw [h4]
    rcases Nat.mod_two_eq_zero_or_one i with h5 | h5
    · rw [h5] at h3 ⊢
      exact (Option.some.inj h3).symm
    · rw [h5] at h3 ⊢
      exact (Option.some.inj h3).symm
theorem newreg_any (Pb : Nat) (rows mru : Nat) (w : World) (hm1 : 1 ≤ mru) (hm2 : mru ≤ 1000) (hr1 : 1 ≤ rows) (hr2 : rows ≤ 1000) :
    Calls Try.prog 49 #[.pointer (some ⟨Pb, 0, none⟩), .int .i64 (rows : Int), .int .i64 (mru : Int)] w fun e w' => e = .returned (.pointer (some ⟨w.heap.size + 1, 0, none⟩)) ∧ w' = (w.alloc (.cells (madeCells #[.int .i64 0, .pointer none] (rows * mru * 2)) 112)).alloc (.cells #[.pointer (some ⟨Pb, 0, none⟩), .slice (some ⟨w.heap.size, 0, none⟩) (rows * mru) (rows * mru), .int .u64 (rows : Int), .int .u64 (mru : Int)] 129) := by
  have hbig : rows * mru ≤ 1000000 := by
    have := Nat.mul_le_mul hr2 hm2
    omega
  generalize hN : rows * mru = N at *
  have hpw : wrap64 ((rows : Int) * (mru : Int)) = (N : Int) := by
    rw [← Int.natCast_mul, hN]
    unfold wrap64
    omega
  have HN := Lib.hid hN
  clear hN
  have hmk := fun w => run_make_cells N hbig .i64 .i64 w
  go_enter Try.func49, Try.ntmps49
  go_wp2
  go_ret
  exact ⟨rfl, rfl⟩
theorem zzregistry_any (rows mru : Nat) (w : World) (hm1 : 1 ≤ mru) (hm2 : mru ≤ 1000) (hr1 : 1 ≤ rows) (hr2 : rows ≤ 1000) :
    Calls Try.prog 29 #[.int .i64 (rows : Int), .int .i64 (mru : Int)] w fun e w' => ∃ R Pb T, e = .returned (.pointer (some ⟨R, 0, none⟩)) ∧ RegAt w' R Pb T rows mru (List.replicate (rows * mru) (0, none)) ∧ Below w.heap.size w w' ∧ w.heap.size ≤ R ∧ w.heap.size ≤ Pb ∧ w.heap.size ≤ T ∧ R ≠ Pb ∧ T ≠ Pb ∧ R ≠ T := by
  go_enter Try.func29, Try.ntmps29
  go_wp2_with fail
  refine (newreg_any w.heap.size rows mru _ hm1 hm2 hr1 hr2).mono ?_
  rintro e w' ⟨rfl, rfl⟩
  go_wp2_with fail
  go_ret
  refine ⟨_, w.heap.size, w.heap.size + 1, rfl, ⟨?_, ⟨none, ?_⟩, ?_, by simp⟩, ?_, ?_, ?_, ?_, ?_, ?_, ?_⟩
  · exact heap_alloc_at _ _ _ (by simp)
  · exact block_alloc (block_alloc (heap_alloc_at _ _ _ rfl))
  · unfold TableAt
    rw [← made_table]
    exact block_alloc (heap_alloc_at _ _ _ (by simp))
  · exact (((Below.refl w.heap.size w).alloc (Nat.le_refl _) _).alloc (by simp) _).alloc (by simp; omega) _
  all_goals (try simp only [World.heap_alloc, Array.size_push]); (try simp); (try omega)
end Go.Proofs.Ytanimdajohpggaa.Node
