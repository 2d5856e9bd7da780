/- registry.entry and ZzEntry: their contracts. -/
import Derived.Test.YtanimdajohpggaaEntry1
namespace Go.Proofs.Ytanimdajohpggaa.Node
open Go.ChangeShapes Go.WideShapes Go.ChangeAt Go.RowKit Go.Trav Go.Sort
set_option linter.unusedVariables false
set_option maxRecDepth 100000
structure RegAt (w : World) (R Pb T rows mru : Nat) (tab : List RC) : Prop where
  blk : w.heap[R]? = some (.cells #[.pointer (some ⟨Pb, 0, none⟩), .slice (some ⟨T, 0, none⟩) (rows * mru) (rows * mru), .int .u64 (rows : Int), .int .u64 (mru : Int)] 129 (0, 0))
  pool : ∃ hd, w.heap[Pb]? = some (.cells #[.pointer hd] 102 (0, 0))
  tbl : TableAt w T tab
  len : tab.length = rows * mru
/-- A row's first hit. -/
structure HitAt (nd : Nat → ND) (f : Bool) (o : Int) (l : List Arc) (tab : List RC) (st n i : Nat) (a : Int) : Prop where
  lt : i < n
  here : ∃ p, tab[st + i]? = some (a, p) ∧ hit nd f o l (a, p) = true
  miss : ∀ k, k < i → ∀ x, tab[st + k]? = some x → hit nd f o l x = false
theorem mul_row {rows mru r : Nat} (h : r < rows) : r * mru + mru ≤ rows * mru := by
  have : (r + 1) * mru ≤ rows * mru := Nat.mul_le_mul_right _ h
  rw [Nat.add_mul, Nat.one_mul] at this
  exact this
theorem centry_hit_any (T st n cap B Pb i : Nat) (tab : List RC) (nd : Nat → ND) (f : Bool) (o : Int) (l : List Arc) (v : Value) (a : Int) (w : World) (h : TableAt w T tab) (hrow : RowNodes w nd tab st n)
    (hB : NodeAt w B v f o l) (hn1 : 1 ≤ n) (hn : st + n ≤ tab.length) (hl : tab.length ≤ 1000000) (hh : HitAt nd f o l tab st n i a) :
    Calls Try.prog 61 #[.slice (some ⟨T, st * 2, none⟩) n cap, .pointer (some ⟨B, 0, none⟩), .pointer (some ⟨Pb, 0, none⟩)] w fun e w' => e = .returned (.tuple #[.bool true, .int .i64 a, .pointer none]) ∧ TableAt w' T (bub tab st i) ∧ Mod (fun k => k = T) w w' := by
  obtain ⟨hi, ⟨p, hx, hhit⟩, hmiss⟩ := hh
  by_cases h1 : n = 1
  · subst h1
    obtain rfl : i = 0 := by omega
    refine (centry1_hit T st cap B Pb tab nd f o l v a p w h hrow hB hx hhit).mono ?_
    rintro e w' ⟨he, hb⟩
    exact ⟨he, block_below h hb (block_lt h), Mod.of_below hb⟩
  · exact centry_hit T st n cap B Pb i tab nd f o l v a p w h hrow hB (by omega) hn hl hi hx hhit hmiss
theorem centry_miss_any (T st n cap B Pb : Nat) (tab : List RC) (nd : Nat → ND) (f : Bool) (o : Int) (l : List Arc) (v : Value) (aL : Int) (pL : Option Addr) (hd : Option Addr) (w : World) (h : TableAt w T tab) (hrow : RowNodes w nd tab st n)
    (hB : NodeAt w B v f o l) (hp : w.heap[Pb]? = some (.cells #[.pointer hd] 102 (0, 0))) (hn1 : 1 ≤ n) (hn : st + n ≤ tab.length) (hl : tab.length ≤ 1000000) (hx : tab[st + (n - 1)]? = some (aL, pL))
    (hTP : T ≠ Pb) (hTB : ∀ q, pL = some q → q.block ≠ T)
    (hmiss : ∀ k, k < n → ∀ x, tab[st + k]? = some x → hit nd f o l x = false) :
    Calls Try.prog 61 #[.slice (some ⟨T, st * 2, none⟩) n cap, .pointer (some ⟨B, 0, none⟩), .pointer (some ⟨Pb, 0, none⟩)] w fun e w' => e = .returned (.tuple #[.bool false, .int .i64 0, .pointer (some ⟨T, st * 2, none⟩)]) ∧ TableAt w' T (bub (tab.set (st + (n - 1)) (aL, some ⟨B, 0, none⟩)) st (n - 1)) ∧ (∃ hd', w'.heap[Pb]? = some (.cells #[.pointer hd'] 102 (0, 0))) ∧ Mod (fun k => k = T ∨ k = Pb ∨ ∃ q, pL = some q ∧ k = q.block) w w' := by
  by_cases h1 : n = 1
  · subst h1
    exact centry1_miss T st cap B Pb tab nd f o l v aL pL hd w h hrow hB hp hx hTP hTB (hmiss 0 (by omega) _ hx)
  · exact centry_miss T st n (n - 1) cap B Pb tab nd f o l v aL pL hd w h hrow hB hp (by omega) (by omega) hn hl hx hTP hTB hmiss
theorem RowNodes.below {w w' : World} {nd : Nat → ND} {tab : List RC} {st n : Nat} (h : RowNodes w nd tab st n) (hb : Below w.heap.size w w') : RowNodes w' nd tab st n :=
  fun k hk a p hx => ⟨(h k hk a p hx).1, NodeAt.below (h k hk a p hx).2 hb⟩
theorem entry_hit (R T Pb B rows mru i : Nat) (tab : List RC) (nd : Nat → ND) (f : Bool) (o : Int) (l : List Arc) (v : Value) (a : Int) (w : World) (h : RegAt w R Pb T rows mru tab) (hm1 : 1 ≤ mru) (hm2 : mru ≤ 1000) (hr1 : 1 ≤ rows) (hr2 : rows ≤ 1000)
    (hrn : RowNodes w nd tab (hrow rows f o l * mru) mru) (hB : NodeAt w B v f o l) (hh : HitAt nd f o l tab (hrow rows f o l * mru) mru i a) :
    Calls Try.prog 50 #[.pointer (some ⟨R, 0, none⟩), .pointer (some ⟨B, 0, none⟩)] w fun e w' => e = .returned (.tuple #[.bool true, .int .i64 a, .pointer none]) ∧ TableAt w' T (bub tab (hrow rows f o l * mru) i) ∧ Mod (fun k => k = T) w w' := by
  have hlt := hrow_lt rows hr1 f o l
  have hmul := mul_row (mru := mru) hlt
  have hbig : rows * mru ≤ 1000000 := by
    have := Nat.mul_le_mul hr2 hm2
    omega
  have k0 : w.cell? ⟨R, 0, none⟩ = some (.pointer (some ⟨Pb, 0, none⟩)) := block_cell h.blk rfl
  have k1 : w.cell? ⟨R, 1, none⟩ = some (.slice (some ⟨T, 0, none⟩) (rows * mru) (rows * mru)) := block_cell h.blk rfl
  have k2 : w.cell? ⟨R, 2, none⟩ = some (.int .u64 (rows : Int)) := block_cell h.blk rfl
  have k3 : w.cell? ⟨R, 3, none⟩ = some (.int .u64 (mru : Int)) := block_cell h.blk rfl
  have RW := Lib.hid hrn
  have HB := Lib.hid hB
  have HH := Lib.hid hh
  have H := Lib.hid h
  clear hrn hB hh h
  generalize hg : hrow rows f o l = r at *
  have HG := Lib.hid hg
  clear hg
  generalize hN : rows * mru = N at *
  have hN1 : 1 ≤ N := by omega
  have z0 : ((N : Int) == 0) = false := beq_eq_false_iff_ne.2 (by omega)
  generalize hs : r * mru = st at *
  have hpw : IntKind.u64.wrap ((mru : Int) * (r : Int)) = (st : Int) := by
    rw [IntKind.wrap_u64, ← hs, Int.mul_comm, ← Int.natCast_mul, hs]
    omega
  have HS := Lib.hid hs
  have HNN := Lib.hid hN
  clear hs hN
  go_enter Try.func50, Try.ntmps50
  go_wp2_with fail
  refine (hash_any R B rows v f o l _ HB.out k2 hr1 hr2).mono ?_
  rintro e w1 ⟨rfl, hb⟩
  rw [HG.out]
  have j0 : w1.cell? ⟨R, 0, none⟩ = _ := (hb.cell (World.block_lt_of_cell? w _ k0)).trans k0
  have j1 : w1.cell? ⟨R, 1, none⟩ = _ := (hb.cell (World.block_lt_of_cell? w _ k1)).trans k1
  have j3 : w1.cell? ⟨R, 3, none⟩ = _ := (hb.cell (World.block_lt_of_cell? w _ k3)).trans k3
  go_wp2_with fail
  refine (centry_hit_any T st mru _ B Pb i tab nd f o l v a _ (block_below H.out.tbl hb (block_lt H.out.tbl)) (RW.out.below hb) (NodeAt.below HB.out hb) hm1 (by have := H.out.len; have := HNN.out; omega) (by have := H.out.len; have := HNN.out; omega) HH.out).mono ?_
  rintro e w2 ⟨rfl, hT2, hm⟩
  have HT2 := Lib.hid hT2
  clear hT2
  go_wp2
  go_ret3
  exact ⟨rfl, HT2.out, (Mod.of_below hb).step hm fun _ _ h => h⟩
theorem entry_miss (R T Pb B rows mru : Nat) (tab : List RC) (nd : Nat → ND) (f : Bool) (o : Int) (l : List Arc) (v : Value) (aL : Int) (pL : Option Addr) (w : World) (h : RegAt w R Pb T rows mru tab) (hm1 : 1 ≤ mru) (hm2 : mru ≤ 1000) (hr1 : 1 ≤ rows) (hr2 : rows ≤ 1000)
    (hrn : RowNodes w nd tab (hrow rows f o l * mru) mru) (hB : NodeAt w B v f o l) (hh : ∀ k, k < mru → ∀ x, tab[hrow rows f o l * mru + k]? = some x → hit nd f o l x = false) (hx : tab[hrow rows f o l * mru + (mru - 1)]? = some (aL, pL)) (hTP : T ≠ Pb) (hTB : ∀ q, pL = some q → q.block ≠ T) :
    Calls Try.prog 50 #[.pointer (some ⟨R, 0, none⟩), .pointer (some ⟨B, 0, none⟩)] w fun e w' => e = .returned (.tuple #[.bool false, .int .i64 0, .pointer (some ⟨T, hrow rows f o l * mru * 2, none⟩)]) ∧ TableAt w' T (bub (tab.set (hrow rows f o l * mru + (mru - 1)) (aL, some ⟨B, 0, none⟩)) (hrow rows f o l * mru) (mru - 1)) ∧ (∃ hd', w'.heap[Pb]? = some (.cells #[.pointer hd'] 102 (0, 0))) ∧ Mod (fun k => k = T ∨ k = Pb ∨ ∃ q, pL = some q ∧ k = q.block) w w' := by
  have hlt := hrow_lt rows hr1 f o l
  have hmul := mul_row (mru := mru) hlt
  have hbig : rows * mru ≤ 1000000 := by
    have := Nat.mul_le_mul hr2 hm2
    omega
  have k0 : w.cell? ⟨R, 0, none⟩ = some (.pointer (some ⟨Pb, 0, none⟩)) := block_cell h.blk rfl
  have k1 : w.cell? ⟨R, 1, none⟩ = some (.slice (some ⟨T, 0, none⟩) (rows * mru) (rows * mru)) := block_cell h.blk rfl
  have k2 : w.cell? ⟨R, 2, none⟩ = some (.int .u64 (rows : Int)) := block_cell h.blk rfl
  have k3 : w.cell? ⟨R, 3, none⟩ = some (.int .u64 (mru : Int)) := block_cell h.blk rfl
  have RW := Lib.hid hrn
  have HB := Lib.hid hB
  have HH := Lib.hid hh
  have HX := Lib.hid hx
  have HTB := Lib.hid hTB
  have H := Lib.hid h
  clear hrn hB hh h hx hTB
  generalize hg : hrow rows f o l = r at *
  have HG := Lib.hid hg
  clear hg
  generalize hN : rows * mru = N at *
  have hN1 : 1 ≤ N := by omega
  have z0 : ((N : Int) == 0) = false := beq_eq_false_iff_ne.2 (by omega)
  generalize hs : r * mru = st at *
  have hpw : IntKind.u64.wrap ((mru : Int) * (r : Int)) = (st : Int) := by
    rw [IntKind.wrap_u64, ← hs, Int.mul_comm, ← Int.natCast_mul, hs]
    omega
  have HS := Lib.hid hs
  have HNN := Lib.hid hN
  clear hs hN
  go_enter Try.func50, Try.ntmps50
  go_wp2_with fail
  refine (hash_any R B rows v f o l _ HB.out k2 hr1 hr2).mono ?_
  rintro e w1 ⟨rfl, hb⟩
  rw [HG.out]
  have j0 : w1.cell? ⟨R, 0, none⟩ = _ := (hb.cell (World.block_lt_of_cell? w _ k0)).trans k0
  have j1 : w1.cell? ⟨R, 1, none⟩ = _ := (hb.cell (World.block_lt_of_cell? w _ k1)).trans k1
  have j3 : w1.cell? ⟨R, 3, none⟩ = _ := (hb.cell (World.block_lt_of_cell? w _ k3)).trans k3
  go_wp2_with fail
  obtain ⟨hd, hP⟩ := H.out.pool
  refine (centry_miss_any T st mru _ B Pb tab nd f o l v aL pL hd _ (block_below H.out.tbl hb (block_lt H.out.tbl)) (RW.out.below hb) (NodeAt.below HB.out hb) (block_below hP hb (block_lt hP)) hm1 (by have := H.out.len; have := HNN.out; omega) (by have := H.out.len; have := HNN.out; omega) HX.out hTP HTB.out HH.out).mono ?_
  rintro e w2 ⟨rfl, hT2, hP2, hm⟩
  have HT2 := Lib.hid hT2
  have HP2 := Lib.hid hP2
  clear hT2 hP2 hP
  go_wp2
  go_ret3
  exact ⟨rfl, HT2.out, HP2.out, (Mod.of_below hb).step hm fun _ _ h => h⟩
end Go.Proofs.Ytanimdajohpggaa.Node
