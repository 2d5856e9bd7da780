/- The law FnSparse. -/
import Derived.Test.YtjnfhcagfgbmnaaSparseRun
namespace Go.Proofs.Ytjnfhcagfgbmnaa.Sparse
open Go.ChangeShapes Go.WideShapes Go.ChangeAt Go.RowKit Go.Trav Go.Sort
set_option linter.unusedVariables false
theorem Try.info49 : (Try.prog.info? 49).map (fun i => (i.zero, i.size, i.bytes)) = some (some (.agg #[.int .i64 0, .int .u64 0]), 2, 16) := by kernel_rfl

/-- The law's three lists, and (from within a round) its step x in block X. -/
structure LR (w wr : World) (X : Nat) (vs vw vi : Value) (L : List Step) (outs l : List Nat) : Prop where
  bel : Below w.heap.size w wr
  os : wr.ownsRow w.heap.size 49 2 vs L.length (L.flatMap stepCells)
  ow : wr.ownsRow w.heap.size 46 1 vw outs.length (outs.map uV)
  oi : wr.ownsRow w.heap.size 46 1 vi l.length (l.map uV)
  n1 : ∀ g, vs.ownBlock = some g → vw.ownBlock ≠ some g ∧ vi.ownBlock ≠ some g
  n2 : ∀ g, vw.ownBlock = some g → vi.ownBlock ≠ some g
  nx : vs.ownBlock ≠ some X ∧ vw.ownBlock ≠ some X ∧ vi.ownBlock ≠ some X
  hX : X ≤ wr.heap.size
theorem LR.mod {w wr w1 : World} {X : Nat} {vs vw vi : Value} {L : List Step} {outs l : List Nat} (h : LR w wr X vs vw vi L outs l) (hb : Below wr.heap.size wr w1) : LR w w1 X vs vw vi L outs l := by
  have hm : Mod (fun _ => False) wr w1 := Mod.of_below hb
  exact ⟨h.bel.trans (hb.mono h.bel.size), ownsRow_mod h.os hm (fun _ _ x => x), ownsRow_mod h.ow hm (fun _ _ x => x), ownsRow_mod h.oi hm (fun _ _ x => x), h.n1, h.n2, h.nx, Nat.le_trans h.hX hb.size⟩
theorem LR.lts {w wr : World} {X : Nat} {vs vw vi : Value} {L : List Step} {outs l : List Nat} (h : LR w wr X vs vw vi L outs l) (g : Nat) (hg : vs.ownBlock = some g ∨ vw.ownBlock = some g ∨ vi.ownBlock = some g) : w.heap.size ≤ g ∧ g < wr.heap.size := by
  rcases hg with e | e | e
  · exact h.os.lt g e
  · exact h.ow.lt g e
  · exact h.oi.lt g e
/-- A round begins: the step lies in a new block. -/
theorem LR.open {w wr : World} {X : Nat} {vs vw vi : Value} {L : List Step} {outs l : List Nat} (h : LR w wr X vs vw vi L outs l) (o : Obj) : LR w (wr.alloc o) wr.heap.size vs vw vi L outs l := by
  have h' := h.mod ((Below.refl _ _).alloc (Nat.le_refl _) o)
  refine ⟨h'.bel, h'.os, h'.ow, h'.oi, h.n1, h.n2, ⟨fun e => ?_, fun e => ?_, fun e => ?_⟩, by simp⟩
  · have := h.lts _ (Or.inl e); omega
  · have := h.lts _ (Or.inr (Or.inl e)); omega
  · have := h.lts _ (Or.inr (Or.inr e)); omega
theorem LR.appW {w wr w1 : World} {X : Nat} {vs vw vw' vi : Value} {L : List Step} {outs l : List Nat} (h : LR w wr X vs vw vi L outs l) (y : Nat) (T : TypeId) (hg : (wr.alloc (.cells #[uV y] T)).grownBy w1 vw.ownBlock)
    (hown : w1.ownsRow w.heap.size 46 1 vw' (outs.length + 1) (outs.map uV ++ #[uV y].toList)) (hat : vw'.ownBlock = vw.ownBlock ∨ vw'.ownBlock = some (wr.heap.size + 1)) : LR w w1 X vs vw' vi L (outs ++ [y]) l := by
  have hm : Mod (fun k => vw.ownBlock = some k) wr w1 := ((Mod.refl _ wr).alloc _).grown hg (fun k hk _ => hk)
  have hX := h.hX
  refine ⟨h.bel.trans (hm.toBelow h.bel.size fun k _ hk => (h.ow.lt k hk).1), ownsRow_mod h.os hm (fun g hg e => (h.n1 g hg).1 e), by simpa using hown, ownsRow_mod h.oi hm (fun g hg e => h.n2 g e hg), fun g hg => ?_, fun g hg => ?_, ⟨h.nx.1, ?_, h.nx.2.2⟩, Nat.le_trans hX hm.size⟩
  · refine ⟨?_, (h.n1 g hg).2⟩
    rcases hat with e | e
    · rw [e]; exact (h.n1 g hg).1
    · rw [e]; have := h.lts g (Or.inl hg); simp; omega
  · rcases hat with e | e
    · rw [e] at hg; exact h.n2 g hg
    · rw [e] at hg; simp at hg; intro e2; have := h.lts g (Or.inr (Or.inr e2)); omega
  · rcases hat with e | e
    · rw [e]; exact h.nx.2.1
    · rw [e]; simp; omega
theorem LR.appI {w wr w1 : World} {X : Nat} {vs vw vi vi' : Value} {L : List Step} {outs l : List Nat} (h : LR w wr X vs vw vi L outs l) (y : Nat) (T : TypeId) (hg : (wr.alloc (.cells #[uV y] T)).grownBy w1 vi.ownBlock)
    (hown : w1.ownsRow w.heap.size 46 1 vi' (l.length + 1) (l.map uV ++ #[uV y].toList)) (hat : vi'.ownBlock = vi.ownBlock ∨ vi'.ownBlock = some (wr.heap.size + 1)) : LR w w1 X vs vw vi' L outs (l ++ [y]) := by
  have hm : Mod (fun k => vi.ownBlock = some k) wr w1 := ((Mod.refl _ wr).alloc _).grown hg (fun k hk _ => hk)
  have hX := h.hX
  refine ⟨h.bel.trans (hm.toBelow h.bel.size fun k _ hk => (h.oi.lt k hk).1), ownsRow_mod h.os hm (fun g hg e => (h.n1 g hg).2 e), ownsRow_mod h.ow hm (fun g hg e => h.n2 g hg e), by simpa using hown, fun g hg => ?_, fun g hg => ?_, ⟨h.nx.1, h.nx.2.1, ?_⟩, Nat.le_trans hX hm.size⟩
  · refine ⟨(h.n1 g hg).1, ?_⟩
    rcases hat with e | e
    · rw [e]; exact (h.n1 g hg).2
    · rw [e]; have := h.lts g (Or.inl hg); simp; omega
  · rcases hat with e | e
    · rw [e]; exact h.n2 g hg
    · rw [e]; simp; intro e2; have := h.lts g (Or.inr (Or.inl hg)); omega
  · rcases hat with e | e
    · rw [e]; exact h.nx.2.2
    · rw [e]; simp; omega
theorem LR.appS {w wr w1 : World} {X : Nat} {vs vs' vw vi : Value} {L : List Step} {outs l : List Nat} (h : LR w wr X vs vw vi L outs l) (s : Step) (T : TypeId) (hg : (wr.alloc (.cells #[.int .i64 s.1, .int .u64 (s.2 : Int)] T)).grownBy w1 vs.ownBlock)
    (hown : w1.ownsRow w.heap.size 49 2 vs' (L.length + 1) (L.flatMap stepCells ++ #[Value.int .i64 s.1, .int .u64 (s.2 : Int)].toList)) (hat : vs'.ownBlock = vs.ownBlock ∨ vs'.ownBlock = some (wr.heap.size + 1)) : LR w w1 X vs' vw vi (L ++ [s]) outs l := by
  have hm : Mod (fun k => vs.ownBlock = some k) wr w1 := ((Mod.refl _ wr).alloc _).grown hg (fun k hk _ => hk)
  have hX := h.hX
  refine ⟨h.bel.trans (hm.toBelow h.bel.size fun k _ hk => (h.os.lt k hk).1), by simpa [stepCells] using hown, ownsRow_mod h.ow hm (fun g hg e => (h.n1 g e).1 hg), ownsRow_mod h.oi hm (fun g hg e => (h.n1 g e).2 hg), fun g hg => ?_, h.n2, ⟨?_, h.nx.2.1, h.nx.2.2⟩, Nat.le_trans hX hm.size⟩
  · rcases hat with e | e
    · rw [e] at hg; exact h.n1 g hg
    · rw [e] at hg; simp at hg
      refine ⟨fun e2 => ?_, fun e2 => ?_⟩
      · have := h.lts g (Or.inr (Or.inl e2)); omega
      · have := h.lts g (Or.inr (Or.inr e2)); omega
  · rcases hat with e | e
    · rw [e]; exact h.nx.1
    · rw [e]; simp; omega
theorem LR.clr {w wr : World} {X : Nat} {vs vw vi : Value} {L : List Step} {outs l : List Nat} (h : LR w wr X vs vw vi L outs l) : LR w wr X vs vw (.slice none 0 0) L outs [] :=
  ⟨h.bel, h.os, h.ow, World.ownsRow_nil _ _ _ _, fun g hg => ⟨(h.n1 g hg).1, by simp [Value.ownBlock]⟩, fun g hg => by simp [Value.ownBlock], ⟨h.nx.1, h.nx.2.1, by simp [Value.ownBlock]⟩, h.hX⟩
/-- The step's block stays as it is while a list is appended to. -/
theorem LR.setX {w wr : World} {X : Nat} {vs vw vi : Value} {L : List Step} {outs l : List Nat} (h : LR w wr X vs vw vi L outs l) (hw : w.heap.size ≤ X) (i : Nat) (u : Value) : LR w (wr.setCell ⟨X, i, none⟩ u) X vs vw vi L outs l :=
  ⟨h.bel.setCell hw u, ownsRow_setCell_ne h.os (fun e => h.nx.1 e.symm) u, ownsRow_setCell_ne h.ow (fun e => h.nx.2.1 e.symm) u, ownsRow_setCell_ne h.oi (fun e => h.nx.2.2 e.symm) u, h.n1, h.n2, h.nx, by simpa [World.setCell] using h.hX⟩
def hasN (y : Nat) (l : List Nat) : Nat := if y ∈ l then 1 else 0
theorem World.drew_eq_drewN (w : World) : w.drew = w.drewN 1 := rfl
theorem keepX {wr w1 : World} {X : Nat} {o : Obj} {ob : Obj} {row : Option Nat} (h : wr.heap[X]? = some ob) (hg : (wr.alloc o).grownBy w1 row) (hn : row ≠ some X) : w1.heap[X]? = some ob :=
  (hg.block X (by have := block_lt h; simp; omega) (fun e => hn e.symm)).trans (block_alloc h)
theorem runO_len1 (L : List Step) : (runO L).1.length ≤ L.length := by
  have : ∀ (L : List Step) (p : List Nat × List Nat), (L.foldl stepO p).1.length ≤ p.1.length + L.length := by
    intro L
    induction L with
    | nil => intro p; simp
    | cons s r ih =>
      intro p
      have h1 := ih (stepO p s)
      have h2 : (stepO p s).1.length ≤ p.1.length + 1 := by
        simp only [stepO, next1]
        split
        · simp
        · split
          · simp
          · omega
      simp only [List.foldl_cons, List.length_cons]
      omega
  have := this L ([], [])
  simpa [runO] using this
theorem okAll_snoc {n : Nat} {L : List Step} {s : Step} (h : okAll n L) (hs : ok1 n (runO L).1 s) : okAll n (L ++ [s]) := by
  intro k s' hk
  by_cases e : k < L.length
  · rw [List.getElem?_append_left e] at hk
    rw [List.take_append_of_le_length (by omega)]
    exact h k s' hk
  · have : k = L.length := by
      have := (List.getElem?_eq_some_iff.1 hk).1
      simp at this; omega
    subst this
    simp at hk
    subst hk
    simpa using hs
theorem law_big (n0 : Int) (ao : Option Addr) (m cap : Nat) (w : World) (h : 65536 < m) :
    Calls Try.prog 10 #[.int .u8 n0, .slice ao m cap] w fun e w' => e = .returned (.bool true) ∧ Below w.heap.size w w' := by
  by_cases h1 : 2147483647 < m
  · go_enter Try.func10, Try.ntmps10
    go_wp2
    go_ret
    exact ⟨rfl, Below.refl _ _⟩
  · go_enter Try.func10, Try.ntmps10
    go_wp2
    go_ret
    exact ⟨rfl, Below.refl _ _⟩
set_option maxRecDepth 100000 in
set_option maxHeartbeats 2000000 in
theorem law_on (n0 N : Nat) (v : Value) (m : Nat) (R : List Step) (w : World) (hm : m ≤ 65536) (hn0 : n0 ≤ 255) (hN : Hid (N = n0 + 1)) (hN1 : 1 ≤ N) (hN2 : N ≤ 256) (h : Reads w v m 2 (R.flatMap stepCells)) :
    Calls Try.prog 10 #[.int .u8 (n0 : Int), v] w fun e w' => e = .returned (.bool true) ∧ Below w.heap.size w w' := by
  obtain ⟨ao, cap, rfl⟩ := h.form
  go_enter Try.func10, Try.ntmps10
  go_wp2
  rw [show ((n0 : Int) + 1) = (N : Int) from by have := hN.out; omega]
  go_loopw [6, 7, 8, 9] (fun vs vw vi i wr => ∃ (k : Nat) (X : Nat) (L : List Step), i = .int .i64 k ∧ (k ≤ m ∧ k ≤ 2000) ∧ LR w wr X vs vw vi L (runO L).2 (runO L).1 ∧ Hid (okAll N L) ∧ L.length ≤ k) (fun _ _ _ i _ => m - (intOf i).toNat)
  case atStart => exact ⟨0, w.heap.size, [], rfl, by omega, ⟨Below.refl _ _, World.ownsRow_nil _ _ _ _, World.ownsRow_nil _ _ _ _, World.ownsRow_nil _ _ _ _, by simp [Value.ownBlock], by simp [Value.ownBlock], by simp [Value.ownBlock], Nat.le_refl _⟩, Lib.hid (fun k s hk => by simp at hk), by simp⟩
  case round =>
    obtain ⟨k, X, L, rfl, ⟨hk1, hk2⟩, HR, HO, hLk⟩ := hrel
    by_cases hlt : k < m ∧ k < 2000
    · obtain ⟨hlt1, hlt2⟩ := hlt
      have hi1 : decide ((k : Int) < (m : Int)) = true := by simp; omega
      obtain ⟨b, off, _, ⟨o, x⟩, hx, e1, hc⟩ := Reads.rec stepCells stepCells_len (h.below HR.bel) (by omega) hlt1
      cases hx
      have c0 : wr.cell? ⟨b, off + k * 2, none⟩ = some (.int .i64 o) := hc 0 _ rfl
      have c1 : wr.cell? ⟨b, off + k * 2 + 1, none⟩ = some (.int .u64 (x : Int)) := hc 1 _ rfl
      have hNz : ((N : Int) == 0) = false := by simp; omega
      have hNp : ¬ N = 0 := by omega
      have hNq : (0 : Int) < (N : Int) := by omega
      have hxq : (0 : Int) ≤ (x : Int) := by omega
      clear hc e1
      have lt0 : b < wr.heap.size := World.block_lt_of_cell? wr _ c0
      go_wp2
      go_region_held3 (fun w' => w'.cell? ⟨b, off + k * 2, none⟩ = some (.int .i64 o) ∧ w'.cell? ⟨b, off + k * 2 + 1, none⟩ = some (.int .u64 (x : Int))) (go_keep) (fail)
      go_wp2
      have hyN : x % N < N := Nat.mod_lt _ hN1
      rw [show (x : Int).tmod (N : Int) = ((x % N : Nat) : Int) from by rw [Int.tmod_eq_emod_of_nonneg (by omega)]; simp]
      clear hNp hNq hxq hNz
      clear c0 c1
      generalize x % N = y at hyN
      have HR1 := HR.open (.cells #[.int .i64 o, .int .u64 (y : Int)] 49)
      have hXb : (wr.alloc (.cells #[.int .i64 o, .int .u64 (y : Int)] 49)).heap[wr.heap.size]? = some (.cells #[.int .i64 o, .int .u64 (y : Int)] 49 (0, 0)) := heap_alloc_new wr _
      have hwX : w.heap.size ≤ wr.heap.size := HR.bel.size
      rw [World.drew_eq_drewN]
      generalize wr.heap.size = X1 at HR1 hXb hwX
      generalize wr.alloc (.cells #[.int .i64 o, .int .u64 (y : Int)] 49) = W1 at HR1 hXb
      clear HR
      have HI := reads_of_owns HR1.oi
      have hIb := HI.bound
      have hIl : ((runO L).1).length ≤ k := by
        have := runO_len1 L
        omega
      obtain ⟨aoi, capi, hvi⟩ := HI.form
      subst hvi
      have hWl : ((runO L).2).length ≤ k := by rw [runO_len]; exact hLk
      have HLK := Lib.hid hLk
      clear hLk
      generalize hP : runO L = P at HR1 HI hIb hIl hWl
      obtain ⟨l, outs⟩ := P
      have HP := Lib.hid hP
      clear hP
      simp only at HR1 HI hIb hIl hWl
      have x1c : W1.cell? ⟨X1, 1, none⟩ = some (.int .u64 (y : Int)) := block_cell hXb rfl
      go_loopw [11, 12] (fun hs j wr' => ∃ q : Nat, j = .int .i64 q ∧ q ≤ l.length ∧ hs = .int .u64 ((hasN y (l.take q) : Nat) : Int) ∧ ∃ nn, wr' = W1.drewN nn) (fun _ j _ => l.length - (intOf j).toNat)
      case atStart => exact ⟨0, rfl, Nat.zero_le _, by simp [hasN], 1, rfl⟩
      case round =>
        obtain ⟨q, rfl, hq, rfl, nn, rfl⟩ := hrel
        by_cases hlq : q < l.length
        · obtain ⟨bi, offi, _, z, hz, ez, z0'⟩ := Reads.one uV HI hlq
          cases hz
          have z0 : W1.cell? ⟨bi, offi + q, none⟩ = some (.int .u64 (z : Int)) := z0'
          have EZ := Lib.hid ez
          clear ez z0'
          by_cases c : z = y
          · have HK : Hid (hasN y (l.take (q + 1)) = 1) := Lib.hid (by rw [take_snoc' _ _ _ EZ.out]; simp [c, hasN])
            have cb : ((z : Int) == (y : Int)) = true := by simp [c]
            clear c
            go_wp2
            go_quiet (fail)
            go_wp2
            go_roundw
            case rel => exact ⟨q + 1, by go_num, by omega, by rw [HK.out]; rfl, _, rfl⟩
            case measure => simp [intOf]; omega
          · have HK : Hid (hasN y (l.take (q + 1)) = hasN y (l.take q)) := Lib.hid (by
              rw [take_snoc' _ _ _ EZ.out]
              have : ¬ y = z := fun e => c e.symm
              simp [this, hasN])
            have cb : ((z : Int) == (y : Int)) = false := by simp; omega
            clear c
            go_wp2
            go_quiet (fail)
            go_wp2
            go_roundw
            case rel => exact ⟨q + 1, by go_num, by omega, by rw [HK.out], _, rfl⟩
            case measure => simp [intOf]; omega
        · obtain rfl : q = l.length := by omega
          rw [List.take_of_length_le (Nat.le_refl _)]
          have HA := HR1.mod (below_draws W1 nn)
          have hXA : (W1.drewN nn).heap[X1]? = some (.cells #[.int .i64 o, .int .u64 (y : Int)] 49 (0, 0)) := hXb
          generalize W1.drewN nn = W2 at HA hXA
          have xa0 : W2.cell? ⟨X1, 0, none⟩ = some (.int .i64 o) := block_cell hXA rfl
          have xa1 : W2.cell? ⟨X1, 1, none⟩ = some (.int .u64 (y : Int)) := block_cell hXA rfl
          have xf0 : W2.frozen? ⟨X1, 0, none⟩ = false := block_free hXA
          have xf1 : W2.frozen? ⟨X1, 1, none⟩ = false := block_free hXA
          have xla := block_lt hXA
          clear x1c HR1 hXb hlq hq HI
          by_cases o0 : o = 0
          · subst o0
            have q0 : ((0 : Int) == 0) = true := rfl
            by_cases hy : y ∈ l
            · have hh : hasN y l = 1 := by simp [hasN, hy]
              have hhb : (((1 : Nat) : Int) == 1) = true := rfl
              rw [hh]
              clear hh hy
              go_wp2
              go_roundw
              case rel => exact ⟨k + 1, X1, L, by go_num, by omega, by rw [HP.out]; exact HA, HO, by have := HLK.out; omega⟩
              case measure => simp [intOf]; omega
            · have hh : hasN y l = 0 := by simp [hasN, hy]
              have hhb : (((0 : Nat) : Int) == 1) = false := rfl
              have HOK : Hid (ok1 N l (0, y)) := Lib.hid ⟨fun _ => ⟨hyN, hy⟩, fun h => by simp at h, fun h => by simp at h⟩
              rw [hh]
              clear hh hy
              go_wp2_with (first
                | (at_builtin; refine wpList_append_one rfl (.tmp 73) (.tmp 77) 47 rfl w.heap.size 46 _ 1 8 Try.underlying47 Try.info46 rfl (by decide) (by decide) _ _ _ rfl HA.ow #[uV (l.length)] _ _ rfl (by simp) rfl (by simp [Value.oneCell', uV]) (by omega) (by have := HA.bel.size; omega) ?_; intro ao5 cap5 w5 hown5 hgr5 hat5; have HB := HA.appW _ _ hgr5 hown5 hat5; have hXA5 := keepX hXA hgr5 HA.nx.2.1; have xc05 : w5.cell? ⟨X1, 0, none⟩ = some (.int .i64 0) := block_cell hXA5 rfl; have xc15 : w5.cell? ⟨X1, 1, none⟩ = some (.int .u64 (y : Int)) := block_cell hXA5 rfl; have xl5 := block_lt hXA5)
                | (at_builtin; refine wpList_append_one rfl (.tmp 79) (.tmp 82) 47 rfl w.heap.size 46 _ 1 8 Try.underlying47 Try.info46 rfl (by decide) (by decide) _ _ _ rfl HB.oi #[uV (y)] _ _ rfl (by simp) rfl (by simp [Value.oneCell', uV]) (by omega) (by have := HB.bel.size; omega) ?_; intro ao6 cap6 w6 hown6 hgr6 hat6; have HC := HB.appI _ _ hgr6 hown6 hat6; have hXA56 := keepX hXA5 hgr6 HB.nx.2.2; have xc06 : w6.cell? ⟨X1, 0, none⟩ = some (.int .i64 0) := block_cell hXA56 rfl; have xc16 : w6.cell? ⟨X1, 1, none⟩ = some (.int .u64 (y : Int)) := block_cell hXA56 rfl; have xl6 := block_lt hXA56)
                | (at_builtin; refine wpList_append_one rfl (.tmp 116) (.tmp 118) 45 rfl w.heap.size 49 _ 2 16 Try.underlying45 Try.info49 rfl (by decide) (by decide) _ _ _ rfl HC.os #[.int .i64 ((0, y)).1, .int .u64 ((((0, y)).2 : Nat) : Int)] _ _ rfl (by simp) rfl (by simp [Value.oneCell']) (by have := HLK.out; omega) (by have := HC.bel.size; omega) ?_; intro ao7 cap7 w7 hown7 hgr7 hat7; have HD := HC.appS ((0, y)) _ hgr7 hown7 hat7))
              go_roundw
              case rel => exact ⟨k + 1, X1, L ++ [(0, y)], by go_num, by omega, by rw [runO_snoc, HP.out, show stepO (l, outs) (0, y) = (l ++ [y], outs ++ [l.length]) from by simp [stepO, next1, out1]]; exact HD, Lib.hid (okAll_snoc HO.out (by rw [HP.out]; exact HOK.out)), by have := HLK.out; simp; omega⟩
              case measure => simp [intOf]; omega
          · have q0 : (o == 0) = false := by simpa using o0
            by_cases o1 : o = 1
            · subst o1
              have q1 : ((1 : Int) == 1) = true := rfl
              have HOK : Hid (ok1 N l (1, y)) := Lib.hid ⟨fun h => by simp at h, fun _ => hyN, fun h => by simp at h⟩
              clear o0
              generalize hh : hasN y l = hs
              have HH := Lib.hid hh
              clear hh
              go_wp2_with (first
                | (at_builtin; refine wpList_append_one rfl (.tmp 86) (.tmp 88) 47 rfl w.heap.size 46 _ 1 8 Try.underlying47 Try.info46 rfl (by decide) (by decide) _ _ _ rfl HA.ow #[uV (hs)] _ _ rfl (by simp) rfl (by simp [Value.oneCell', uV]) (by omega) (by have := HA.bel.size; omega) ?_; intro ao5 cap5 w5 hown5 hgr5 hat5; have HB := HA.appW _ _ hgr5 hown5 hat5; have hXA5 := keepX hXA hgr5 HA.nx.2.1; have xc05 : w5.cell? ⟨X1, 0, none⟩ = some (.int .i64 1) := block_cell hXA5 rfl; have xc15 : w5.cell? ⟨X1, 1, none⟩ = some (.int .u64 (y : Int)) := block_cell hXA5 rfl; have xl5 := block_lt hXA5)
                | (at_builtin; refine wpList_append_one rfl (.tmp 116) (.tmp 118) 45 rfl w.heap.size 49 _ 2 16 Try.underlying45 Try.info49 rfl (by decide) (by decide) _ _ _ rfl HB.os #[.int .i64 ((1, y)).1, .int .u64 ((((1, y)).2 : Nat) : Int)] _ _ rfl (by simp) rfl (by simp [Value.oneCell']) (by have := HLK.out; omega) (by have := HB.bel.size; omega) ?_; intro ao7 cap7 w7 hown7 hgr7 hat7; have HD := HB.appS ((1, y)) _ hgr7 hown7 hat7))
              go_roundw
              case rel => exact ⟨k + 1, X1, L ++ [(1, y)], by go_num, by omega, by rw [runO_snoc, HP.out, show stepO (l, outs) (1, y) = (l, outs ++ [hs]) from by rw [← HH.out]; simp [stepO, next1, out1, hasN]]; exact HD, Lib.hid (okAll_snoc HO.out (by rw [HP.out]; exact HOK.out)), by have := HLK.out; simp; omega⟩
              case measure => simp [intOf]; omega
            · have q1 : (o == 1) = false := by simpa using o1
              by_cases o2 : o = 2
              · subst o2
                have q2 : ((2 : Int) == 2) = true := rfl
                clear o0 o1
                by_cases hl0 : l.length = 0
                · have hl0b : ((l.length : Int) == 0) = true := beq_iff_eq.2 (by omega)
                  clear hl0
                  go_wp2
                  go_roundw
                  case rel => exact ⟨k + 1, X1, L, by go_num, by omega, by rw [HP.out]; exact HA, HO, by have := HLK.out; omega⟩
                  case measure => simp [intOf]; omega
                · have hl0b : ((l.length : Int) == 0) = false := beq_eq_false_iff_ne.2 (by omega)
                  have hzl : y % l.length < l.length := Nat.mod_lt _ (by omega)
                  have hmz : ((y : Int) % (l.length : Int)) = ((y % l.length : Nat) : Int) := by simp
                  generalize y % l.length = z at hzl hmz
                  have HI := reads_of_owns HA.oi
                  obtain ⟨bi, offi, _, u, hz, ez, z0'⟩ := Reads.one uV HI hzl
                  cases hz
                  have z0 : W2.cell? ⟨bi, offi + z, none⟩ = some (.int .u64 (u : Int)) := z0'
                  have HU := Lib.hid ez
                  have zl : bi < W2.heap.size := World.block_lt_of_cell? W2 _ z0
                  have zx : bi ≠ X1 := fun e => HA.nx.2.2 (by simp [Value.ownBlock, e])
                  have HOK : Hid (ok1 N l (2, z)) := Lib.hid ⟨fun h => by simp at h, fun h => by simp at h, fun _ => hzl⟩
                  clear ez z0'
                  have HS := HA.setX hwX 1 (.int .u64 (z : Int))
                  have hXS : (W2.setCell ⟨X1, 1, none⟩ (.int .u64 (z : Int))).heap[X1]? = some (.cells #[.int .i64 2, .int .u64 (z : Int)] 49 (0, 0)) := block_set hXA
                  go_wp2_with (first
                    | (at_builtin; refine wpList_append_one rfl (.tmp 102) (.tmp 109) 47 rfl w.heap.size 46 _ 1 8 Try.underlying47 Try.info46 rfl (by decide) (by decide) _ _ _ rfl HS.ow #[uV (u)] _ _ rfl (by simp) rfl (by simp [Value.oneCell', uV]) (by omega) (by have := HS.bel.size; omega) ?_; intro ao5 cap5 w5 hown5 hgr5 hat5; have HB := HS.appW _ _ hgr5 hown5 hat5; have hXS5 := keepX hXS hgr5 HS.nx.2.1; have xc05 : w5.cell? ⟨X1, 0, none⟩ = some (.int .i64 2) := block_cell hXS5 rfl; have xc15 : w5.cell? ⟨X1, 1, none⟩ = some (.int .u64 (z : Int)) := block_cell hXS5 rfl; have xl5 := block_lt hXS5)
                    | (at_builtin; refine wpList_append_one rfl (.tmp 116) (.tmp 118) 45 rfl w.heap.size 49 _ 2 16 Try.underlying45 Try.info49 rfl (by decide) (by decide) _ _ _ rfl HB.os #[.int .i64 ((2, z)).1, .int .u64 ((((2, z)).2 : Nat) : Int)] _ _ rfl (by simp) rfl (by simp [Value.oneCell']) (by have := HLK.out; omega) (by have := HB.bel.size; omega) ?_; intro ao7 cap7 w7 hown7 hgr7 hat7; have HD := HB.appS ((2, z)) _ hgr7 hown7 hat7))
                  go_roundw
                  case rel => exact ⟨k + 1, X1, L ++ [(2, z)], by go_num, by omega, by rw [runO_snoc, HP.out, show stepO (l, outs) (2, z) = (l, outs ++ [u]) from by simp [stepO, next1, out1, HU.out]]; exact HD, Lib.hid (okAll_snoc HO.out (by rw [HP.out]; exact HOK.out)), by have := HLK.out; simp; omega⟩
                  case measure => simp [intOf]; omega
              · have q2 : (o == 2) = false := by simpa using o2
                by_cases o3 : o = 3
                · subst o3
                  have q3 : ((3 : Int) == 3) = true := rfl
                  have HOK : Hid (ok1 N l (3, y)) := Lib.hid ⟨fun h => by simp at h, fun h => by simp at h, fun h => by simp at h⟩
                  clear o0 o1 o2
                  go_wp2_with (first
                    | (at_builtin; refine wpList_append_one rfl (.tmp 113) (.tmp 114) 47 rfl w.heap.size 46 _ 1 8 Try.underlying47 Try.info46 rfl (by decide) (by decide) _ _ _ rfl HA.ow #[uV (0)] _ _ rfl (by simp) rfl (by simp [Value.oneCell', uV]) (by omega) (by have := HA.bel.size; omega) ?_; intro ao5 cap5 w5 hown5 hgr5 hat5; have HB := HA.appW _ _ hgr5 hown5 hat5; have hXA5 := keepX hXA hgr5 HA.nx.2.1; have xc05 : w5.cell? ⟨X1, 0, none⟩ = some (.int .i64 3) := block_cell hXA5 rfl; have xc15 : w5.cell? ⟨X1, 1, none⟩ = some (.int .u64 (y : Int)) := block_cell hXA5 rfl; have xl5 := block_lt hXA5; have HC := HB.clr)
                    | (at_builtin; refine wpList_append_one rfl (.tmp 116) (.tmp 118) 45 rfl w.heap.size 49 _ 2 16 Try.underlying45 Try.info49 rfl (by decide) (by decide) _ _ _ rfl HC.os #[.int .i64 ((3, y)).1, .int .u64 ((((3, y)).2 : Nat) : Int)] _ _ rfl (by simp) rfl (by simp [Value.oneCell']) (by have := HLK.out; omega) (by have := HC.bel.size; omega) ?_; intro ao7 cap7 w7 hown7 hgr7 hat7; have HD := HC.appS ((3, y)) _ hgr7 hown7 hat7))
                  go_roundw
                  case rel => exact ⟨k + 1, X1, L ++ [(3, y)], by go_num, by omega, by rw [runO_snoc, HP.out, show stepO (l, outs) (3, y) = ([], outs ++ [0]) from by simp [stepO, next1, out1]]; exact HD, Lib.hid (okAll_snoc HO.out (by rw [HP.out]; exact HOK.out)), by have := HLK.out; simp; omega⟩
                  case measure => simp [intOf]; omega
                · have q3 : (o == 3) = false := by simpa using o3
                  have HOK : Hid (ok1 N l (4, 0)) := Lib.hid ⟨fun h => by simp at h, fun h => by simp at h, fun h => by simp at h⟩
                  have HS := (HA.setX hwX 0 (.int .i64 4)).setX hwX 1 (.int .u64 0)
                  have hXS : ((W2.setCell ⟨X1, 0, none⟩ (.int .i64 4)).setCell ⟨X1, 1, none⟩ (.int .u64 0)).heap[X1]? = some (.cells #[.int .i64 4, .int .u64 0] 49 (0, 0)) := block_set (block_set hXA)
                  clear o0 o1 o2 o3
                  go_wp2_with (first
                    | (at_builtin; refine wpList_append_one rfl (.tmp 63) (.tmp 67) 47 rfl w.heap.size 46 _ 1 8 Try.underlying47 Try.info46 rfl (by decide) (by decide) _ _ _ rfl HS.ow #[uV (l.length)] _ _ rfl (by simp) rfl (by simp [Value.oneCell', uV]) (by omega) (by have := HS.bel.size; omega) ?_; intro ao5 cap5 w5 hown5 hgr5 hat5; have HB := HS.appW _ _ hgr5 hown5 hat5; have hXS5 := keepX hXS hgr5 HS.nx.2.1; have xc05 : w5.cell? ⟨X1, 0, none⟩ = some (.int .i64 4) := block_cell hXS5 rfl; have xc15 : w5.cell? ⟨X1, 1, none⟩ = some (.int .u64 0) := block_cell hXS5 rfl; have xl5 := block_lt hXS5)
                    | (at_builtin; refine wpList_append_one rfl (.tmp 116) (.tmp 118) 45 rfl w.heap.size 49 _ 2 16 Try.underlying45 Try.info49 rfl (by decide) (by decide) _ _ _ rfl HB.os #[.int .i64 ((4, 0)).1, .int .u64 ((((4, 0)).2 : Nat) : Int)] _ _ rfl (by simp) rfl (by simp [Value.oneCell']) (by have := HLK.out; omega) (by have := HB.bel.size; omega) ?_; intro ao7 cap7 w7 hown7 hgr7 hat7; have HD := HB.appS ((4, 0)) _ hgr7 hown7 hat7))
                  go_roundw
                  case rel => exact ⟨k + 1, X1, L ++ [(4, 0)], by go_num, by omega, by rw [runO_snoc, HP.out, show stepO (l, outs) (4, 0) = (l, outs ++ [l.length]) from by simp [stepO, next1, out1]]; exact HD, Lib.hid (okAll_snoc HO.out (by rw [HP.out]; exact HOK.out)), by have := HLK.out; simp; omega⟩
                  case measure => simp [intOf]; omega
    · have hlen : (runO (L ++ [(4, 0)])).2 = (runO L).2 ++ [((runO L).1).length] := by rw [runO_snoc]; simp [stepO, out1]
      have hIl : ((runO L).1).length ≤ k := by
        have := runO_len1 L
        omega
      have hol : (runO L).2.length = L.length := runO_len L
      have HO2 : Hid (okAll N (L ++ [(4, 0)])) := Lib.hid (okAll_snoc HO.out ⟨fun h => by simp at h, fun h => by simp at h, fun h => by simp at h⟩)
      generalize runO L = P at HR hlen hIl hol
      obtain ⟨l, outs⟩ := P
      simp only at HR hlen hIl hol
      have hWl : outs.length ≤ k := by omega
      have hIb := (reads_of_owns HR.oi).bound
      have hIf := (reads_of_owns HR.oi).form
      obtain ⟨aoi, capi, rfl⟩ := hIf
      have HLK := Lib.hid hLk
      have HLEN := Lib.hid hlen
      have HOL := Lib.hid hol
      have hX := HR.hX
      have hsz := HR.bel.size
      have hne : ((L.length : Int) + 1 != (outs.length : Int) + 1) = false := by simp [hol]
      clear hlen hol HO
      have hcs : (decide (k < m) = false) ∨ ((decide (k < m) = true) ∧ decide ((k : Int) < 2000) = false) := by
        simp
        omega
      clear hlt
      rcases hcs with hd1 | ⟨hd1, hd2⟩
      all_goals
        go_wp2_with (first
          | (at_builtin; refine wpList_append_one rfl (.tmp 120) (.tmp 122) 45 rfl w.heap.size 49 _ 2 16 Try.underlying45 Try.info49 rfl (by decide) (by decide) _ _ _ rfl HR.os #[.int .i64 (4 : Int), .int .u64 (0 : Int)] _ _ rfl (by simp) rfl (by simp [Value.oneCell']) (by have := HLK.out; omega) (by omega) ?_; intro ao5 cap5 w5 hown5 hgr5 hat5; have HB := HR.appS (4, 0) _ hgr5 hown5 hat5; have hsz5 := HB.bel.size)
          | (at_builtin; refine wpList_append_one rfl (.tmp 124) (.tmp 128) 47 rfl w.heap.size 46 _ 1 8 Try.underlying47 Try.info46 rfl (by decide) (by decide) _ _ _ rfl HB.ow #[uV l.length] _ _ rfl (by simp) rfl (by simp [Value.oneCell', uV]) (by omega) (by omega) ?_; intro ao6 cap6 w6 hown6 hgr6 hat6; have HC := HB.appW _ _ hgr6 hown6 hat6; clear hown5 hgr5 hat5 hown6 hgr6 hat6 HR HB)
          | (fail))
        refine (sparse_any N _ _ (L ++ [(4, 0)]) _ (reads_of_owns HC.os) (by omega) (by have := HLK.out; simp; omega) HO2.out).mono ?_
        rintro e w7 ⟨ao7, cap7, rfl, hr7, hb7⟩
        have hW7 : Reads w7 (.slice ao6 (outs.length + 1) cap6) (outs.length + 1) 1 ((outs ++ [l.length]).map uV) := by
          have := (reads_of_owns HC.ow).below hb7
          simpa using this
        have hG7 : Reads w7 (.slice ao7 (L ++ [(4, 0)]).length cap7) (L ++ [(4, 0)]).length 1 ((outs ++ [l.length]).map uV) := by rw [← HLEN.out]; exact hr7
        have hb8 : Below w.heap.size w w7 := HC.bel.trans (hb7.mono HC.bel.size)
        rw [show (L ++ [((4 : Int), (0 : Nat))]).length = L.length + 1 from by simp] at hG7 ⊢
        clear hr7 HC hb7 hne
        rw [show L.length = outs.length from HOL.out.symm] at hG7 ⊢
        have hne : ((outs.length : Int) + 1 != (outs.length : Int) + 1) = false := by simp
        go_wp2_with fail
        go_loopw [14] (fun i wr' => ∃ q : Nat, i = .int .i64 q ∧ q ≤ outs.length + 1 ∧ ∃ nn, wr' = w7.drewN nn) (fun i _ => outs.length + 1 - (intOf i).toNat)
        case atStart => exact ⟨0, rfl, Nat.zero_le _, 0, rfl⟩
        case round =>
          obtain ⟨q, rfl, hq, nn, rfl⟩ := hrel
          by_cases hlq : q < outs.length + 1
          · obtain ⟨b7, o7, _, u7, hz7, ez7, z7'⟩ := Reads.one uV hW7 hlq
            obtain ⟨b8, o8, _, u8, hz8, ez8, z8'⟩ := Reads.one uV hG7 hlq
            cases hz7
            cases hz8
            rw [ez7] at ez8
            cases ez8
            have z7 : w7.cell? ⟨b7, o7 + q, none⟩ = some (.int .u64 (u7 : Int)) := z7'
            have z8 : w7.cell? ⟨b8, o8 + q, none⟩ = some (.int .u64 (u7 : Int)) := z8'
            clear ez7 z7' z8'
            have hnn : ((u7 : Int) != (u7 : Int)) = false := by simp
            go_wp2
            go_quiet (fail)
            go_wp2
            go_roundw
            case rel => exact ⟨q + 1, by go_num, by omega, _, rfl⟩
            case measure => simp [intOf]; omega
          · go_wp2
            go_ret
            exact ⟨rfl, below_drewN hb8 _⟩
theorem law_any (n0 : Int) (v : Value) (m : Nat) (R : List Step) (w : World) (h0 : 0 ≤ n0) (h1 : n0 ≤ 255) (h : Reads w v m 2 (R.flatMap stepCells)) :
    Calls Try.prog 10 #[.int .u8 n0, v] w fun e w' => e = .returned (.bool true) ∧ Below w.heap.size w w' := by
  obtain ⟨n, rfl⟩ := Int.eq_ofNat_of_zero_le h0
  by_cases hm : m ≤ 65536
  · exact law_on n (n + 1) v m R w hm (by omega) rfl (by omega) (by omega) h
  · obtain ⟨ao, cap, rfl⟩ := h.form
    exact law_big _ _ _ _ _ (by omega)
end Go.Proofs.Ytjnfhcagfgbmnaa.Sparse
