/- impl.SparseSet: the steps with a set, one after the other. -/
import Derived.Test.YtjnfhcagfgbmnaaSparse
namespace Go.Proofs.Ytjnfhcagfgbmnaa.Sparse
open Go.ChangeShapes Go.WideShapes Go.ChangeAt Go.RowKit Go.Trav Go.Sort
set_option linter.unusedVariables false

abbrev Step := Int × Nat
def stepCells (s : Step) : List Value := [.int .i64 s.1, .int .u64 (s.2 : Int)]
theorem stepCells_len (s : Step) : (stepCells s).length = 2 := rfl
def out1 (l : List Nat) (s : Step) : Nat := if s.1 = 0 then l.length else if s.1 = 1 then (if s.2 ∈ l then 1 else 0) else if s.1 = 2 then l[s.2]?.getD 0 else if s.1 = 3 then 0 else l.length
def next1 (l : List Nat) (s : Step) : List Nat := if s.1 = 0 then l ++ [s.2] else if s.1 = 3 then [] else l
def ok1 (n : Nat) (l : List Nat) (s : Step) : Prop := (s.1 = 0 → s.2 < n ∧ s.2 ∉ l) ∧ (s.1 = 1 → s.2 < n) ∧ (s.1 = 2 → s.2 < l.length)
def stepO (p : List Nat × List Nat) (s : Step) : List Nat × List Nat := (next1 p.1 s, p.2 ++ [out1 p.1 s])
def runO (L : List Step) : List Nat × List Nat := L.foldl stepO ([], [])
theorem runO_snoc (L : List Step) (s : Step) : runO (L ++ [s]) = stepO (runO L) s := by simp [runO]
def okAll (n : Nat) (L : List Step) : Prop := ∀ k s, L[k]? = some s → ok1 n (runO (L.take k)).1 s
theorem runO_len (L : List Step) : (runO L).2.length = L.length := by
  have : ∀ (L : List Step) (p : List Nat × List Nat), (L.foldl stepO p).2.length = p.2.length + L.length := by
    intro L
    induction L with
    | nil => intro p; simp
    | cons s r ih => intro p; simp [ih, stepO]; omega
  have := this L ([], [])
  simpa [runO] using this

structure SR (w wr : World) (B bd bs n : Nat) (v : Value) (l outs : List Nat) : Prop where
  bel : Below w.heap.size w wr
  set : ∃ ds ss sz, SetAt wr B bd bs n ds ss sz ∧ IsSet n ds ss sz l
  hB : w.heap.size ≤ B ∧ w.heap.size ≤ bd ∧ w.heap.size ≤ bs
  own : wr.ownsRow w.heap.size 46 1 v outs.length (outs.map uV)
  ap : v.ownBlock ≠ some B ∧ v.ownBlock ≠ some bd ∧ v.ownBlock ≠ some bs
theorem SetAt.mod {w w' : World} {F : Nat → Prop} {B bd bs n : Nat} {ds ss : List Nat} {sz : Nat} (h : SetAt w B bd bs n ds ss sz) (hm : Mod F w w') (hB : ¬ F B) (hd : ¬ F bd) (hs : ¬ F bs) : SetAt w' B bd bs n ds ss sz :=
  ⟨hm.heap h.blk hB, hm.heap h.dn hd, hm.heap h.sp hs, h.dl, h.sl, h.ne⟩
theorem SR.below {w wr w1 : World} {B bd bs n : Nat} {v : Value} {l outs : List Nat} (h : SR w wr B bd bs n v l outs) (hb : Below wr.heap.size wr w1) : SR w w1 B bd bs n v l outs := by
  obtain ⟨ds, ss, sz, h1, h2⟩ := h.set
  exact ⟨h.bel.trans (hb.mono h.bel.size), ⟨ds, ss, sz, h1.mod (F := fun _ => False) (Mod.of_below hb) (fun x => x) (fun x => x) (fun x => x), h2⟩, h.hB, ownsRow_mod (F := fun _ => False) h.own (Mod.of_below hb) (fun _ _ x => x), h.ap⟩
theorem SR.alloc {w wr : World} {B bd bs n : Nat} {v : Value} {l outs : List Nat} (h : SR w wr B bd bs n v l outs) (o : Obj) : SR w (wr.alloc o) B bd bs n v l outs :=
  h.below ((Below.refl _ _).alloc (Nat.le_refl _) _)
theorem SR.upd {w wr w1 : World} {B bd bs n : Nat} {v : Value} {l l' outs : List Nat} (h : SR w wr B bd bs n v l outs) (hm : Mod (fun k => k = B ∨ k = bd ∨ k = bs) wr w1) {ds ss : List Nat} {sz : Nat} (h1 : SetAt w1 B bd bs n ds ss sz) (h2 : IsSet n ds ss sz l') : SR w w1 B bd bs n v l' outs := by
  refine ⟨h.bel.trans (hm.toBelow h.bel.size fun k _ hk => ?_), ⟨ds, ss, sz, h1, h2⟩, h.hB, ownsRow_mod h.own hm fun g hg hk => ?_, h.ap⟩
  · obtain ⟨a, b, c⟩ := h.hB
    rcases hk with rfl | rfl | rfl <;> assumption
  · obtain ⟨a, b, c⟩ := h.ap
    rcases hk with rfl | rfl | rfl
    · exact a hg
    · exact b hg
    · exact c hg
theorem SR.app {w wr w1 : World} {B bd bs n : Nat} {v v' : Value} {l outs : List Nat} (h : SR w wr B bd bs n v l outs) (o : Nat) (T : TypeId) (hg : (wr.alloc (.cells #[uV o] T)).grownBy w1 v.ownBlock)
    (hown : w1.ownsRow w.heap.size 46 1 v' (outs.length + 1) (outs.map uV ++ #[uV o].toList)) (hat : v'.ownBlock = v.ownBlock ∨ v'.ownBlock = some (wr.heap.size + 1)) : SR w w1 B bd bs n v' l (outs ++ [o]) := by
  have hm : Mod (fun k => v.ownBlock = some k) wr w1 := ((Mod.refl _ wr).alloc _).grown hg (fun k hk _ => hk)
  obtain ⟨ds, ss, sz, h1, h2⟩ := h.set
  have l1 := block_lt h1.blk
  have l2 := block_lt h1.dn
  have l3 := block_lt h1.sp
  obtain ⟨a1, a2, a3⟩ := h.ap
  refine ⟨h.bel.trans (hm.toBelow h.bel.size fun k _ hk => (h.own.lt k hk).1), ⟨ds, ss, sz, h1.mod hm a1 a2 a3, h2⟩, h.hB, by simpa using hown, ?_⟩
  rcases hat with e | e
  · rw [e]; exact ⟨a1, a2, a3⟩
  · rw [e]; simp; omega
theorem sparse_any (n m : Nat) (v : Value) (L : List Step) (w : World) (h : Reads w v m 2 (L.flatMap stepCells)) (hn : n ≤ 35184372088832) (hm : m ≤ 1000000) (hok : okAll n L) :
    Calls Try.prog 24 #[.int .u64 (n : Int), v] w fun e w' => ∃ ao cap, e = .returned (.slice ao L.length cap) ∧ Reads w' (.slice ao L.length cap) L.length 1 ((runO L).2.map uV) ∧ Below w.heap.size w w' := by
  have hlen : Hid (L.length = m) := Lib.hid (Reads.recs stepCells stepCells_len h (by omega))
  obtain ⟨ao, cap, rfl⟩ := h.form
  have HOK := Lib.hid hok
  clear hok
  go_enter Try.func24, Try.ntmps24
  go_wp2_with fail
  refine (zznew_any n _ hn).mono ?_
  rintro e w1 ⟨B, bd, bs, rfl, hset, hb1, q1, q2, q3⟩
  have H0 : SR w w1 B bd bs n (.slice none 0 0) [] [] := ⟨hb1, ⟨_, _, _, hset, isSet_new n⟩, ⟨q1, q2, q3⟩, World.ownsRow_nil _ _ _ _, by simp [Value.ownBlock]⟩
  clear hset hb1
  go_wp2_with fail
  go_loopw [6, 14] (fun u i wr => ∃ k : Nat, i = .int .i64 k ∧ k ≤ m ∧ SR w wr B bd bs n u (runO (L.take k)).1 (runO (L.take k)).2) (fun _ i _ => m - (intOf i).toNat)
  case atStart => exact ⟨0, rfl, Nat.zero_le _, H0⟩
  case round =>
    obtain ⟨k, rfl, hk, HS⟩ := hrel
    by_cases hlt : k < m
    · obtain ⟨b, off, _, ⟨o, x⟩, hx, e1, hc⟩ := Reads.rec stepCells stepCells_len (h.below HS.bel) (by omega) hlt
      cases hx
      have c0 : wr.cell? ⟨b, off + k * 2, none⟩ = some (.int .i64 o) := hc 0 _ rfl
      have c1 : wr.cell? ⟨b, off + k * 2 + 1, none⟩ = some (.int .u64 (x : Int)) := hc 1 _ rfl
      have HK := HOK.out k _ e1
      have HE := Lib.hid (take_snoc' _ _ _ e1)
      clear hc e1
      have HO : (runO (L.take k)).2.length < 68719476736 := by rw [runO_len]; simp; omega
      generalize hP : runO (L.take k) = P at HO HS HK
      obtain ⟨l, outs⟩ := P
      have HP := Lib.hid hP
      clear hP
      have HS1 := HS.alloc (.cells #[.int .i64 o, .int .u64 (x : Int)] 49)
      obtain ⟨ds, ss, sz, h1, h2⟩ := HS1.set
      have hle := h2.le
      have hsl := Lib.hid h2.len
      have lt0 : b < wr.heap.size := World.block_lt_of_cell? wr _ c0
      simp only at HO HK HS HS1 h2 hsl
      by_cases o0 : o = 0
      · subst o0
        obtain ⟨hx, hm⟩ := HK.1 rfl
        have hr := h2.room hx hm
        have q0 : ((0 : Int) == 0) = true := rfl
        go_wp2_with (first
          | (go_at_call 36; refine (add_any _ _ _ _ _ _ _ _ _ h1 hx hr hn).mono ?_; rintro e w2 ⟨rfl, h1', m1⟩; have HS2 := HS1.upd m1 h1' (h2.add hx hm))
          | (at_builtin; refine wpList_append_one rfl _ _ 47 rfl w.heap.size 46 _ 1 8 Try.underlying47 Try.info46 rfl (by decide) (by decide) _ _ _ rfl HS2.own #[uV sz] _ _ rfl (by simp) rfl (by simp [Value.oneCell', uV]) (by omega) (by have := HS2.bel.size; omega) ?_; intro ao cap w3 hown' hgr hat; have HS3 := HS2.app _ _ hgr hown' hat))
        go_roundw
        case rel => exact ⟨k + 1, by go_num, by omega, by rw [HE.out, runO_snoc, HP.out, show stepO (l, outs) (0, x) = (l ++ [x], outs ++ [sz]) from by simp [stepO, next1, out1, hsl.out]]; exact HS3⟩
        case measure => simp [intOf]; omega
      · have q0 : (o == 0) = false := by simpa using o0
        by_cases o1 : o = 1
        · subst o1
          have hx := HK.2.1 rfl
          have q1 : ((1 : Int) == 1) = true := rfl
          have q10 : ((1 : Int) == 0) = false := rfl
          by_cases hm : x ∈ l
          · have hd : Hid (decide (x ∈ l) = true) := Lib.hid (by simpa using hm)
            have HM := Lib.hid hm
            clear hm o0 q0
            go_wp2_with (first
              | (go_at_call 37; refine (contains_any _ _ _ _ _ _ _ _ _ _ h1 h2 hx hn).mono ?_; rintro e w2 ⟨rfl, rfl⟩; rw [hd.out])
              | (at_builtin; refine wpList_append_one rfl _ _ 47 rfl w.heap.size 46 _ 1 8 Try.underlying47 Try.info46 rfl (by decide) (by decide) _ _ _ rfl HS1.own #[uV 1] _ _ rfl (by simp) rfl (by simp [Value.oneCell', uV]) (by omega) (by have := HS1.bel.size; omega) ?_; intro ao cap w3 hown' hgr hat; have HS3 := HS1.app _ _ hgr hown' hat))
            go_roundw
            case rel => exact ⟨k + 1, by go_num, by omega, by rw [HE.out, runO_snoc, HP.out, show stepO (l, outs) (1, x) = (l, outs ++ [1]) from by simp [stepO, next1, out1, HM.out]]; exact HS3⟩
            case measure => simp [intOf]; omega
          · have hd : Hid (decide (x ∈ l) = false) := Lib.hid (by simpa using hm)
            have HM := Lib.hid hm
            clear hm o0 q0
            go_wp2_with (first
              | (go_at_call 37; refine (contains_any _ _ _ _ _ _ _ _ _ _ h1 h2 hx hn).mono ?_; rintro e w2 ⟨rfl, rfl⟩; rw [hd.out])
              | (at_builtin; refine wpList_append_one rfl _ _ 47 rfl w.heap.size 46 _ 1 8 Try.underlying47 Try.info46 rfl (by decide) (by decide) _ _ _ rfl HS1.own #[uV 0] _ _ rfl (by simp) rfl (by simp [Value.oneCell', uV]) (by omega) (by have := HS1.bel.size; omega) ?_; intro ao cap w3 hown' hgr hat; have HS3 := HS1.app _ _ hgr hown' hat))
            go_roundw
            case rel => exact ⟨k + 1, by go_num, by omega, by rw [HE.out, runO_snoc, HP.out, show stepO (l, outs) (1, x) = (l, outs ++ [0]) from by simp [stepO, next1, out1, HM.out]]; exact HS3⟩
            case measure => simp [intOf]; omega
        · have q1 : (o == 1) = false := by simpa using o1
          by_cases o2 : o = 2
          · subst o2
            have hx := HK.2.2 rfl
            have hxl : l[x]? = some (l[x]?.getD 0) := by simp [List.getElem?_eq_getElem hx]
            generalize hy : l[x]?.getD 0 = y at hxl
            have HY := Lib.hid hy
            have HXL := Lib.hid hxl
            clear hy hxl
            have q2 : ((2 : Int) == 2) = true := rfl
            go_wp2_with (first
              | (go_at_call 38; refine (get_any _ _ _ _ _ _ _ _ _ _ _ h1 h2 HXL.out hn).mono ?_; rintro e w2 ⟨rfl, rfl⟩)
              | (at_builtin; refine wpList_append_one rfl _ _ 47 rfl w.heap.size 46 _ 1 8 Try.underlying47 Try.info46 rfl (by decide) (by decide) _ _ _ rfl HS1.own #[uV y] _ _ rfl (by simp) rfl (by simp [Value.oneCell', uV]) (by omega) (by have := HS1.bel.size; omega) ?_; intro ao cap w3 hown' hgr hat; have HS3 := HS1.app _ _ hgr hown' hat))
            go_roundw
            case rel => exact ⟨k + 1, by go_num, by omega, by rw [HE.out, runO_snoc, HP.out, show stepO (l, outs) (2, x) = (l, outs ++ [y]) from by simp [stepO, next1, out1, HXL.out]]; exact HS3⟩
            case measure => simp [intOf]; omega
          · have q2 : (o == 2) = false := by simpa using o2
            by_cases o3 : o = 3
            · subst o3
              have q3 : ((3 : Int) == 3) = true := rfl
              go_wp2_with (first
                | (go_at_call 39; refine (clear_any _ _ _ _ _ _ _ _ h1).mono ?_; rintro e w2 ⟨rfl, h1', m1⟩; have HS2 := HS1.upd m1 h1' h2.clear)
                | (at_builtin; refine wpList_append_one rfl _ _ 47 rfl w.heap.size 46 _ 1 8 Try.underlying47 Try.info46 rfl (by decide) (by decide) _ _ _ rfl HS2.own #[uV 0] _ _ rfl (by simp) rfl (by simp [Value.oneCell', uV]) (by omega) (by have := HS2.bel.size; omega) ?_; intro ao cap w3 hown' hgr hat; have HS3 := HS2.app _ _ hgr hown' hat))
              go_roundw
              case rel => exact ⟨k + 1, by go_num, by omega, by rw [HE.out, runO_snoc, HP.out, show stepO (l, outs) (3, x) = ([], outs ++ [0]) from by simp [stepO, next1, out1]]; exact HS3⟩
              case measure => simp [intOf]; omega
            · have q3 : (o == 3) = false := by simpa using o3
              have HO0 := Lib.hid o0
              have HO1 := Lib.hid o1
              have HO2 := Lib.hid o2
              have HO3 := Lib.hid o3
              clear o0 o1 o2 o3
              go_wp2_with (first
                | (go_at_call 40; refine (len_any _ _ _ _ _ _ _ _ h1 hle hn).mono ?_; rintro e w2 ⟨rfl, rfl⟩)
                | (at_builtin; refine wpList_append_one rfl _ _ 47 rfl w.heap.size 46 _ 1 8 Try.underlying47 Try.info46 rfl (by decide) (by decide) _ _ _ rfl HS1.own #[uV sz] _ _ rfl (by simp) rfl (by simp [Value.oneCell', uV]) (by omega) (by have := HS1.bel.size; omega) ?_; intro ao cap w3 hown' hgr hat; have HS3 := HS1.app _ _ hgr hown' hat))
              go_roundw
              case rel => exact ⟨k + 1, by go_num, by omega, by rw [HE.out, runO_snoc, HP.out, show stepO (l, outs) (o, x) = (l, outs ++ [sz]) from by simp [stepO, next1, out1, hsl.out, HO0.out, HO1.out, HO2.out, HO3.out]]; exact HS3⟩
              case measure => simp [intOf]; omega
    · obtain rfl : k = m := by omega
      rw [List.take_of_length_le (by rw [hlen.out]; exact Nat.le_refl _)] at HS
      have hr := reads_of_owns HS.own
      rw [runO_len] at hr
      obtain ⟨ao', cap', rfl⟩ := hr.form
      go_wp2_with fail
      go_ret
      exact ⟨ao', cap', rfl, hr, HS.bel⟩
end Go.Proofs.Ytjnfhcagfgbmnaa.Sparse
