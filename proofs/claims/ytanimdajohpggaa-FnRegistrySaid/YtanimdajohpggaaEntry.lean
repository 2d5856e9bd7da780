/- registryCache.entry: its contract. -/
import Derived.Test.YtanimdajohpggaaCache
namespace Go.Proofs.Ytanimdajohpggaa.Node
open Go.ChangeShapes Go.WideShapes Go.ChangeAt Go.RowKit Go.Trav Go.Sort
set_option linter.unusedVariables false
set_option maxRecDepth 100000
/-- What the nodes hold, by their blocks. -/
structure ND where
  v : Value
  f : Bool
  o : Int
  l : List Arc
def NodeIs (w : World) (nd : Nat → ND) (B : Nat) : Prop := NodeAt w B (nd B).v (nd B).f (nd B).o (nd B).l
/-- Each node of a row is one. -/
def RowNodes (w : World) (nd : Nat → ND) (tab : List RC) (st n : Nat) : Prop := ∀ k, k < n → ∀ a p, tab[st + k]? = some (a, some p) → p = ⟨p.block, 0, none⟩ ∧ NodeIs w nd p.block
def hit (nd : Nat → ND) (f : Bool) (o : Int) (l : List Arc) (x : RC) : Bool := match x.2 with
  | some p => sameB (nd p.block).f f (nd p.block).o o (nd p.block).l l
  | none => false
theorem hit_none (nd : Nat → ND) (f : Bool) (o : Int) (l : List Arc) (a : Int) : hit nd f o l (a, none) = false := rfl
theorem hit_some (nd : Nat → ND) (f : Bool) (o : Int) (l : List Arc) (a : Int) (p : Addr) : hit nd f o l (a, some p) = sameB (nd p.block).f f (nd p.block).o o (nd p.block).l l := rfl
theorem getD_of {tab : List RC} {k : Nat} (h : k < tab.length) : tab[k]? = some (tab[k]?.getD (0, none)) := by simp [List.getElem?_eq_getElem h]
theorem set_ptr {w : World} {T : Nat} {tab : List RC} {st m i : Nat} {a : Int} {p : Option Addr} (h : TableAt w T tab) (hk : tab[st + m]? = some (a, p)) (q : Option Addr) (hi : i = (st + m) * 2 + 1) : TableAt (w.setCell ⟨T, i, none⟩ (.pointer q)) T (tab.set (st + m) (a, q)) := by
  subst hi
  have h1 := block_set (i := (st + m) * 2 + 1) (u := .pointer q) h
  unfold TableAt
  rw [h1]
  have h2 := rc_set tab (st + m) (a, q) (a, p) hk
  have h0 := flatMap_at rcCells 2 rcCells_len tab (st + m) 0 (by omega) _ hk
  have h3 : (tab.flatMap rcCells).set ((st + m) * 2) (.int .i64 a) = tab.flatMap rcCells := by
    apply List.ext_getElem?
    intro j
    by_cases hj : (st + m) * 2 = j
    · subst hj
      simp only [Nat.add_zero] at h0
      rw [List.getElem?_set_self (by have := (List.getElem?_eq_some_iff.1 (show _ = some (Value.int .i64 a) from h0)).1; exact this), h0]
      rfl
    · rw [List.getElem?_set_ne hj]
  rw [h3] at h2
  simp only [List.setIfInBounds_toArray, h2]
theorem centry_hit (T st n cap B Pb i : Nat) (tab : List RC) (nd : Nat → ND) (f : Bool) (o : Int) (l : List Arc) (v : Value) (a : Int) (p : Option Addr) (w : World) (h : TableAt w T tab) (hrow : RowNodes w nd tab st n)
    (hB : NodeAt w B v f o l) (hn2 : 2 ≤ n) (hn : st + n ≤ tab.length) (hl : tab.length ≤ 1000000) (hi : i < n) (hx : tab[st + i]? = some (a, p)) (hhit : hit nd f o l (a, p) = true)
    (hmiss : ∀ k, k < i → ∀ x, tab[st + k]? = some x → hit nd f o l x = false) :
    Calls Try.prog 61 #[.slice (some ⟨T, st * 2, none⟩) n cap, .pointer (some ⟨B, 0, none⟩), .pointer (some ⟨Pb, 0, none⟩)] w fun e w' => e = .returned (.tuple #[.bool true, .int .i64 a, .pointer none]) ∧ TableAt w' T (bub tab st i) ∧ Mod (fun k => k = T) w w' := by
  have H := Lib.hid h
  have HB := Lib.hid hB
  have HR := Lib.hid hrow
  have HX := Lib.hid hx
  have HH := Lib.hid hhit
  have HM := Lib.hid hmiss
  clear h hB hrow hx hhit hmiss
  have n1 : ((n : Int) == 1) = false := beq_eq_false_iff_ne.2 (by omega)
  go_enter Try.func61, Try.ntmps61
  go_wp2
  go_loopw [46] (fun x wr => ∃ (k : Nat), x = .int .i64 k ∧ k ≤ i ∧ Below w.heap.size w wr) (fun x _ => n - (intOf x).toNat)
  case atStart => exact ⟨0, rfl, by omega, Below.refl _ _⟩
  case round =>
    obtain ⟨k, rfl, hk, hb⟩ := hrel
    have hT : TableAt wr T tab := block_below H.out hb (block_lt H.out)
    have ex := getD_of (tab := tab) (k := st + k) (by omega)
    generalize hg : tab[st + k]?.getD (0, none) = y at ex
    obtain ⟨ya, yp⟩ := y
    obtain ⟨c0, c1, _, _⟩ := hT.at ex
    have ei : (st + k) * 2 = st * 2 + k * 2 := by omega
    rw [ei] at c0 c1
    have HT := Lib.hid hT
    have EX := Lib.hid ex
    clear hT ex hg
    by_cases hki : k = i
    · subst hki
      have he : (a, p) = (ya, yp) := Option.some.inj (HX.out.symm.trans EX.out)
      obtain ⟨rfl, rfl⟩ := Prod.mk.inj he
      clear he
      cases p with
      | none => have := HH.out; simp [hit] at this
      | some q =>
        obtain ⟨hq, hN⟩ := HR.out k hi a q EX.out
        have hS : sameB (nd q.block).f f (nd q.block).o o (nd q.block).l l = true := HH.out
        have HS := Lib.hid hS
        have HN := Lib.hid hN
        rw [hq] at c1
        clear hS hN hq
        go_wp2_with fail
        refine (equiv_any q.block B _ v _ f _ o _ l _ (NodeAt.below HN.out hb) (NodeAt.below HB.out hb)).mono ?_
        rintro e w2 ⟨rfl, hb2⟩
        rw [HS.out]
        have hT2 : TableAt w2 T tab := block_below HT.out hb2 (block_lt HT.out)
        obtain ⟨d0, d1, _, _⟩ := hT2.at EX.out
        rw [ei] at d0 d1
        have HT2 := Lib.hid hT2
        clear hT2
        go_wp2_with fail
        refine (promote_any T st n cap tab k _ HT2.out hi hn hl).mono ?_
        rintro e w3 ⟨rfl, hT3, hm⟩
        have HT3 := Lib.hid hT3
        clear hT3
        go_wp2
        go_ret3
        exact ⟨rfl, HT3.out, ((Mod.of_below (hb.trans (hb2.mono hb.size))).step hm fun _ _ h => h)⟩
    · have hki' : k < i := by omega
      have hm0 : hit nd f o l (ya, yp) = false := HM.out k hki' _ EX.out
      cases yp with
      | none =>
        go_wp2
        go_roundw
        case rel => exact ⟨k + 1, by go_num, by omega, hb⟩
        case measure => simp [intOf]; omega
      | some q =>
        obtain ⟨hq, hN⟩ := HR.out k (by omega) ya q EX.out
        have hS : sameB (nd q.block).f f (nd q.block).o o (nd q.block).l l = false := hm0
        have HS := Lib.hid hS
        have HN := Lib.hid hN
        rw [hq] at c1
        clear hS hN hq hm0
        go_wp2_with fail
        refine (equiv_any q.block B _ v _ f _ o _ l _ (NodeAt.below HN.out hb) (NodeAt.below HB.out hb)).mono ?_
        rintro e w2 ⟨rfl, hb2⟩
        rw [HS.out]
        go_wp2
        go_roundw
        case rel => exact ⟨k + 1, by go_num, by omega, hb.trans (hb2.mono hb.size)⟩
        case measure => simp [intOf]; omega
theorem centry_miss (T st n m cap B Pb : Nat) (tab : List RC) (nd : Nat → ND) (f : Bool) (o : Int) (l : List Arc) (v : Value) (aL : Int) (pL : Option Addr) (hd : Option Addr) (w : World) (h : TableAt w T tab) (hrow : RowNodes w nd tab st n)
    (hB : NodeAt w B v f o l) (hp : w.heap[Pb]? = some (.cells #[.pointer hd] 102 (0, 0))) (hn2 : 1 ≤ m) (hnm : n = m + 1) (hn : st + n ≤ tab.length) (hl : tab.length ≤ 1000000) (hx : tab[st + m]? = some (aL, pL))
    (hTP : T ≠ Pb) (hTB : ∀ q, pL = some q → q.block ≠ T)
    (hmiss : ∀ k, k < n → ∀ x, tab[st + k]? = some x → hit nd f o l x = false) :
    Calls Try.prog 61 #[.slice (some ⟨T, st * 2, none⟩) n cap, .pointer (some ⟨B, 0, none⟩), .pointer (some ⟨Pb, 0, none⟩)] w fun e w' => e = .returned (.tuple #[.bool false, .int .i64 0, .pointer (some ⟨T, st * 2, none⟩)]) ∧ TableAt w' T (bub (tab.set (st + m) (aL, some ⟨B, 0, none⟩)) st m) ∧ (∃ hd', w'.heap[Pb]? = some (.cells #[.pointer hd'] 102 (0, 0))) ∧ Mod (fun k => k = T ∨ k = Pb ∨ ∃ q, pL = some q ∧ k = q.block) w w' := by
  have H := Lib.hid h
  have HB := Lib.hid hB
  have HR := Lib.hid hrow
  have HX := Lib.hid hx
  have HP := Lib.hid hp
  have HM := Lib.hid hmiss
  have HTB := Lib.hid hTB
  clear h hB hrow hx hmiss hp hTB
  have HNM := Lib.hid hnm
  have n1 : ((n : Int) == 1) = false := beq_eq_false_iff_ne.2 (by omega)
  have hn2' : 2 ≤ n := by omega
  clear hnm
  go_enter Try.func61, Try.ntmps61
  go_wp2
  go_loopw [46] (fun x wr => ∃ (k : Nat), x = .int .i64 k ∧ k ≤ n ∧ Below w.heap.size w wr) (fun x _ => n - (intOf x).toNat)
  case atStart => exact ⟨0, rfl, by omega, Below.refl _ _⟩
  case round =>
    obtain ⟨k, rfl, hk, hb⟩ := hrel
    have hT : TableAt wr T tab := block_below H.out hb (block_lt H.out)
    by_cases hki : k < n
    · have ex := getD_of (tab := tab) (k := st + k) (by omega)
      generalize hg : tab[st + k]?.getD (0, none) = y at ex
      obtain ⟨ya, yp⟩ := y
      obtain ⟨c0, c1, _, _⟩ := hT.at ex
      have ei : (st + k) * 2 = st * 2 + k * 2 := by omega
      rw [ei] at c0 c1
      have HT := Lib.hid hT
      have EX := Lib.hid ex
      clear hT ex hg
      have hm0 : hit nd f o l (ya, yp) = false := HM.out k hki _ EX.out
      cases yp with
      | none =>
        go_wp2
        go_roundw
        case rel => exact ⟨k + 1, by go_num, by omega, hb⟩
        case measure => simp [intOf]; omega
      | some q =>
        obtain ⟨hq, hN⟩ := HR.out k (by omega) ya q EX.out
        have hS : sameB (nd q.block).f f (nd q.block).o o (nd q.block).l l = false := hm0
        have HS := Lib.hid hS
        have HN := Lib.hid hN
        rw [hq] at c1
        clear hS hN hq hm0
        go_wp2_with fail
        refine (equiv_any q.block B _ v _ f _ o _ l _ (NodeAt.below HN.out hb) (NodeAt.below HB.out hb)).mono ?_
        rintro e w2 ⟨rfl, hb2⟩
        rw [HS.out]
        go_wp2
        go_roundw
        case rel => exact ⟨k + 1, by go_num, by omega, hb.trans (hb2.mono hb.size)⟩
        case measure => simp [intOf]; omega
    · have hnm := HNM.out
      clear HNM
      subst hnm
      obtain rfl : k = m + 1 := by omega
      have hxm : tab[st + m]? = some (aL, pL) := HX.out
      obtain ⟨c0, c1, c2, c3⟩ := hT.at hxm
      have ei : (st + m) * 2 = st * 2 + m * 2 := by omega
      rw [ei] at c0 c1 c2 c3
      have HT := Lib.hid hT
      have hP : wr.heap[Pb]? = some (.cells #[.pointer hd] 102 (0, 0)) := block_below HP.out hb (block_lt HP.out)
      have HPr := Lib.hid hP
      have HXM := Lib.hid hxm
      clear hT hP hxm
      cases pL with
      | none =>
        go_wp2_with fail
        refine (put_nil Pb _).mono ?_
        rintro e w2 ⟨rfl, rfl⟩
        go_wp2_with fail
        have hT2 : TableAt (wr.setCell ⟨T, st * 2 + m * 2 + 1, none⟩ (.pointer (some ⟨B, 0, none⟩))) T (tab.set (st + m) (aL, some ⟨B, 0, none⟩)) := set_ptr HT.out HXM.out _ (by omega)
        have HT2 := Lib.hid hT2
        clear hT2
        refine (promote_any T st (m + 1) cap _ m _ HT2.out (by omega) (by simp; omega) (by simp; omega)).mono ?_
        rintro e w3 ⟨rfl, hT3, hm⟩
        have HT3 := Lib.hid hT3
        clear hT3
        go_wp2
        go_quiet (fail)
        go_wp2
        go_ret3
        refine ⟨rfl, HT3.out, ⟨hd, hm.heap ?_ (fun e => hTP e.symm)⟩, ?_⟩
        · exact block_set_ne HPr.out hTP
        · exact ((((Mod.of_below hb : Mod (fun k => k = T ∨ k = Pb ∨ ∃ q, (none : Option Addr) = some q ∧ k = q.block) w wr).setCell (p := ⟨T, st * 2 + m * 2 + 1, none⟩) (fun _ => Or.inl rfl) _).step hm fun _ _ h => Or.inl h).drewN _)
      | some q =>
        obtain ⟨hq, hN⟩ := HR.out m (by omega) aL q HXM.out
        have HN := Lib.hid hN
        rw [hq] at c1
        clear hq hN
        go_wp2_with fail
        refine (put_any q.block Pb _ _ _ _ _ _ (NodeAt.below HN.out hb) HPr.out).mono ?_
        rintro e w2 ⟨rfl, ⟨hd', hP2⟩, hm2⟩
        have hqT : q.block ≠ T := HTB.out q rfl
        have hT' : TableAt w2 T tab := hm2.heap HT.out (by rintro (h | h); exact hqT h.symm; exact hTP h)
        obtain ⟨d0, d1, d2, d3⟩ := hT'.at HXM.out
        rw [ei] at d0 d1 d2 d3
        have HT' := Lib.hid hT'
        have HP2 := Lib.hid hP2
        clear hT' hP2
        go_wp2_with fail
        have hT2 : TableAt (w2.setCell ⟨T, st * 2 + m * 2 + 1, none⟩ (.pointer (some ⟨B, 0, none⟩))) T (tab.set (st + m) (aL, some ⟨B, 0, none⟩)) := set_ptr HT'.out HXM.out _ (by omega)
        have HT2 := Lib.hid hT2
        clear hT2
        refine (promote_any T st (m + 1) cap _ m _ HT2.out (by omega) (by simp; omega) (by simp; omega)).mono ?_
        rintro e w3 ⟨rfl, hT3, hm⟩
        have HT3 := Lib.hid hT3
        clear hT3
        go_wp2
        go_quiet (fail)
        go_wp2
        go_ret3
        refine ⟨rfl, HT3.out, ⟨hd', hm.heap ?_ (fun e => hTP e.symm)⟩, ?_⟩
        · exact block_set_ne HP2.out hTP
        · have m1 : Mod (fun k => k = T ∨ k = Pb ∨ ∃ q', some q = some q' ∧ k = q'.block) w wr := Mod.of_below hb
          have m2 := m1.step hm2 (fun k _ h => by rcases h with h | h; exact Or.inr (Or.inr ⟨q, rfl, h⟩); exact Or.inr (Or.inl h))
          exact (((m2.setCell (p := ⟨T, st * 2 + m * 2 + 1, none⟩) (fun _ => Or.inl rfl) _).step hm fun _ _ h => Or.inl h).drewN _)
end Go.Proofs.Ytanimdajohpggaa.Node
