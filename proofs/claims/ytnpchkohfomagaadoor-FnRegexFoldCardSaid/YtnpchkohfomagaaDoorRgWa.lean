/- The compiler of expressions: its memory. (and what follows) -/
import Derived.Test.YtnpchkohfomagaaDoorRgCmp
import Derived.Test.YtnpchkohfomagaaDoorRgPa
import Derived.Test.YtnpchkohfomagaaDoorSeq3
/-! The compiler of expressions: its memory. -/
namespace Go.Proofs.YtnpchkohfomagaaDoor.Rgw
open Go.ChangeShapes Go.WideShapes Go.ChangeAt Go.RowKit Go.Trav Go.Rg Go.Proofs.YtnpchkohfomagaaDoor.Seq
set_option linter.unusedVariables false
set_option linter.unusedSimpArgs false
set_option maxRecDepth 100000
/-! ### Frames by the types of blocks -/
def TF (Ts : List TypeId) (base : Nat) (w : World) (k : Nat) : Prop := base ≤ k ∧ ∃ T ∈ Ts, Ty w k T
theorem ty_mod {w w' : World} {F : Nat → Prop} {k : Nat} {T : TypeId} (h : Ty w k T) (m : Mod F w w') (hF : ¬ F k) : Ty w' k T := by
  obtain ⟨c, fr, h⟩ := h; exact ⟨c, fr, m.heap h hF⟩
theorem TF.trans {Ts : List TypeId} {base : Nat} {a b c : World} (h : Mod (TF Ts base a) a b) (k : Mod (TF Ts base b) b c) : Mod (TF Ts base a) a c := by
  refine h.step k fun i hi ⟨hb, T, hT, ht⟩ => ?_
  by_cases hn : TF Ts base a i
  · exact hn
  · obtain ⟨cc, fr, e⟩ := ht
    rw [h.block i hi hn] at e
    exact ⟨hb, T, hT, cc, fr, e⟩
theorem TF.mono {Ts Us : List TypeId} {base : Nat} {a b : World} (h : Mod (TF Ts base a) a b) (hs : ∀ T ∈ Ts, T ∈ Us) : Mod (TF Us base a) a b :=
  Mod.mono h fun k _ ⟨hb, T, hT, ht⟩ => ⟨hb, T, hs T hT, ht⟩
theorem TF.not {Ts : List TypeId} {base : Nat} {w : World} {k : Nat} {T : TypeId} (h : Ty w k T) (hT : T ∉ Ts) : ¬ TF Ts base w k := by
  rintro ⟨_, U, hU, hu⟩
  exact hT (ty_one h hu ▸ hU)
def cE : List TypeId := [135, 79, 103]
def cA : List TypeId := [135, 79, 103, 164, 187, 5]
theorem cE_cA : ∀ T ∈ cE, T ∈ cA := by
  unfold cE cA; intro T h
  simp only [List.mem_cons, List.not_mem_nil, or_false] at h ⊢
  rcases h with h | h | h <;> simp [h]
/-! ### The instructions' cells -/
def Blk (w : World) (b : Nat) : Prop := ∃ cur : Array Value, w.heap[b]? = some (.cells cur 103 (0, 0)) ∧ cur.size = 96
def pV (a : Nat × Nat) : Value := .pointer (some ⟨a.1, a.2, none⟩)
theorem Blk.ty {w : World} {b : Nat} (h : Blk w b) : Ty w b 103 := by obtain ⟨c, h, _⟩ := h; exact ⟨c, _, h⟩
theorem Blk.mod {w w' : World} {b : Nat} {F : Nat → Prop} (h : Blk w b) (m : Mod F w w') (hF : ¬ F b) : Blk w' b := by obtain ⟨c, h, hs⟩ := h; exact ⟨c, m.heap h hF, hs⟩
theorem Blk.set {w : World} {b b' j : Nat} {v : Value} (h : Blk w b) : Blk (w.setCell ⟨b', j, none⟩ v) b := by
  obtain ⟨c, h, hs⟩ := h
  by_cases e : b' = b
  · subst e; exact ⟨_, block_set h, by simp [hs]⟩
  · exact ⟨c, block_set_ne h e, hs⟩
theorem Blk.free {w : World} {b j : Nat} (h : Blk w b) : w.frozen? ⟨b, j, none⟩ = false := by obtain ⟨c, h, hs⟩ := h; exact block_free h
theorem InAt.mod {w w' : World} {b o : Nat} {i : In} {F : Nat → Prop} (h : InAt w b o i) (m : Mod F w w') (hF : ¬ F b) : InAt w' b o i :=
  ⟨m.cell h.c0 hF, m.cell h.c1 hF, m.cell h.c2 hF, m.cell h.c3 hF, m.cell h.c4 hF, m.cell h.c5 hF⟩
theorem cell_set_ne {w : World} {b o b' o' : Nat} {u v : Value} (h : w.cell? ⟨b, o, none⟩ = some u) (hn : b' ≠ b ∨ o' ≠ o) : (w.setCell ⟨b', o', none⟩ v).cell? ⟨b, o, none⟩ = some u := by
  by_cases e : b' = b
  · subst e
    have ho : o' ≠ o := hn.resolve_left (fun h => h rfl)
    cases hb : w.heap[b']? with
    | none => simp [World.cell?, hb] at h
    | some ob =>
      cases ob with
      | cells c T fr =>
        have hc : c[o]? = some u := by simpa [World.cell?, hb] using h
        exact block_cell (block_set hb) (by rw [Array.getElem?_setIfInBounds, if_neg ho]; exact hc)
      | _ => simp [World.cell?, hb] at h
  · have hm : Mod (fun k => k = b') w (w.setCell ⟨b', o', none⟩ v) := (Mod.refl (fun k => k = b') w).setCell (p := ⟨b', o', none⟩) (fun _ => rfl) v
    exact hm.cell h (fun hk : b = b' => e hk.symm)
theorem InAt.set_ne {w : World} {b o b' o' j : Nat} {i : In} {v : Value} (h : InAt w b o i) (h6 : o % 6 = 0) (h6' : o' % 6 = 0) (hj : j < 6) (hn : b' ≠ b ∨ o' ≠ o) : InAt (w.setCell ⟨b', o' + j, none⟩ v) b o i := by
  have hx : ∀ k, k < 6 → (b' ≠ b ∨ o' + j ≠ o + k) := fun k hk => by
    rcases hn with h | h
    · exact Or.inl h
    · right; omega
  exact ⟨cell_set_ne h.c0 (hx 0 (by omega)), cell_set_ne h.c1 (hx 1 (by omega)), cell_set_ne h.c2 (hx 2 (by omega)), cell_set_ne h.c3 (hx 3 (by omega)), cell_set_ne h.c4 (hx 4 (by omega)), cell_set_ne h.c5 (hx 5 (by omega))⟩
theorem Blk.cell_set {w : World} {b j : Nat} {v : Value} (h : Blk w b) (hj : j < 96) : (w.setCell ⟨b, j, none⟩ v).cell? ⟨b, j, none⟩ = some v := by
  obtain ⟨c, h, hs⟩ := h
  exact block_cell (block_set h) (by simp [hs, hj])
/-- An instruction with another number in one of its places. -/
def iset (i : In) (j x : Nat) : In := match j with
  | 0 => { i with op := x }
  | 1 => { i with to := x }
  | 2 => { i with a := x }
  | 3 => { i with b := x }
  | 4 => { i with lo := x }
  | _ => { i with hi := x }
def ival (j x : Nat) : Value := if j = 0 then .int .i64 (x : Int) else if j < 4 then .int .u64 (x : Int) else .int .u8 (x : Int)
theorem InAt.set {w : World} {b o j x : Nat} {i : In} (h : InAt w b o i) (hb : Blk w b) (ho : o + 6 ≤ 96) (hj : j < 6) : InAt (w.setCell ⟨b, o + j, none⟩ (ival j x)) b o (iset i j x) := by
  have key : (w.setCell ⟨b, o + j, none⟩ (ival j x)).cell? ⟨b, o + j, none⟩ = some (ival j x) := hb.cell_set (by omega)
  have ne : ∀ {k : Nat} {u : Value}, w.cell? ⟨b, o + k, none⟩ = some u → k ≠ j → (w.setCell ⟨b, o + j, none⟩ (ival j x)).cell? ⟨b, o + k, none⟩ = some u := fun hc hk => cell_set_ne hc (Or.inr (by omega))
  have c0 : w.cell? ⟨b, o + 0, none⟩ = some (.int .i64 (i.op : Int)) := h.c0
  match j, hj with
  | 0, _ => exact ⟨key, ne h.c1 (by omega), ne h.c2 (by omega), ne h.c3 (by omega), ne h.c4 (by omega), ne h.c5 (by omega)⟩
  | 1, _ => exact ⟨ne c0 (by omega), key, ne h.c2 (by omega), ne h.c3 (by omega), ne h.c4 (by omega), ne h.c5 (by omega)⟩
  | 2, _ => exact ⟨ne c0 (by omega), ne h.c1 (by omega), key, ne h.c3 (by omega), ne h.c4 (by omega), ne h.c5 (by omega)⟩
  | 3, _ => exact ⟨ne c0 (by omega), ne h.c1 (by omega), ne h.c2 (by omega), key, ne h.c4 (by omega), ne h.c5 (by omega)⟩
  | 4, _ => exact ⟨ne c0 (by omega), ne h.c1 (by omega), ne h.c2 (by omega), ne h.c3 (by omega), key, ne h.c5 (by omega)⟩
  | 5, _ => exact ⟨ne c0 (by omega), ne h.c1 (by omega), ne h.c2 (by omega), ne h.c3 (by omega), ne h.c4 (by omega), key⟩
/-- The pool: nothing, or the rest of a block whose instructions are still zero and none of ps. -/
def Pool (w : World) (base : Nat) (pv : Value) (ps : List (Nat × Nat)) : Prop :=
  (∃ ao, pv = .slice ao 0 0) ∨ ∃ g o n : Nat, pv = .slice (some ⟨g, o, none⟩) n n ∧ o % 6 = 0 ∧ o + 6 * n = 96 ∧ base ≤ g ∧ Blk w g ∧ (∀ m, m < n → InAt w g (o + 6 * m) In.fin) ∧ ∀ a ∈ ps, a.1 = g → a.2 < o
/-- The compiler. -/
structure CM (w : World) (base C gs ge : Nat) (iv pv qv sv : Value) (ps : List (Nat × Nat)) (l : List In) : Prop where
  hC : w.heap[C]? = some (.cells #[.int .u64 10485760, iv, pv, qv, sv, .slice (some ⟨gs, 0, none⟩) 4 4, .slice (some ⟨ge, 0, none⟩) 4 4] 135 (0, 0))
  hi : w.ownsRow base 79 1 iv l.length (ps.map pV)
  hp : ps.length = l.length
  nd : ps.Nodup
  at_ : ∀ (k : Nat) a i, ps[k]? = some a → l[k]? = some i → base ≤ a.1 ∧ Blk w a.1 ∧ InAt w a.1 a.2 i ∧ a.2 % 6 = 0 ∧ a.2 + 6 ≤ 96
  pool : Pool w base pv ps
  hq : ∃ n xs, w.ownsRow 0 164 1 qv n xs
  hs : ∃ n xs, w.ownsRow 0 187 2 sv n xs
  bs : Buf w gs 4
  be : Buf w ge 4
  ne : gs ≠ ge
  gC : base ≤ C
  gq : ∀ k, qv.ownBlock = some k → base ≤ k
  gz : ∀ k, sv.ownBlock = some k → base ≤ k
  gb : base ≤ gs ∧ base ≤ ge
theorem ty_buf {w : World} {g cap : Nat} (h : Buf w g cap) : Ty w g 5 := by obtain ⟨c, h, _⟩ := h; exact ⟨c, _, h⟩
/-- An own row stays where no block of its type turns. -/
theorem own_tf {w w' : World} {Ts : List TypeId} {b base : Nat} {e : TypeId} {size : Nat} {v : Value} {n : Nat} {xs : List Value} (h : w.ownsRow b e size v n xs) (m : Mod (TF Ts base w) w w') (he : e ∉ Ts) : w'.ownsRow b e size v n xs :=
  ownsRow_mod h m fun g hg => TF.not (ty_own h hg) he
theorem Pool.mod {w w' : World} {base : Nat} {pv : Value} {ps : List (Nat × Nat)} {F : Nat → Prop} (h : Pool w base pv ps) (m : Mod F w w') (hF : ∀ k, Ty w k 103 → ¬ F k) : Pool w' base pv ps := by
  rcases h with h | ⟨g, o, n, h1, h2, h3, h4, h5, h6, h7⟩
  · exact Or.inl h
  · exact Or.inr ⟨g, o, n, h1, h2, h3, h4, h5.mod m (hF g h5.ty), fun k hk => (h6 k hk).mod m (hF g h5.ty), h7⟩
/-- Nothing of the compiler's has turned. -/
theorem CM.mod {w w' : World} {base C gs ge : Nat} {iv pv qv sv : Value} {ps : List (Nat × Nat)} {l : List In} {F : Nat → Prop} (h : CM w base C gs ge iv pv qv sv ps l) (m : Mod F w w') (hF : ∀ k T, Ty w k T → T ∈ cA → ¬ F k) : CM w' base C gs ge iv pv qv sv ps l := by
  have ow : ∀ {b : Nat} {e : TypeId} {size : Nat} {v : Value} {n : Nat} {xs : List Value}, w.ownsRow b e size v n xs → e ∈ cA → w'.ownsRow b e size v n xs := fun h he => ownsRow_mod h m fun g hg => hF g _ (ty_own h hg) he
  have hq := h.hq
  have hs := h.hs
  obtain ⟨n1, x1, q1⟩ := hq
  obtain ⟨n2, x2, q2⟩ := hs
  refine ⟨m.heap h.hC (hF C _ ⟨_, _, h.hC⟩ (by decide)), ow h.hi (by decide), h.hp, h.nd, fun k a i h1 h2 => ?_, h.pool.mod m fun k hk => hF k _ hk (by decide), ⟨n1, x1, ow q1 (by decide)⟩, ⟨n2, x2, ow q2 (by decide)⟩, h.bs.mod m (hF _ _ (ty_buf h.bs) (by decide)), h.be.mod m (hF _ _ (ty_buf h.be) (by decide)), h.ne, h.gC, h.gq, h.gz, h.gb⟩
  obtain ⟨a1, a2, a3, a4⟩ := h.at_ k a i h1 h2
  have := hF _ _ a2.ty (by decide)
  exact ⟨a1, a2.mod m this, a3.mod m this, a4⟩
theorem CM.below {w w' : World} {base C gs ge : Nat} {iv pv qv sv : Value} {ps : List (Nat × Nat)} {l : List In} (h : CM w base C gs ge iv pv qv sv ps l) (hb : Below w.heap.size w w') : CM w' base C gs ge iv pv qv sv ps l :=
  h.mod (Mod.of_below (F := fun _ => False) hb) fun _ _ _ _ h => h
/-- The compiler with one instruction taken from the pool, not yet laid into the row. -/
structure HM (w : World) (base C gs ge : Nat) (iv pv qv sv : Value) (ps : List (Nat × Nat)) (l : List In) (b o : Nat) (i : In) : Prop where
  cm : CM w base C gs ge iv pv qv sv ps l
  pl : Pool w base pv (ps ++ [(b, o)])
  nw : (b, o) ∉ ps
  gb : base ≤ b
  bk : Blk w b
  at_ : InAt w b o i
  o6 : o % 6 = 0
  ob : o + 6 ≤ 96
theorem HM.set {w : World} {base C gs ge : Nat} {iv pv qv sv : Value} {ps : List (Nat × Nat)} {l : List In} {b o : Nat} {i : In} (h : HM w base C gs ge iv pv qv sv ps l b o i) (j x : Nat) (hj : j < 6) :
    HM (w.setCell ⟨b, o + j, none⟩ (ival j x)) base C gs ge iv pv qv sv ps l b o (iset i j x) := by
  have hm : Mod (fun k => k = b) w (w.setCell ⟨b, o + j, none⟩ (ival j x)) := (Mod.refl (fun k => k = b) w).setCell (p := ⟨b, o + j, none⟩) (fun _ => rfl) _
  have hF : ∀ k T, Ty w k T → T ≠ 103 → ¬ k = b := fun k T ht hn e => hn (ty_one (e ▸ ht) h.bk.ty)
  have c := h.cm
  have ow : ∀ {q : Nat} {e : TypeId} {size : Nat} {v : Value} {n : Nat} {xs : List Value}, w.ownsRow q e size v n xs → e ≠ 103 → (w.setCell ⟨b, o + j, none⟩ (ival j x)).ownsRow q e size v n xs := fun h he => ownsRow_mod h hm fun g hg => hF g _ (ty_own h hg) he
  obtain ⟨n1, x1, q1⟩ := c.hq
  obtain ⟨n2, x2, q2⟩ := c.hs
  have hpool : Pool (w.setCell ⟨b, o + j, none⟩ (ival j x)) base pv (ps ++ [(b, o)]) := by
    rcases h.pl with h1 | ⟨g, o', n, h1, h2, h3, h4, h5, h6, h7⟩
    · exact Or.inl h1
    · refine Or.inr ⟨g, o', n, h1, h2, h3, h4, h5.set, fun m hm => (h6 m hm).set_ne (by omega) h.o6 hj ?_, h7⟩
      by_cases e : b = g
      · right
        have := h7 (b, o) (by simp) e
        simp only at this
        omega
      · exact Or.inl e
  refine ⟨⟨hm.heap c.hC (hF C _ ⟨_, _, c.hC⟩ (by decide)), ow c.hi (by decide), c.hp, c.nd, fun k a i' h1 h2 => ?_, ?_, ⟨n1, x1, ow q1 (by decide)⟩, ⟨n2, x2, ow q2 (by decide)⟩, c.bs.mod hm (hF _ _ (ty_buf c.bs) (by decide)), c.be.mod hm (hF _ _ (ty_buf c.be) (by decide)), c.ne, c.gC, c.gq, c.gz, c.gb⟩, hpool, h.nw, h.gb, h.bk.set, h.at_.set h.bk h.ob hj, h.o6, h.ob⟩
  · obtain ⟨a1, a2, a3, a4, a5⟩ := c.at_ k a i' h1 h2
    refine ⟨a1, a2.set, a3.set_ne a4 h.o6 hj ?_, a4, a5⟩
    by_cases e : b = a.1
    · right
      intro e2
      exact h.nw (List.mem_of_getElem? (by rw [h1, e, e2]))
    · exact Or.inl e
  · rcases hpool with h1 | ⟨g, o', n, h1, h2, h3, h4, h5, h6, h7⟩
    · exact Or.inl h1
    · exact Or.inr ⟨g, o', n, h1, h2, h3, h4, h5, h6, fun a ha => h7 a (by simp [ha])⟩
/-- Laid into the row. -/
theorem HM.push {w w1 w2 : World} {base C gs ge : Nat} {iv pv qv sv iv' : Value} {ps : List (Nat × Nat)} {l : List In} {b o : Nat} {i : In} {F : Nat → Prop} (h : HM w base C gs ge iv pv qv sv ps l b o i)
    (m1 : Mod (fun k => iv.ownBlock = some k) w w1) (hr : w1.ownsRow base 79 1 iv' (l.length + 1) ((ps ++ [(b, o)]).map pV)) (e2 : w2 = w1.setCell ⟨C, 1, none⟩ iv') :
    CM w2 base C gs ge iv' pv qv sv (ps ++ [(b, o)]) (l ++ [i]) := by
  subst e2
  have c := h.cm
  have tC : Ty w C 135 := ⟨_, _, c.hC⟩
  have hF1 : ∀ k T, Ty w k T → T ≠ 79 → ¬ iv.ownBlock = some k := fun k T ht hn e => hn (ty_one ht (ty_own c.hi e))
  have hC1 := m1.heap c.hC (hF1 C _ tC (by decide))
  have m2 : Mod (fun k => k = C) w1 (w1.setCell ⟨C, 1, none⟩ iv') := (Mod.refl (fun k => k = C) w1).setCell (p := ⟨C, 1, none⟩) (fun _ => rfl) _
  have tC1 : Ty w1 C 135 := ⟨_, _, hC1⟩
  have hF2 : ∀ k T, Ty w1 k T → T ≠ 135 → ¬ k = C := fun k T ht hn e => hn (ty_one (e ▸ ht) tC1)
  have ow : ∀ {q : Nat} {e : TypeId} {size : Nat} {v : Value} {n : Nat} {xs : List Value}, w.ownsRow q e size v n xs → e ≠ 79 → e ≠ 135 → (w1.setCell ⟨C, 1, none⟩ iv').ownsRow q e size v n xs := fun h he he2 => by
    have h1 := ownsRow_mod h m1 fun g hg => hF1 g _ (ty_own h hg) he
    exact ownsRow_mod h1 m2 fun g hg => hF2 g _ (ty_own h1 hg) he2
  have bk : ∀ {g : Nat}, Blk w g → Blk (w1.setCell ⟨C, 1, none⟩ iv') g := fun hb => by
    have h1 := hb.mod m1 (hF1 _ _ hb.ty (by decide))
    exact h1.mod m2 (hF2 _ _ h1.ty (by decide))
  have ia : ∀ {g q : Nat} {j : In}, Blk w g → InAt w g q j → InAt (w1.setCell ⟨C, 1, none⟩ iv') g q j := fun hb hi => by
    have h1 := hb.mod m1 (hF1 _ _ hb.ty (by decide))
    exact (hi.mod m1 (hF1 _ _ hb.ty (by decide))).mod m2 (hF2 _ _ h1.ty (by decide))
  have bf : ∀ {g : Nat}, Buf w g 4 → Buf (w1.setCell ⟨C, 1, none⟩ iv') g 4 := fun hb => by
    have h1 := hb.mod m1 (hF1 _ _ (ty_buf hb) (by decide))
    exact h1.mod m2 (hF2 _ _ (ty_buf h1) (by decide))
  obtain ⟨n1, x1, q1⟩ := c.hq
  obtain ⟨n2, x2, q2⟩ := c.hs
  refine ⟨by simpa using block_set (i := 1) (u := iv') hC1, ?_, by simp [c.hp], ?_, fun k a i' h1 h2 => ?_, ?_, ⟨n1, x1, ow q1 (by decide) (by decide)⟩, ⟨n2, x2, ow q2 (by decide) (by decide)⟩, bf c.bs, bf c.be, c.ne, c.gC, c.gq, c.gz, c.gb⟩
  · rw [List.length_append, List.length_singleton]
    exact ownsRow_mod hr m2 fun g hg => hF2 g _ (ty_own hr hg) (by decide)
  · rw [List.nodup_append]
    exact ⟨c.nd, by simp, fun x hx y hy e => by simp at hy; subst hy; subst e; exact h.nw hx⟩
  · by_cases hk : k < ps.length
    · rw [List.getElem?_append_left hk] at h1
      rw [List.getElem?_append_left (by rw [← c.hp]; exact hk)] at h2
      obtain ⟨a1, a2, a3, a4⟩ := c.at_ k a i' h1 h2
      exact ⟨a1, bk a2, ia a2 a3, a4⟩
    · have : k = ps.length := by have := (List.getElem?_eq_some_iff.mp h1).1; simp at this; omega
      subst this
      simp at h1; subst h1
      rw [c.hp] at h2
      simp at h2; subst h2
      exact ⟨h.gb, bk h.bk, ia h.bk h.at_, h.o6, h.ob⟩
  · rcases h.pl with h1 | ⟨g, o', n, h1, h2, h3, h4, h5, h6, h7⟩
    · exact Or.inl h1
    · exact Or.inr ⟨g, o', n, h1, h2, h3, h4, bk h5, fun m hm => ia h5 (h6 m hm), h7⟩
end Go.Proofs.YtnpchkohfomagaaDoor.Rgw
/-! The compiler of expressions: allocInst, top. -/
namespace Go.Proofs.YtnpchkohfomagaaDoor.Rgw
open Go.ChangeShapes Go.WideShapes Go.ChangeAt Go.RowKit Go.Trav Go.Rg Go.Proofs.YtnpchkohfomagaaDoor.Seq
set_option linter.unusedVariables false
set_option linter.unusedSimpArgs false
set_option maxRecDepth 100000
theorem CM.repool {w w' : World} {base C gs ge : Nat} {iv pv pv' qv sv : Value} {ps : List (Nat × Nat)} {l : List In} (h : CM w base C gs ge iv pv qv sv ps l) (m : Mod (fun k => k = C) w w')
    (hC : w'.heap[C]? = some (.cells #[.int .u64 10485760, iv, pv', qv, sv, .slice (some ⟨gs, 0, none⟩) 4 4, .slice (some ⟨ge, 0, none⟩) 4 4] 135 (0, 0))) (hp : Pool w' base pv' ps) : CM w' base C gs ge iv pv' qv sv ps l := by
  have tC : Ty w C 135 := ⟨_, _, h.hC⟩
  have hF : ∀ k T, Ty w k T → T ≠ 135 → ¬ k = C := fun k T ht hn e => hn (ty_one (e ▸ ht) tC)
  have ow : ∀ {q : Nat} {e : TypeId} {size : Nat} {v : Value} {n : Nat} {xs : List Value}, w.ownsRow q e size v n xs → e ≠ 135 → w'.ownsRow q e size v n xs := fun h he => ownsRow_mod h m fun g hg => hF g _ (ty_own h hg) he
  obtain ⟨n1, x1, q1⟩ := h.hq
  obtain ⟨n2, x2, q2⟩ := h.hs
  refine ⟨hC, ow h.hi (by decide), h.hp, h.nd, fun k a i h1 h2 => ?_, hp, ⟨n1, x1, ow q1 (by decide)⟩, ⟨n2, x2, ow q2 (by decide)⟩, h.bs.mod m (hF _ _ (ty_buf h.bs) (by decide)), h.be.mod m (hF _ _ (ty_buf h.be) (by decide)), h.ne, h.gC, h.gq, h.gz, h.gb⟩
  obtain ⟨a1, a2, a3, a4⟩ := h.at_ k a i h1 h2
  have := hF _ _ a2.ty (by decide)
  exact ⟨a1, a2.mod m this, a3.mod m this, a4⟩
theorem CM.tf {w w' : World} {base C gs ge : Nat} {iv pv qv sv : Value} {ps : List (Nat × Nat)} {l : List In} (h : CM w base C gs ge iv pv qv sv ps l) (m : Mod (fun k => k = C) w w') : Mod (TF cE base w) w w' :=
  m.mono fun k _ e => by subst e; exact ⟨h.gC, 135, by decide, _, _, h.hC⟩
theorem CM.lt {w : World} {base C gs ge : Nat} {iv pv qv sv : Value} {ps : List (Nat × Nat)} {l : List In} (h : CM w base C gs ge iv pv qv sv ps l) {k : Nat} {a : Nat × Nat} (hk : ps[k]? = some a) : a.1 < w.heap.size := by
  obtain ⟨i, hi⟩ : ∃ i, l[k]? = some i := ⟨_, List.getElem?_eq_getElem (by rw [← h.hp]; exact (List.getElem?_eq_some_iff.mp hk).1)⟩
  exact ty_lt (h.at_ k a i hk hi).2.1.ty
set_option maxHeartbeats 4000000 in
theorem alloc_new (base C gs ge : Nat) (iv pv qv sv : Value) (ps : List (Nat × Nat)) (l : List In) (w : World) (hM : CM w base C gs ge iv pv qv sv ps l) (ao : Option Addr) (hpv : pv = .slice ao 0 0) :
    Calls Tryd.prog 65 #[.pointer (some ⟨C, 0, none⟩)] w fun e w' => ∃ b o : Nat, e = .returned (.pointer (some ⟨b, o, none⟩)) ∧ (∃ pv', HM w' base C gs ge iv pv' qv sv ps l b o In.fin) ∧ Mod (TF cE base w) w w' := by
  obtain ⟨i0, hi, hz0, hz1, hz2⟩ := info_parts (show (Tryd.prog.info? 103).map (fun i => (i.zero, i.size, i.bytes)) = some (some (.agg #[.int .i64 0, .int .u64 0, .int .u64 0, .int .u64 0, .int .u8 0, .int .u8 0]), 6, 40) from by kernel_rfl)
  obtain ⟨M, hM0⟩ : ∃ M, M = madeCells (Value.agg #[.int .i64 0, .int .u64 0, .int .u64 0, .int .u64 0, .int .u8 0, .int .u8 0]).cells ((16 : Int).toNat * i0.size) := ⟨_, rfl⟩
  have hMs : M.size = 96 := by rw [hM0, size_madeCells, hz1]; rfl
  have hMc : ∀ m, m < 16 → ∀ j, j < 6 → M[6 * m + j]? = some (ival j 0) := by
    rw [hM0, hz1]
    intro m hm j hj
    have hz : (Value.agg #[.int .i64 0, .int .u64 0, .int .u64 0, .int .u64 0, .int .u8 0, .int .u8 0]).cells = #[.int .i64 0, .int .u64 0, .int .u64 0, .int .u64 0, .int .u8 0, .int .u8 0] := by kernel_rfl
    rw [hz]
    have h96 : 6 * m + j < 96 := by omega
    have hmod : (6 * m + j) % 6 = j := by omega
    simp only [madeCells, Array.getElem?_map, Array.getElem?_range, show (16 : Int).toNat * 6 = 96 from rfl, if_pos h96, Option.map_some]
    simp only [show (#[Value.int IntKind.i64 0, .int .u64 0, .int .u64 0, .int .u64 0, .int .u8 0, .int .u8 0] : Array Value).size = 6 from rfl, hmod]
    match j, hj with
    | 0, _ => rfl
    | 1, _ => rfl
    | 2, _ => rfl
    | 3, _ => rfl
    | 4, _ => rfl
    | 5, _ => rfl
  have hmk : ∀ W : World, (Instr.makeSlice 129 (.int .i64 16) (.int .i64 16)).run Tryd.prog W = .ok (.slice (some ⟨W.heap.size, 0, none⟩) 16 16) (W.alloc (.cells M 103)) := fun W => by
    have h := run_makeSlice (P := Tryd.prog) W 129 103 i0 (.agg #[.int .i64 0, .int .u64 0, .int .u64 0, .int .u64 0, .int .u8 0, .int .u8 0]) Tryd.underlying129 hi hz0 .i64 .i64 16 16 (by omega) (by omega) (by rw [hz1]; decide) (by rw [hz2]; decide) (by decide)
    rw [← hM0] at h
    simpa using h
  have h := hM.hC
  rw [hpv] at h
  have c2 : w.cell? ⟨C, 2, none⟩ = some (.slice ao 0 0) := block_cell h rfl
  have f2 : w.frozen? ⟨C, 2, none⟩ = false := block_free h
  have HH := Lib.hid h
  have HM := Lib.hid hM
  have HMS := Lib.hid (And.intro hMs hMc)
  have hCl := block_lt h
  have al2 : ∀ o, (w.alloc o).cell? ⟨C, 2, none⟩ = some (.slice ao 0 0) := fun o => block_cell (block_alloc h) rfl
  have af2 : ∀ o, (w.alloc o).frozen? ⟨C, 2, none⟩ = false := fun o => block_free (block_alloc h)
  clear h hM hMs hMc hM0 hi hz0 hz1 hz2
  go_enter Tryd.func65, Tryd.ntmps65
  go_wp2_with fail
  go_ret
  have hb := block_set (i := 2) (u := .slice (some ⟨w.heap.size, 6, none⟩) 15 15) (block_set (i := 2) (u := .slice (some ⟨w.heap.size, 0, none⟩) 16 16) HH.out)
  have hm : Mod (fun k => k = C) w ((((w.setCell ⟨C, 2, none⟩ (.slice (some ⟨w.heap.size, 0, none⟩) 16 16)).setCell ⟨C, 2, none⟩ (.slice (some ⟨w.heap.size, 6, none⟩) 15 15))).alloc (.cells M 103)) := (((Mod.refl (fun k => k = C) w).setCell (p := ⟨C, 2, none⟩) (fun _ => rfl) _).setCell (p := ⟨C, 2, none⟩) (fun _ => rfl) _).alloc _
  generalize hw' : ((((w.setCell ⟨C, 2, none⟩ (.slice (some ⟨w.heap.size, 0, none⟩) 16 16)).setCell ⟨C, 2, none⟩ (.slice (some ⟨w.heap.size, 6, none⟩) 15 15))).alloc (.cells M 103)) = w' at *
  have hnew : w'.heap[w.heap.size]? = some (.cells M 103 (0, 0)) := by rw [← hw']; exact heap_alloc_at _ _ _ (by simp)
  have hCb : w'.heap[C]? = some (.cells #[.int .u64 10485760, iv, .slice (some ⟨w.heap.size, 6, none⟩) 15 15, qv, sv, .slice (some ⟨gs, 0, none⟩) 4 4, .slice (some ⟨ge, 0, none⟩) 4 4] 135 (0, 0)) := by rw [← hw']; simpa using block_alloc hb
  have hblk : Blk w' w.heap.size := ⟨M, hnew, HMS.out.1⟩
  have hin : ∀ m, m < 16 → InAt w' w.heap.size (6 * m) In.fin := fun m hm => by
    have hc : ∀ j, j < 6 → w'.cell? ⟨w.heap.size, 6 * m + j, none⟩ = some (ival j 0) := fun j hj => block_cell hnew (HMS.out.2 m hm j hj)
    exact ⟨hc 0 (by omega), hc 1 (by omega), hc 2 (by omega), hc 3 (by omega), hc 4 (by omega), hc 5 (by omega)⟩
  have hgb : base ≤ w.heap.size := by have := HM.out.gC; omega
  have hlt : ∀ a ∈ ps, a.1 < w.heap.size := fun a ha => by
    obtain ⟨k, hk, e⟩ := List.getElem_of_mem ha
    exact HM.out.lt (k := k) (by rw [List.getElem?_eq_getElem hk, e])
  have hpool : Pool w' base (.slice (some ⟨w.heap.size, 6, none⟩) 15 15) (ps ++ [(w.heap.size, 0)]) := by
    refine Or.inr ⟨w.heap.size, 6, 15, rfl, rfl, rfl, hgb, hblk, fun m hm => ?_, fun a ha e => ?_⟩
    · have := hin (m + 1) (by omega)
      rwa [show 6 * (m + 1) = 6 + 6 * m by omega] at this
    · rcases List.mem_append.mp ha with p | p
      · have := hlt a p; omega
      · simp at p; subst p; simp
  refine ⟨w.heap.size, 0, rfl, ⟨_, HM.out.repool hm hCb ?_, hpool, fun hmem => by have := hlt _ hmem; simp at this, hgb, hblk, hin 0 (by omega), rfl, by omega⟩, HM.out.tf hm⟩
  rcases hpool with h1 | ⟨g, o', n, h1, h2, h3, h4, h5, h6, h7⟩
  · exact Or.inl h1
  · exact Or.inr ⟨g, o', n, h1, h2, h3, h4, h5, h6, fun a ha => h7 a (by simp [ha])⟩
theorem old_end (base C gs ge g o n : Nat) (iv pv qv sv : Value) (ps : List (Nat × Nat)) (l : List In) (w w' : World) (pv' : Value) (hM : CM w base C gs ge iv pv qv sv ps l)
    (h2 : o % 6 = 0) (h3 : o + 6 * (n + 1) = 96) (h4 : base ≤ g) (h5 : Blk w g) (h6 : ∀ m, m < n + 1 → InAt w g (o + 6 * m) In.fin) (h7 : ∀ a ∈ ps, a.1 = g → a.2 < o) (hm : Mod (fun k => k = C) w w')
    (hC : w'.heap[C]? = some (.cells #[.int .u64 10485760, iv, pv', qv, sv, .slice (some ⟨gs, 0, none⟩) 4 4, .slice (some ⟨ge, 0, none⟩) 4 4] 135 (0, 0))) (hpv : (∃ ao, pv' = .slice ao 0 0) ∨ pv' = .slice (some ⟨g, o + 6, none⟩) n n) :
    ∃ b o' : Nat, (Ending.returned (.pointer (some ⟨g, o, none⟩))) = .returned (.pointer (some ⟨b, o', none⟩)) ∧ (∃ pv', HM w' base C gs ge iv pv' qv sv ps l b o' In.fin) ∧ Mod (TF cE base w) w w' := by
  have tC : Ty w C 135 := ⟨_, _, hM.hC⟩
  have hng : ¬ g = C := fun e => absurd (ty_one (e ▸ h5.ty) tC) (by decide)
  have hblk := h5.mod hm hng
  have hin : ∀ m, m < n + 1 → InAt w' g (o + 6 * m) In.fin := fun m hk => (h6 m hk).mod hm hng
  have hpool : Pool w' base pv' (ps ++ [(g, o)]) := by
    rcases hpv with h | h
    · exact Or.inl h
    · refine Or.inr ⟨g, o + 6, n, h, by omega, by omega, h4, hblk, fun m hk => ?_, fun a ha e => ?_⟩
      · have := hin (m + 1) (by omega)
        rwa [show o + 6 * (m + 1) = o + 6 + 6 * m by omega] at this
      · rcases List.mem_append.mp ha with p | p
        · have := h7 a p e; omega
        · simp at p; subst p; simp
  refine ⟨g, o, rfl, ⟨pv', hM.repool hm hC ?_, hpool, fun hmem => by have := h7 _ hmem rfl; simp at this, h4, hblk, hin 0 (by omega), h2, by omega⟩, hM.tf hm⟩
  rcases hpool with h1 | ⟨g, o', n, h1, h2, h3, h4, h5, h6, h7⟩
  · exact Or.inl h1
  · exact Or.inr ⟨g, o', n, h1, h2, h3, h4, h5, h6, fun a ha => h7 a (by simp [ha])⟩
set_option maxHeartbeats 4000000 in
theorem alloc_old (base C gs ge g o n : Nat) (iv pv qv sv : Value) (ps : List (Nat × Nat)) (l : List In) (w : World) (hM : CM w base C gs ge iv pv qv sv ps l) (hpv : pv = .slice (some ⟨g, o, none⟩) (n + 1 : Nat) (n + 1 : Nat))
    (h2 : o % 6 = 0) (h3 : o + 6 * (n + 1) = 96) (h4 : base ≤ g) (h5 : Blk w g) (h6 : ∀ m, m < n + 1 → InAt w g (o + 6 * m) In.fin) (h7 : ∀ a ∈ ps, a.1 = g → a.2 < o) :
    Calls Tryd.prog 65 #[.pointer (some ⟨C, 0, none⟩)] w fun e w' => ∃ b o : Nat, e = .returned (.pointer (some ⟨b, o, none⟩)) ∧ (∃ pv', HM w' base C gs ge iv pv' qv sv ps l b o In.fin) ∧ Mod (TF cE base w) w w' := by
  have h := hM.hC
  rw [hpv] at h
  have c2 : w.cell? ⟨C, 2, none⟩ = some (.slice (some ⟨g, o, none⟩) (n + 1 : Nat) (n + 1 : Nat)) := block_cell h rfl
  have f2 : w.frozen? ⟨C, 2, none⟩ = false := block_free h
  have HH := Lib.hid h
  have HM := Lib.hid hM
  have H6 := Lib.hid (And.intro h5 (And.intro h6 h7))
  have hn16 : n < 16 := by omega
  clear h hM hpv h5 h6 h7
  go_enter Tryd.func65, Tryd.ntmps65
  go_wp2_with fail
  case inl =>
    obtain rfl : n = 0 := by assumption
    go_ret
    have hb := block_set (i := 2) (u := .slice (some ⟨g, o, none⟩) 0 0) HH.out
    have hm : Mod (fun k => k = C) w (w.setCell ⟨C, 2, none⟩ (.slice (some ⟨g, o, none⟩) 0 0)) := (Mod.refl (fun k => k = C) w).setCell (p := ⟨C, 2, none⟩) (fun _ => rfl) _
    exact old_end base C gs ge g o 0 iv _ qv sv ps l w _ _ HM.out h2 h3 h4 H6.out.1 H6.out.2.1 H6.out.2.2 hm (by simpa using hb) (Or.inl ⟨_, rfl⟩)
  go_ret
  have hb := block_set (i := 2) (u := .slice (some ⟨g, o + 6, none⟩) n n) HH.out
  have hm : Mod (fun k => k = C) w (w.setCell ⟨C, 2, none⟩ (.slice (some ⟨g, o + 6, none⟩) n n)) := (Mod.refl (fun k => k = C) w).setCell (p := ⟨C, 2, none⟩) (fun _ => rfl) _
  exact old_end base C gs ge g o n iv _ qv sv ps l w _ _ HM.out h2 h3 h4 H6.out.1 H6.out.2.1 H6.out.2.2 hm (by simpa using hb) (Or.inr rfl)
theorem alloc_ci (base C gs ge : Nat) (iv pv qv sv : Value) (ps : List (Nat × Nat)) (l : List In) (w : World) (hM : CM w base C gs ge iv pv qv sv ps l) :
    Calls Tryd.prog 65 #[.pointer (some ⟨C, 0, none⟩)] w fun e w' => ∃ b o : Nat, e = .returned (.pointer (some ⟨b, o, none⟩)) ∧ (∃ pv', HM w' base C gs ge iv pv' qv sv ps l b o In.fin) ∧ Mod (TF cE base w) w w' := by
  rcases hM.pool with ⟨ao, h⟩ | ⟨g, o, n, h1, h2, h3, h4, h5, h6, h7⟩
  · exact alloc_new base C gs ge iv pv qv sv ps l w hM ao h
  · rcases n with _ | n
    · exact alloc_new base C gs ge iv pv qv sv ps l w hM _ h1
    · exact alloc_old base C gs ge g o n iv pv qv sv ps l w hM h1 h2 h3 h4 h5 h6 h7
theorem top_any (base C gs ge : Nat) (iv pv qv sv : Value) (ps : List (Nat × Nat)) (l : List In) (w : World) (hM : CM w base C gs ge iv pv qv sv ps l) :
    Calls Tryd.prog 77 #[.pointer (some ⟨C, 0, none⟩)] w fun e w' => e = .returned (.int .u64 (l.length : Int)) ∧ w = w' := by
  have c1 : w.cell? ⟨C, 1, none⟩ = some iv := block_cell hM.hC rfl
  have hb : l.length ≤ 9223372036854775807 := (reads_of_owns hM.hi).bound
  obtain ⟨ao, cap, rfl⟩ := ownsRow_form hM.hi
  clear hM
  go_enter Tryd.func77, Tryd.ntmps77
  go_wp2
  go_ret
  exact ⟨rfl, rfl⟩
end Go.Proofs.YtnpchkohfomagaaDoor.Rgw
/-! The compiler of expressions: emptySplit, emptyJump, setSplit, setJump, checkSize. -/
namespace Go.Proofs.YtnpchkohfomagaaDoor.Rgw
open Go.ChangeShapes Go.WideShapes Go.ChangeAt Go.RowKit Go.Trav Go.Rg Go.Proofs.YtnpchkohfomagaaDoor.Seq
set_option linter.unusedVariables false
set_option linter.unusedSimpArgs false
set_option maxRecDepth 100000
/-- The compiler with the instructions l. -/
def CI (w : World) (base C gs ge : Nat) (qv sv : Value) (l : List In) : Prop := ∃ iv pv ps, CM w base C gs ge iv pv qv sv ps l
theorem CI.bound {w : World} {base C gs ge : Nat} {qv sv : Value} {l : List In} (h : CI w base C gs ge qv sv l) : l.length ≤ 9223372036854775807 := by
  obtain ⟨iv, pv, ps, h⟩ := h
  exact (reads_of_owns h.hi).bound
theorem CI.mod {w w' : World} {base C gs ge : Nat} {qv sv : Value} {l : List In} {F : Nat → Prop} (h : CI w base C gs ge qv sv l) (m : Mod F w w') (hF : ∀ k T, Ty w k T → T ∈ cA → ¬ F k) : CI w' base C gs ge qv sv l := by
  obtain ⟨iv, pv, ps, h⟩ := h; exact ⟨iv, pv, ps, h.mod m hF⟩
theorem CI.below {w w' : World} {base C gs ge : Nat} {qv sv : Value} {l : List In} (h : CI w base C gs ge qv sv l) (hb : Below w.heap.size w w') : CI w' base C gs ge qv sv l := by
  obtain ⟨iv, pv, ps, h⟩ := h; exact ⟨iv, pv, ps, h.below hb⟩
theorem CI.base_le {w : World} {base C gs ge : Nat} {qv sv : Value} {l : List In} (h : CI w base C gs ge qv sv l) : base ≤ w.heap.size := by
  obtain ⟨iv, pv, ps, h⟩ := h
  have := h.gC
  have := block_lt h.hC
  omega
theorem HM.set0 {w : World} {base C gs ge : Nat} {iv pv qv sv : Value} {ps : List (Nat × Nat)} {l : List In} {b o : Nat} {i : In} (h : HM w base C gs ge iv pv qv sv ps l b o i) (x : Nat) :
    HM (w.setCell ⟨b, o, none⟩ (.int .i64 (x : Int))) base C gs ge iv pv qv sv ps l b o { i with op := x } := h.set 0 x (by omega)
theorem HM.set4 {w : World} {base C gs ge : Nat} {iv pv qv sv : Value} {ps : List (Nat × Nat)} {l : List In} {b o : Nat} {i : In} (h : HM w base C gs ge iv pv qv sv ps l b o i) (x : Nat) :
    HM (w.setCell ⟨b, o + 4, none⟩ (.int .u8 (x : Int))) base C gs ge iv pv qv sv ps l b o { i with lo := x } := h.set 4 x (by omega)
theorem HM.set5 {w : World} {base C gs ge : Nat} {iv pv qv sv : Value} {ps : List (Nat × Nat)} {l : List In} {b o : Nat} {i : In} (h : HM w base C gs ge iv pv qv sv ps l b o i) (x : Nat) :
    HM (w.setCell ⟨b, o + 5, none⟩ (.int .u8 (x : Int))) base C gs ge iv pv qv sv ps l b o { i with hi := x } := h.set 5 x (by omega)
theorem HM.tf {w : World} {base C gs ge : Nat} {iv pv qv sv : Value} {ps : List (Nat × Nat)} {l : List In} {b o : Nat} {i : In} (h : HM w base C gs ge iv pv qv sv ps l b o i) (j : Nat) (v : Value) : Mod (TF cE base w) w (w.setCell ⟨b, j, none⟩ v) :=
  (Mod.refl _ w).setCell (p := ⟨b, j, none⟩) (fun _ => ⟨h.gb, 103, by decide, h.bk.ty⟩) v
/-- An append that lays the instruction into the row, as it stands behind the law. -/
theorem HM.pushed {w w1 : World} {base C gs ge : Nat} {iv pv qv sv iv' : Value} {ps : List (Nat × Nat)} {l : List In} {b o : Nat} {i : In} {ob : Obj} (h : HM w base C gs ge iv pv qv sv ps l b o i)
    (hg : (w.alloc ob).grownBy w1 iv.ownBlock) (hr : w1.ownsRow base 79 1 iv' (l.length + 1) (ps.map pV ++ [.pointer (some ⟨b, o, none⟩)])) :
    CI (w1.setCell ⟨C, 1, none⟩ iv') base C gs ge qv sv (l ++ [i]) ∧ Mod (TF cE base w) w (w1.setCell ⟨C, 1, none⟩ iv') ∧ w1.cell? ⟨C, 1, none⟩ = some iv ∧ w1.frozen? ⟨C, 1, none⟩ = false := by
  have m1 : Mod (fun k => iv.ownBlock = some k) w w1 := ((Mod.refl _ w).alloc ob).grown hg fun k hk _ => hk
  have tC : Ty w C 135 := ⟨_, _, h.cm.hC⟩
  have hnC : ¬ iv.ownBlock = some C := fun e => absurd (ty_one tC (ty_own h.cm.hi e)) (by decide)
  have hC1 := m1.heap h.cm.hC hnC
  have hp := h.push (w1 := w1) (iv' := iv') (F := fun _ => False) m1 (by simpa [pV] using hr) rfl
  refine ⟨⟨_, _, _, hp⟩, ?_, block_cell hC1 rfl, block_free hC1⟩
  have a1 : Mod (TF cE base w) w w1 := m1.mono fun k _ hk => ⟨(h.cm.hi.lt k hk).1, 79, by decide, ty_own h.cm.hi hk⟩
  exact a1.setCell (p := ⟨C, 1, none⟩) (fun _ => ⟨h.cm.gC, 135, by decide, tC⟩) _
set_option maxHeartbeats 4000000 in
theorem split_ci (base C gs ge : Nat) (qv sv : Value) (l : List In) (w : World) (hM : CI w base C gs ge qv sv l) (hl : l.length ≤ 50000000000) :
    Calls Tryd.prog 76 #[.pointer (some ⟨C, 0, none⟩)] w fun e w' => e = .returned (.int .u64 (l.length : Int)) ∧ CI w' base C gs ge qv sv (l ++ [In.spl 0 0]) ∧ Mod (TF cE base w) w w' := by
  have hbs := hM.base_le
  obtain ⟨iv, pv, ps, hM⟩ := hM
  have hal := alloc_ci base C gs ge iv pv qv sv ps l w hM
  have HAL := Lib.hid hal
  clear hal hM
  go_enter Tryd.func76, Tryd.ntmps76
  go_wp2_with fail
  refine HAL.out.mono ?_
  rintro e w1 ⟨b, o, rfl, ⟨pv', hH⟩, hm1⟩
  have c0 : w1.cell? ⟨b, o, none⟩ = some (.int .i64 0) := hH.at_.c0
  have f0 : w1.frozen? ⟨b, o, none⟩ = false := hH.bk.free
  have hH2 := hH.set0 2
  have hm2 := TF.trans hm1 (hH.tf o (.int .i64 2))
  have k1 : (w1.setCell ⟨b, o, none⟩ (.int .i64 2)).cell? ⟨C, 1, none⟩ = some iv := block_cell hH2.cm.hC rfl
  have hbw : base ≤ (w1.setCell ⟨b, o, none⟩ (.int .i64 2)).heap.size := Nat.le_trans hbs hm2.size
  have HH := Lib.hid hH2
  have HM2 := Lib.hid hm2
  clear hH hH2 hm1 hm2 HAL
  have hown : (w1.setCell ⟨b, o, none⟩ (.int .i64 2)).ownsRow base 79 1 iv l.length (ps.map pV) := HH.out.cm.hi
  have HO := Lib.hid hown
  clear hown
  go_wp2_with (first
    | (at_builtin; (refine wpList_append_one rfl (.tmp 13) (.tmp 15) 64 rfl base 79 _ 1 8 Tryd.underlying64 Tryd.infoPinst rfl (by decide) (by decide) _ _ _ rfl HO.out #[.pointer (some ⟨b, o, none⟩)] _ _ rfl (by simp) rfl (by simp [Value.oneCell']) (by omega) hbw ?_; intro ao5 cap5 w5 hown5 hgr5 hat5; obtain ⟨q1, q2, k5, k5f⟩ := HH.out.pushed hgr5 hown5; have HC := Lib.hid q1; have HX := Lib.hid (TF.trans HM2.out q2); clear q1 q2 hown5 hgr5 hat5))
    | go_in)
  go_ret
  exact ⟨rfl, HC.out, HX.out⟩
set_option maxHeartbeats 4000000 in
theorem jump_ci (base C gs ge : Nat) (qv sv : Value) (l : List In) (w : World) (hM : CI w base C gs ge qv sv l) (hl : l.length ≤ 50000000000) :
    Calls Tryd.prog 78 #[.pointer (some ⟨C, 0, none⟩)] w fun e w' => e = .returned (.int .u64 (l.length : Int)) ∧ CI w' base C gs ge qv sv (l ++ [In.jmp 0]) ∧ Mod (TF cE base w) w w' := by
  have hbs := hM.base_le
  obtain ⟨iv, pv, ps, hM⟩ := hM
  have hal := alloc_ci base C gs ge iv pv qv sv ps l w hM
  have HAL := Lib.hid hal
  clear hal hM
  go_enter Tryd.func78, Tryd.ntmps78
  go_wp2_with fail
  refine HAL.out.mono ?_
  rintro e w1 ⟨b, o, rfl, ⟨pv', hH⟩, hm1⟩
  have c0 : w1.cell? ⟨b, o, none⟩ = some (.int .i64 0) := hH.at_.c0
  have f0 : w1.frozen? ⟨b, o, none⟩ = false := hH.bk.free
  have hH2 := hH.set0 1
  have hm2 := TF.trans hm1 (hH.tf o (.int .i64 1))
  have k1 : (w1.setCell ⟨b, o, none⟩ (.int .i64 1)).cell? ⟨C, 1, none⟩ = some iv := block_cell hH2.cm.hC rfl
  have hbw : base ≤ (w1.setCell ⟨b, o, none⟩ (.int .i64 1)).heap.size := Nat.le_trans hbs hm2.size
  have HH := Lib.hid hH2
  have HM2 := Lib.hid hm2
  clear hH hH2 hm1 hm2 HAL
  have hown : (w1.setCell ⟨b, o, none⟩ (.int .i64 1)).ownsRow base 79 1 iv l.length (ps.map pV) := HH.out.cm.hi
  have HO := Lib.hid hown
  clear hown
  go_wp2_with (first
    | (at_builtin; (refine wpList_append_one rfl (.tmp 13) (.tmp 15) 64 rfl base 79 _ 1 8 Tryd.underlying64 Tryd.infoPinst rfl (by decide) (by decide) _ _ _ rfl HO.out #[.pointer (some ⟨b, o, none⟩)] _ _ rfl (by simp) rfl (by simp [Value.oneCell']) (by omega) hbw ?_; intro ao5 cap5 w5 hown5 hgr5 hat5; obtain ⟨q1, q2, k5, k5f⟩ := HH.out.pushed hgr5 hown5; have HC := Lib.hid q1; have HX := Lib.hid (TF.trans HM2.out q2); clear q1 q2 hown5 hgr5 hat5))
    | go_in)
  go_ret
  exact ⟨rfl, HC.out, HX.out⟩
/-- The instruction k with other numbers. -/
theorem CM.modify {w : World} {base C gs ge : Nat} {iv pv qv sv : Value} {ps : List (Nat × Nat)} {l : List In} (h : CM w base C gs ge iv pv qv sv ps l) {k : Nat} {a : Nat × Nat} {i : In} (hk : ps[k]? = some a) (hi : l[k]? = some i) (j x : Nat) (hj : j < 6) :
    CM (w.setCell ⟨a.1, a.2 + j, none⟩ (ival j x)) base C gs ge iv pv qv sv ps (l.set k (iset i j x)) ∧ Mod (TF cE base w) w (w.setCell ⟨a.1, a.2 + j, none⟩ (ival j x)) := by
  obtain ⟨b1, b2, b3, b4, b5⟩ := h.at_ k a i hk hi
  have hm : Mod (fun k => k = a.1) w (w.setCell ⟨a.1, a.2 + j, none⟩ (ival j x)) := (Mod.refl (fun k => k = a.1) w).setCell (p := ⟨a.1, a.2 + j, none⟩) (fun _ => rfl) _
  have hF : ∀ k T, Ty w k T → T ≠ 103 → ¬ k = a.1 := fun k T ht hn e => hn (ty_one (e ▸ ht) b2.ty)
  have ow : ∀ {q : Nat} {e : TypeId} {size : Nat} {v : Value} {n : Nat} {xs : List Value}, w.ownsRow q e size v n xs → e ≠ 103 → (w.setCell ⟨a.1, a.2 + j, none⟩ (ival j x)).ownsRow q e size v n xs := fun h he => ownsRow_mod h hm fun g hg => hF g _ (ty_own h hg) he
  obtain ⟨n1, x1, q1⟩ := h.hq
  obtain ⟨n2, x2, q2⟩ := h.hs
  have hne : ∀ (m : Nat) (c : Nat × Nat), ps[m]? = some c → m ≠ k → c ≠ a := fun m c hmc hmk e => by
    subst e
    exact hmk ((List.getElem?_inj (List.getElem?_eq_some_iff.mp hmc).1 h.nd).mp (hmc.trans hk.symm))
  refine ⟨⟨hm.heap h.hC (hF C _ ⟨_, _, h.hC⟩ (by decide)), by rw [List.length_set]; exact ow h.hi (by decide), by rw [List.length_set]; exact h.hp, h.nd, fun m c i' h1 h2 => ?_, ?_, ⟨n1, x1, ow q1 (by decide)⟩, ⟨n2, x2, ow q2 (by decide)⟩, h.bs.mod hm (hF _ _ (ty_buf h.bs) (by decide)), h.be.mod hm (hF _ _ (ty_buf h.be) (by decide)), h.ne, h.gC, h.gq, h.gz, h.gb⟩, ?_⟩
  · by_cases e : k = m
    · subst e
      rw [hk] at h1; cases h1
      rw [List.getElem?_set_self (List.getElem?_eq_some_iff.mp hi).1] at h2
      cases h2
      exact ⟨b1, b2.set, b3.set b2 b5 hj, b4, b5⟩
    · rw [List.getElem?_set_ne e] at h2
      obtain ⟨d1, d2, d3, d4, d5⟩ := h.at_ m c i' h1 h2
      refine ⟨d1, d2.set, d3.set_ne d4 b4 hj ?_, d4, d5⟩
      have := hne m c h1 (fun x => e x.symm)
      by_cases e1 : a.1 = c.1
      · exact Or.inr fun e2 => this (Prod.ext e1.symm e2.symm)
      · exact Or.inl e1
  · rcases h.pool with h1 | ⟨g, o', n, h1, h2, h3, h4, h5, h6, h7⟩
    · exact Or.inl h1
    · refine Or.inr ⟨g, o', n, h1, h2, h3, h4, h5.set, fun m hm => (h6 m hm).set_ne (by omega) b4 hj ?_, h7⟩
      by_cases e : a.1 = g
      · right
        have := h7 a (List.mem_of_getElem? hk) e
        omega
      · exact Or.inl e
  · exact (Mod.refl _ w).setCell (p := ⟨a.1, a.2 + j, none⟩) (fun _ => ⟨b1, 103, by decide, b2.ty⟩) _
theorem CM.ptr {w : World} {base C gs ge : Nat} {iv pv qv sv : Value} {ps : List (Nat × Nat)} {l : List In} (h : CM w base C gs ge iv pv qv sv ps l) {k : Nat} {i : In} (hi : l[k]? = some i) :
    ∃ g cap b o, iv = .slice (some ⟨g, 0, none⟩) l.length cap ∧ ps[k]? = some (b, o) ∧ w.cell? ⟨g, k, none⟩ = some (.pointer (some ⟨b, o, none⟩)) := by
  have hk : k < ps.length := by rw [h.hp]; exact (List.getElem?_eq_some_iff.mp hi).1
  obtain ⟨g, cap, e, _, _, _, hc⟩ := ownsRow_at h.hi (by rw [List.length_map]; omega)
  have hp : ps[k]? = some ps[k] := List.getElem?_eq_getElem hk
  exact ⟨g, cap, ps[k].1, ps[k].2, e, hp, (hc k (pV ps[k]) (by rw [List.getElem?_map, hp]; rfl)).1⟩
set_option maxHeartbeats 4000000 in
theorem setS_ci (base C gs ge k a b : Nat) (qv sv : Value) (l : List In) (i : In) (w : World) (hM : CI w base C gs ge qv sv l) (hi : l[k]? = some i) :
    Calls Tryd.prog 79 #[.pointer (some ⟨C, 0, none⟩), .int .u64 (k : Int), .int .u64 (a : Int), .int .u64 (b : Int)] w fun e w' => e = .returned (.tuple #[]) ∧ CI w' base C gs ge qv sv (l.set k { i with a := a, b := b }) ∧ Mod (TF cE base w) w w' := by
  obtain ⟨iv, pv, ps, hM⟩ := hM
  obtain ⟨g, cap, pb, po, rfl, hp, hc⟩ := hM.ptr hi
  have hkl := (List.getElem?_eq_some_iff.mp hi).1
  have hbd : l.length ≤ 9223372036854775807 := (reads_of_owns hM.hi).bound
  obtain ⟨b1, b2, b3, b4, b5⟩ := hM.at_ k (pb, po) i hp hi
  have c1 : w.cell? ⟨C, 1, none⟩ = some (.slice (some ⟨g, 0, none⟩) l.length cap) := block_cell hM.hC rfl
  obtain ⟨hM2, hm2⟩ := hM.modify hp hi 2 a (by omega)
  obtain ⟨hM3, hm3⟩ := hM2.modify (i := iset i 2 a) hp (by rw [List.getElem?_set_self hkl]) 3 b (by omega)
  have d2 : w.cell? ⟨pb, po + 2, none⟩ = some (.int .u64 (i.a : Int)) := b3.c2
  have e2 : w.frozen? ⟨pb, po + 2, none⟩ = false := b2.free
  have d3 : (w.setCell ⟨pb, po + 2, none⟩ (.int .u64 (a : Int))).cell? ⟨pb, po + 3, none⟩ = some (.int .u64 (i.b : Int)) := cell_set_ne b3.c3 (Or.inr (by omega))
  have e3 : (w.setCell ⟨pb, po + 2, none⟩ (.int .u64 (a : Int))).frozen? ⟨pb, po + 3, none⟩ = false := (b2.set (v := .int .u64 (a : Int)) (b' := pb) (j := po + 2)).free
  have HR := Lib.hid (And.intro hM3 (TF.trans hm2 hm3))
  have hkl' : (k : Int) < (l.length : Int) := by omega
  have hk0 : (0 : Int) ≤ (k : Int) := by omega
  clear hM hM2 hM3 hm2 hm3 b1 b2 b3 hp
  go_enter Tryd.func79, Tryd.ntmps79
  go_wp2_with fail
  go_end0
  have h9 := HR.out.1
  rw [List.set_set] at h9
  exact ⟨rfl, ⟨_, _, _, h9⟩, HR.out.2⟩
set_option maxHeartbeats 4000000 in
theorem setJ_ci (base C gs ge k a : Nat) (qv sv : Value) (l : List In) (i : In) (w : World) (hM : CI w base C gs ge qv sv l) (hi : l[k]? = some i) :
    Calls Tryd.prog 80 #[.pointer (some ⟨C, 0, none⟩), .int .u64 (k : Int), .int .u64 (a : Int)] w fun e w' => e = .returned (.tuple #[]) ∧ CI w' base C gs ge qv sv (l.set k { i with to := a }) ∧ Mod (TF cE base w) w w' := by
  obtain ⟨iv, pv, ps, hM⟩ := hM
  obtain ⟨g, cap, pb, po, rfl, hp, hc⟩ := hM.ptr hi
  have hkl := (List.getElem?_eq_some_iff.mp hi).1
  have hbd : l.length ≤ 9223372036854775807 := (reads_of_owns hM.hi).bound
  obtain ⟨b1, b2, b3, b4, b5⟩ := hM.at_ k (pb, po) i hp hi
  have c1 : w.cell? ⟨C, 1, none⟩ = some (.slice (some ⟨g, 0, none⟩) l.length cap) := block_cell hM.hC rfl
  obtain ⟨hM2, hm2⟩ := hM.modify hp hi 1 a (by omega)
  have d2 : w.cell? ⟨pb, po + 1, none⟩ = some (.int .u64 (i.to : Int)) := b3.c1
  have e2 : w.frozen? ⟨pb, po + 1, none⟩ = false := b2.free
  have HR := Lib.hid (And.intro hM2 hm2)
  have hkl' : (k : Int) < (l.length : Int) := by omega
  have hk0 : (0 : Int) ≤ (k : Int) := by omega
  clear hM hM2 hm2 b1 b2 b3 hp
  go_enter Tryd.func80, Tryd.ntmps80
  go_wp2_with fail
  go_end0
  exact ⟨rfl, ⟨_, _, _, HR.out.1⟩, HR.out.2⟩
theorem check_ok (base C gs ge : Nat) (qv sv : Value) (l : List In) (w : World) (hM : CI w base C gs ge qv sv l) (hl : l.length ≤ 262144) :
    Calls Tryd.prog 81 #[.pointer (some ⟨C, 0, none⟩)] w fun e w' => e = .returned .nilIface ∧ Below w.heap.size w w' := by
  obtain ⟨iv, pv, ps, hM⟩ := hM
  have c0 : w.cell? ⟨C, 0, none⟩ = some (.int .u64 10485760) := block_cell hM.hC rfl
  have c1 : w.cell? ⟨C, 1, none⟩ = some iv := block_cell hM.hC rfl
  obtain ⟨ao, cap, rfl⟩ := ownsRow_form hM.hi
  have hw : IntKind.i64.wrap ((l.length : Int) * 40) = (l.length : Int) * 40 := IntWalk.i64_in _ (by omega)
  have hw2 : IntKind.u64.wrap ((l.length : Int) * 40) = (l.length : Int) * 40 := IntWalk.u64_in _ (by omega)
  have ht : decide ((10485760 : Int) < (l.length : Int) * 40) = false := decide_eq_false (by omega)
  clear hM
  go_enter Tryd.func81, Tryd.ntmps81
  go_wp2_with fail
  go_quiet (fail)
  go_wp2_with fail
  go_ret
  exact ⟨rfl, below_draws _ _⟩
theorem check_big (base C gs ge : Nat) (qv sv ev : Value) (l : List In) (w : World) (hM : CI w base C gs ge qv sv l) (hl : 262144 < l.length) (hl2 : l.length ≤ 100000000000) (hg : w.cell? ⟨3, 0, none⟩ = some ev) :
    Calls Tryd.prog 81 #[.pointer (some ⟨C, 0, none⟩)] w fun e w' => e = .returned ev ∧ Below w.heap.size w w' := by
  obtain ⟨iv, pv, ps, hM⟩ := hM
  have c0 : w.cell? ⟨C, 0, none⟩ = some (.int .u64 10485760) := block_cell hM.hC rfl
  have c1 : w.cell? ⟨C, 1, none⟩ = some iv := block_cell hM.hC rfl
  obtain ⟨ao, cap, rfl⟩ := ownsRow_form hM.hi
  have hw : IntKind.i64.wrap ((l.length : Int) * 40) = (l.length : Int) * 40 := IntWalk.i64_in _ (by omega)
  have hw2 : IntKind.u64.wrap ((l.length : Int) * 40) = (l.length : Int) * 40 := IntWalk.u64_in _ (by omega)
  have ht : decide ((10485760 : Int) < (l.length : Int) * 40) = true := decide_eq_true (by omega)
  have hgd : ∀ k, (w.drewN k).cell? ⟨3, 0, none⟩ = some ev := fun k => hg
  clear hM
  go_enter Tryd.func81, Tryd.ntmps81
  go_wp2_with fail
  go_quiet (fail)
  go_wp2_with fail
  go_ret
  exact ⟨rfl, below_draws _ _⟩
end Go.Proofs.YtnpchkohfomagaaDoor.Rgw
/-! The compiler of expressions: compileUtf8Ranges. -/
namespace Go.Proofs.YtnpchkohfomagaaDoor.Rgw
open Go.ChangeShapes Go.WideShapes Go.ChangeAt Go.RowKit Go.Trav Go.Rg Go.Proofs.YtnpchkohfomagaaDoor.Seq Go.Utf
set_option linter.unusedVariables false
set_option linter.unusedSimpArgs false
set_option maxRecDepth 100000
theorem seqAt_tf {B0 base : Nat} {w w' : World} {v : Value} {q : Int × Int} {Ts : List TypeId} (h : SeqAt B0 w v q) (m : Mod (TF Ts base w) w w') (hT : 195 ∉ Ts) : SeqAt B0 w' v q := by
  refine h.mod m fun g ⟨_, T, hm, c, fr, e⟩ o ho => ?_
  rw [e] at ho; cases ho
  exact ⟨c, T, fr, rfl, fun e => hT (e ▸ hm)⟩
theorem seqAt_below {B0 : Nat} {w w' : World} {v : Value} {q : Int × Int} (h : SeqAt B0 w v q) (hb : Below w.heap.size w w') : SeqAt B0 w' v q := by
  obtain ⟨g, h1, h2, h3⟩ := h
  exact ⟨g, h1, h2, block_below h3 hb (block_lt h3)⟩
theorem seqAt_cells {B0 : Nat} {w : World} {v : Value} {q : Int × Int} (h : SeqAt B0 w v q) {k : Nat} {x : Nat × Nat} (hg : Utf.Good q.1 q.2) (hx : (seqN q)[k]? = some x) :
    ∃ g, v = .slice (some ⟨g, 0, none⟩) (wid q.1) (wid q.1) ∧ w.cell? ⟨g, k * 2, none⟩ = some (.int .u8 (x.1 : Int)) ∧ w.cell? ⟨g, k * 2 + 1, none⟩ = some (.int .u8 (x.2 : Int)) := by
  obtain ⟨g, _, e, h3⟩ := h
  simp only [seqN, List.getElem?_map, Option.map_eq_some_iff] at hx
  obtain ⟨z, hz, rfl⟩ := hx
  have hd := good_digits hg z (List.mem_of_getElem? hz)
  have e1 : ((z.1.toNat : Nat) : Int) = z.1 := by omega
  have e2 : ((z.2.toNat : Nat) : Int) = z.2 := by omega
  refine ⟨g, e, ?_, ?_⟩
  · refine block_cell h3 ?_
    have := flatMap_at rgCells 2 (fun _ => rfl) (seqOf q) k 0 (by omega) z hz
    simp only [e1]
    simpa [rgCells] using this
  · refine block_cell h3 ?_
    have := flatMap_at rgCells 2 (fun _ => rfl) (seqOf q) k 1 (by omega) z hz
    simp only [e2]
    simpa [rgCells] using this
theorem seqIns_at {q : Int × Int} {k : Nat} {x : Nat × Nat} (hx : (seqN q)[k]? = some x) : (seqIns q).take (k + 1) = (seqIns q).take k ++ [In.rng x.1 x.2] :=
  take_snoc' _ _ _ (by rw [seqIns, List.getElem?_map, hx]; rfl)
set_option maxHeartbeats 8000000 in
theorem ranges_ci (base C gs ge B0 : Nat) (qv sv v : Value) (q : Int × Int) (l : List In) (w : World) (hM : CI w base C gs ge qv sv l) (hq : SeqAt B0 w v q) (hg : Utf.Good q.1 q.2) (hl : l.length + 4 ≤ 50000000000) :
    Calls Tryd.prog 74 #[.pointer (some ⟨C, 0, none⟩), v] w fun e w' => e = .returned (.tuple #[]) ∧ CI w' base C gs ge qv sv (l ++ seqIns q) ∧ Mod (TF cE base w) w w' := by
  have hw4 := wid_le4 q.1
  have hsl := seqIns_len hg
  have hbs := hM.base_le
  obtain ⟨g, hgq, rfl, hblk⟩ := hq
  have hsq : SeqAt B0 w (.slice (some ⟨g, 0, none⟩) (wid q.1) (wid q.1)) q := ⟨g, hgq, rfl, hblk⟩
  have HM0 := Lib.hid hM
  have HQ := Lib.hid hsq
  clear hM hgq hblk hsq
  generalize hwn : wid q.1 = n at *
  go_enter Tryd.func74, Tryd.ntmps74
  go_wp2_with fail
  go_loopw [5, 6, 9] (fun _ _ ix wr => ∃ k : Nat, ix = .int .i64 k ∧ k ≤ n ∧ Hid (CI wr base C gs ge qv sv (l ++ (seqIns q).take k)) ∧ Hid (Mod (TF cE base w) w wr)) (fun _ _ ix _ => n - (intOf ix).toNat)
  case atStart => exact ⟨0, rfl, Nat.zero_le _, Lib.hid (by simpa using HM0.out), Lib.hid (Mod.refl _ _)⟩
  case round =>
    obtain ⟨k, rfl, hk, HC, HW⟩ := hrel
    by_cases hlt : k < n
    · have hsq := seqAt_tf HQ.out HW.out (by decide)
      obtain ⟨x, hx⟩ : ∃ x, (seqN q)[k]? = some x := ⟨_, List.getElem?_eq_getElem (by have : (seqN q).length = wid q.1 := (by rw [← seqIns_len hg]; simp [seqIns]); omega)⟩
      obtain ⟨g', e', c0, c1⟩ := seqAt_cells hsq hg hx
      rw [hwn] at e'
      cases e'
      have HX := Lib.hid hx
      have hwb : Below wr.heap.size wr (wr.alloc (.cells #[.int .u8 (x.1 : Int), .int .u8 (x.2 : Int)] 195 (0, 0))) := (Below.refl _ _).alloc (Nat.le_refl _) _
      have hca := HC.out.below hwb
      have hwa : Mod (TF cE base w) w (wr.alloc (.cells #[.int .u8 (x.1 : Int), .int .u8 (x.2 : Int)] 195 (0, 0))) := HW.out.alloc _
      have HCA := Lib.hid hca
      have HWA := Lib.hid hwa
      have hlk : (l ++ (seqIns q).take k).length ≤ 49999999999 := by simp; omega
      have hlb : base ≤ wr.heap.size := HC.out.base_le
      clear hsq hx hwb hca hwa HC HW
      generalize hln : l ++ (seqIns q).take k = L at *
      have HLN := Lib.hid hln
      clear hln
      obtain ⟨iv, pv, ps, hCM⟩ := HCA.out
      have HAL := Lib.hid (alloc_ci base C gs ge iv pv qv sv ps L _ hCM)
      clear hCM
      go_wp2_with fail
      refine HAL.out.mono ?_
      rintro e w1 ⟨b, o, rfl, ⟨pv', hH⟩, hm1⟩
      have hbr : w1.heap[wr.heap.size]? = some (.cells #[.int .u8 (x.1 : Int), .int .u8 (x.2 : Int)] 195 (0, 0)) := hm1.heap (heap_alloc_new wr _) (TF.not (T := 195) ⟨_, _, heap_alloc_new wr _⟩ (by decide))
      have hne : b ≠ wr.heap.size := fun e => absurd (ty_one (e ▸ hH.bk.ty) (show Ty w1 wr.heap.size 195 from ⟨_, _, hbr⟩)) (by decide)
      have r0 : w1.cell? ⟨wr.heap.size, 0, none⟩ = some (.int .u8 (x.1 : Int)) := block_cell hbr rfl
      have r1 : w1.cell? ⟨wr.heap.size, 1, none⟩ = some (.int .u8 (x.2 : Int)) := block_cell hbr rfl
      have d0 : w1.cell? ⟨b, o, none⟩ = some (.int .i64 0) := hH.at_.c0
      have f0 : w1.frozen? ⟨b, o, none⟩ = false := hH.bk.free
      have hH2 := hH.set0 3
      have hH4 := hH2.set4 x.1
      have hH5 := hH4.set5 x.2
      have r0' := cell_set_ne (b' := b) (o' := o) (v := .int .i64 3) r0 (Or.inl hne)
      have r1' := cell_set_ne (b' := b) (o' := o + 4) (v := .int .u8 (x.1 : Int)) (cell_set_ne (b' := b) (o' := o) (v := .int .i64 3) r1 (Or.inl hne)) (Or.inl hne)
      have d4 : (w1.setCell ⟨b, o, none⟩ (.int .i64 3)).cell? ⟨b, o + 4, none⟩ = some (.int .u8 0) := hH2.at_.c4
      have f4 : (w1.setCell ⟨b, o, none⟩ (.int .i64 3)).frozen? ⟨b, o + 4, none⟩ = false := hH2.bk.free
      have d5 : ((w1.setCell ⟨b, o, none⟩ (.int .i64 3)).setCell ⟨b, o + 4, none⟩ (.int .u8 (x.1 : Int))).cell? ⟨b, o + 5, none⟩ = some (.int .u8 0) := hH4.at_.c5
      have f5 : ((w1.setCell ⟨b, o, none⟩ (.int .i64 3)).setCell ⟨b, o + 4, none⟩ (.int .u8 (x.1 : Int))).frozen? ⟨b, o + 5, none⟩ = false := hH4.bk.free
      have hm5 := TF.trans (TF.trans (TF.trans hm1 (hH.tf o (.int .i64 3))) (hH2.tf (o + 4) (.int .u8 (x.1 : Int)))) (hH4.tf (o + 5) (.int .u8 (x.2 : Int)))
      have k1 : (((w1.setCell ⟨b, o, none⟩ (.int .i64 3)).setCell ⟨b, o + 4, none⟩ (.int .u8 (x.1 : Int))).setCell ⟨b, o + 5, none⟩ (.int .u8 (x.2 : Int))).cell? ⟨C, 1, none⟩ = some iv := block_cell hH5.cm.hC rfl
      have hbw : base ≤ (((w1.setCell ⟨b, o, none⟩ (.int .i64 3)).setCell ⟨b, o + 4, none⟩ (.int .u8 (x.1 : Int))).setCell ⟨b, o + 5, none⟩ (.int .u8 (x.2 : Int))).heap.size := Nat.le_trans hlb (Nat.le_trans (by simp) hm5.size)
      have HH := Lib.hid hH5
      have hO : (((w1.setCell ⟨b, o, none⟩ (.int .i64 3)).setCell ⟨b, o + 4, none⟩ (.int .u8 (x.1 : Int))).setCell ⟨b, o + 5, none⟩ (.int .u8 (x.2 : Int))).ownsRow base 79 1 iv L.length (ps.map pV) := hH5.cm.hi
      have HO := Lib.hid hO
      have HM5 := Lib.hid (TF.trans HWA.out (by simpa using hm5))
      clear hbr hH hH2 hH4 hH5 hm1 hm5 hO HAL r0 r1
      go_wp2_with (first
        | (at_builtin; (refine wpList_append_one rfl (.tmp 32) (.tmp 34) 64 rfl base 79 _ 1 8 Tryd.underlying64 Tryd.infoPinst rfl (by decide) (by decide) _ _ _ rfl HO.out #[.pointer (some ⟨b, o, none⟩)] _ _ rfl (by simp) rfl (by simp [Value.oneCell']) (by omega) hbw ?_; intro ao5 cap5 w5 hown5 hgr5 hat5; obtain ⟨q1, q2, k5, k5f⟩ := HH.out.pushed hgr5 hown5; have HCC := Lib.hid q1; have HXX := Lib.hid (TF.trans HM5.out q2); clear q1 q2 hown5 hgr5 hat5))
        | go_in)
      go_roundw
      case rel =>
        refine ⟨k + 1, by go_num, by omega, Lib.hid ?_, HXX⟩
        rw [seqIns_at HX.out, ← List.append_assoc, HLN.out]
        exact HCC.out
      case measure => simp [intOf]; omega
    · obtain rfl : k = n := by omega
      go_wp2_with fail
      go_end0
      have h9 := HC.out
      rw [List.take_of_length_le (by omega)] at h9
      exact ⟨rfl, h9, HW.out⟩
end Go.Proofs.YtnpchkohfomagaaDoor.Rgw
