/- The automaton of instructions: what the builder's loop holds. -/
import Derived.Test.YtnpchkohfomagaaDoorRgState
import Derived.Test.YtnpchkohfomagaaDoorRgStack
import Derived.Test.YtnpchkohfomagaaDoorRgPa
namespace Go.Proofs.YtnpchkohfomagaaDoor.Rgw
open Go.ChangeShapes Go.WideShapes Go.ChangeAt Go.RowKit Go.Trav Go.Pk Go.Rg Go.Maps Go.Proofs.YtnpchkohfomagaaDoor.Sparse
set_option linter.unusedVariables false
set_option linter.unusedSimpArgs false
set_option maxRecDepth 100000
/-! ### The set of the states seen -/
def SdN (l : List Nat) : DataW Unit := setOf (.agg []) (l.map fun (x : Nat) => Lit.int .i64 (x : Int))
theorem lawI : Keyed Tryd.prog 3 := int_keyed Tryd.underlying3
theorem zeroU (w : World) : (zeroValue 156).run Tryd.prog w = .ok (.agg #[]) w := by kernel_rfl
theorem key_lits (l : List Nat) : ∀ y ∈ l.map (fun (x : Nat) => Lit.int .i64 (x : Int)), WideAt.IsKeyLit y := fun y hy => by obtain ⟨_, _, rfl⟩ := List.mem_map.1 hy; trivial
theorem has_SdN (l : List Nat) (x : Nat) : Maps.has (SdN l) (.int .i64 (x : Int)) = decide (x ∈ l) := by
  unfold SdN
  rw [has_setOf _ _ _ (key_lits l), List.any_map]
  induction l with
  | nil => simp
  | cons a r ih =>
    rw [List.any_cons, ih]
    show (decide (IntKind.i64 = IntKind.i64 ∧ (a : Int) = (x : Int)) || decide (x ∈ r)) = _
    rw [Bool.eq_iff_iff]
    simp
    constructor
    · rintro (h | h)
      · exact Or.inl (by omega)
      · exact Or.inr h
    · rintro (h | h)
      · exact Or.inl (by omega)
      · exact Or.inr h
theorem SdN_snoc (l : List Nat) (x : Nat) : SdN (l ++ [x]) = (SdN l).put (.int .i64 (x : Int)) (.agg []) := by
  unfold SdN
  rw [List.map_append, List.map_cons, List.map_nil, setOf_snoc]
theorem size_SdN (l : List Nat) (h : l.Nodup) : Maps.size (SdN l) = l.length := by
  suffices hh : ∀ k, k ≤ l.length → Maps.size (SdN (l.take k)) = k by
    have := hh l.length (Nat.le_refl _)
    rwa [List.take_length] at this
  intro k
  induction k with
  | zero => intro _; rw [List.take_zero]; rfl
  | succ k ih =>
    intro hk
    have hkl : k < l.length := by omega
    have e : l.take (k + 1) = l.take k ++ [l[k]] := by rw [List.take_succ_eq_append_getElem hkl]
    rw [e, SdN_snoc, size_put (show Tidy (SdN (l.take k)) from tidy_setOf _ _ (key_lits _)), ih (by omega)]
    have hn : l[k] ∉ l.take k := fun hm => by
      obtain ⟨j, hj⟩ := List.mem_iff_getElem?.mp hm
      have hjk : j < k := by have := (List.getElem?_eq_some_iff.mp hj).1; rw [List.length_take] at this; omega
      rw [List.getElem?_take, if_pos hjk] at hj
      have := (List.getElem?_inj (List.getElem?_eq_some_iff.mp hj).1 h).mp (show l[j]? = l[k]? by rw [hj, List.getElem?_eq_getElem hkl])
      omega
    rw [has_SdN, if_neg (by simpa using hn)]
def seenSize (b : Nat) (w : World) : Nat := match w.heap[b]? with
  | some (.map es _) => es.size
  | _ => 0
theorem seenSize_eq {w : World} {b n : Nat} {l : List Nat} (h : w.ownsMap Tryd.prog 3 unitElem b n (SdN l)) (hn : l.Nodup) : seenSize b w = l.length := by
  rw [← size_SdN l hn]
  obtain ⟨es, clock, hb, _, _, hD⟩ := h
  rw [hD]
  unfold seenSize
  rw [hb]
  show es.size = List.length _
  rw [length_sorted]
  simp
theorem ownsMap_mod {H : Type} {P : Program} {k : TypeId} {R : Value → Option (DataW H × List MemPlace)} {w w' : World} {F : Nat → Prop} {b n : Nat} {D : DataW H} (h : w.ownsMap P k R b n D) (m : Mod F w w') (hb : ¬ F b) : w'.ownsMap P k R b n D := by
  obtain ⟨es, clock, h1, r⟩ := h
  exact ⟨es, clock, m.heap h1 hb, r⟩
def stkLen : Value → Nat
  | .slice _ n _ => n
  | _ => 0
def nz : Value → Nat
  | .int _ 0 => 0
  | _ => 1
/-! ### All that the builder works on, through steps elsewhere -/
section
variable {w w' : World} {K0 base U D M pb po pc B bd bs B' bd' bs' : Nat} {sv kv rv : Value} {sts : List SV} {l : List In} {Ks nx : List (List Nat)}
theorem All.mod {F : Nat → Prop} (h : All w K0 base U D M pb po pc B bd bs B' bd' bs' sv kv rv sts l Ks nx) (m : Mod F w w') (hF : ∀ k, FB U D M sv kv sts rv B bd bs B' bd' bs' k → ¬ F k) (hP : ∀ k, k < K0 → ¬ F k) :
    All w' K0 base U D M pb po pc B bd bs B' bd' bs' sv kv rv sts l Ks nx := by
  obtain ⟨S1, h1⟩ := h.cur
  obtain ⟨S2, h2⟩ := h.nxt
  obtain ⟨⟨mm, xs, h3⟩, h4⟩ := h.rv'
  exact ⟨h.P.mod m hP, h.bi.mod m fun k hk => hF k (Or.inl (Or.inl hk)), ⟨⟨mm, xs, ownsRow_mod h3 m fun k hk => hF k (Or.inl (Or.inr hk))⟩, h4⟩, ⟨S1, h1.mod m fun k hk => hF k (Or.inr (Or.inl hk))⟩, ⟨S2, h2.mod m fun k hk => hF k (Or.inr (Or.inr hk))⟩, h.a1, h.a2, h.a3, h.gk, Nat.le_trans h.bw m.size, h.kb⟩
theorem All.lt (h : All w K0 base U D M pb po pc B bd bs B' bd' bs' sv kv rv sts l Ks nx) {k : Nat} (hk : FB U D M sv kv sts rv B bd bs B' bd' bs' k) : k < w.heap.size := by
  obtain ⟨S1, h1⟩ := h.cur
  obtain ⟨S2, h2⟩ := h.nxt
  obtain ⟨⟨mm, xs, h3⟩, h4⟩ := h.rv'
  rcases hk with (hk | hk) | hk | hk
  · exact h.bi.lt hk
  · exact (h3.lt k hk).2
  · exact h1.lt hk
  · exact h2.lt hk
theorem All.ge (h : All w K0 base U D M pb po pc B bd bs B' bd' bs' sv kv rv sts l Ks nx) {k : Nat} (hk : FB U D M sv kv sts rv B bd bs B' bd' bs' k) : base ≤ k := by
  obtain ⟨⟨mm, xs, h3⟩, h4⟩ := h.rv'
  obtain ⟨K1, g1, g2, ⟨g3, g4, g5⟩, ⟨g6, g7, g8⟩⟩ := h.gk
  have hD := h.bi.gD
  rcases hk with (hk | hk) | hk | hk
  · exact h.bi.ge hk
  · exact (h3.lt k hk).1
  · unfold SF at hk; omega
  · unfold SF at hk; omega
end
/-- The loop's memory. -/
structure LS (w0 w : World) (K0 base U D M pb po pc B bd bs B' bd' bs' Sm : Nat) (sv kv rv stv : Value) (sts : List SV) (l : List In) (Ks nx : List (List Nat)) (seen stack : List Nat) : Prop where
  all : All w K0 base U D M pb po pc B bd bs B' bd' bs' sv kv rv sts l Ks nx
  stk : w.ownsRow base 3 1 stv stack.length (stack.map iN)
  sna : ∀ k, stv.ownBlock = some k → ¬ FB U D M sv kv sts rv B bd bs B' bd' bs' k
  map : w.ownsMap Tryd.prog 3 unitElem Sm seen.length (SdN seen)
  smf : ¬ FB U D M sv kv sts rv B bd bs B' bd' bs' Sm
  sms : stv.ownBlock ≠ some Sm
  smb : base ≤ Sm
  bel : Below base w0 w
section
variable {w0 w w' : World} {K0 base U D M pb po pc B bd bs B' bd' bs' Sm : Nat} {sv kv rv stv : Value} {sts : List SV} {l : List In} {Ks nx : List (List Nat)} {seen stack : List Nat}
theorem LS.step {sv' kv' rv' : Value} {sts' : List SV} {Ks' nx' : List (List Nat)} (h : LS w0 w K0 base U D M pb po pc B bd bs B' bd' bs' Sm sv kv rv stv sts l Ks nx seen stack) (hA : All w' K0 base U D M pb po pc B bd bs B' bd' bs' sv' kv' rv' sts' l Ks' nx')
    (m : Mod (FB U D M sv kv sts rv B bd bs B' bd' bs') w w') (hs : ∀ k, FB U D M sv' kv' sts' rv' B bd bs B' bd' bs' k → FB U D M sv kv sts rv B bd bs B' bd' bs' k ∨ w.heap.size ≤ k) :
    LS w0 w' K0 base U D M pb po pc B bd bs B' bd' bs' Sm sv' kv' rv' stv sts' l Ks' nx' seen stack := by
  refine ⟨hA, ownsRow_mod h.stk m h.sna, fun k hk hf => ?_, ownsMap_mod h.map m h.smf, fun hf => ?_, h.sms, h.smb, h.bel.trans (m.toBelow h.all.bw fun k _ hk => h.all.ge hk)⟩
  · rcases hs k hf with p | p
    · exact h.sna k hk p
    · have := (h.stk.lt k hk).2; omega
  · rcases hs Sm hf with p | p
    · exact h.smf p
    · have := h.map.lt; omega
theorem LS.quiet (h : LS w0 w K0 base U D M pb po pc B bd bs B' bd' bs' Sm sv kv rv stv sts l Ks nx seen stack) (m : Mod (fun _ => False) w w') : LS w0 w' K0 base U D M pb po pc B bd bs B' bd' bs' Sm sv kv rv stv sts l Ks nx seen stack :=
  ⟨h.all.mod m (fun _ _ h => h) (fun _ _ h => h), ownsRow_mod h.stk m (fun _ _ h => h), h.sna, ownsMap_mod h.map m (fun h => h), h.smf, h.sms, h.smb, h.bel.trans (m.toBelow h.all.bw fun _ _ h => h.elim)⟩
theorem LS.pop {stv' : Value} {x : Nat} (h : LS w0 w K0 base U D M pb po pc B bd bs B' bd' bs' Sm sv kv rv stv sts l Ks nx seen (stack ++ [x])) (m : Mod (fun _ => False) w w') (hr : w'.ownsRow base 3 1 stv' stack.length (stack.map iN)) (hb : stv'.ownBlock = stv.ownBlock) :
    LS w0 w' K0 base U D M pb po pc B bd bs B' bd' bs' Sm sv kv rv stv' sts l Ks nx seen stack :=
  ⟨h.all.mod m (fun _ _ h => h) (fun _ _ h => h), hr, by rw [hb]; exact h.sna, ownsMap_mod h.map m (fun h => h), h.smf, by rw [hb]; exact h.sms, h.smb, h.bel.trans (m.toBelow h.all.bw fun _ _ h => h.elim)⟩
theorem LS.mark {x : Nat} (h : LS w0 w K0 base U D M pb po pc B bd bs B' bd' bs' Sm sv kv rv stv sts l Ks nx seen stack) (hk0 : K0 ≤ base) (hm : w'.ownsMap Tryd.prog 3 unitElem Sm (seen.length + 1) ((SdN seen).put (.int .i64 (x : Int)) (.agg []))) (hg : w.grownBy w' (some Sm)) :
    LS w0 w' K0 base U D M pb po pc B bd bs B' bd' bs' Sm sv kv rv stv sts l Ks nx (seen ++ [x]) stack := by
  have m : Mod (fun k => k = Sm) w w' := (Mod.refl _ w).grown hg fun k hk _ => (Option.some.inj hk).symm
  exact ⟨h.all.mod m (fun k hk e => h.smf (e ▸ hk)) (fun k hk e => by have := h.smb; omega), ownsRow_mod h.stk m fun k hk e => h.sms (e ▸ hk), h.sna, by rw [SdN_snoc]; simpa using hm, h.smf, h.sms, h.smb, h.bel.trans (m.toBelow h.all.bw fun k _ e => by rw [e]; exact h.smb)⟩
theorem LS.push {stv' : Value} {x : Nat} (h : LS w0 w K0 base U D M pb po pc B bd bs B' bd' bs' Sm sv kv rv stv sts l Ks nx seen stack) (hk0 : K0 ≤ base) (hr : w'.ownsRow base 3 1 stv' (stack ++ [x]).length ((stack ++ [x]).map iN)) (m : Mod (fun k => stv.ownBlock = some k) w w') (hb : stv'.ownBlock = stv.ownBlock ∨ stv'.ownBlock = some (w.heap.size + 1)) :
    LS w0 w' K0 base U D M pb po pc B bd bs B' bd' bs' Sm sv kv rv stv' sts l Ks nx seen (stack ++ [x]) := by
  have hge : ∀ k, stv.ownBlock = some k → base ≤ k := fun k hk => (h.stk.lt k hk).1
  refine ⟨h.all.mod m (fun k hk e => h.sna k e hk) (fun k hk e => by have := hge k e; omega), hr, fun k hk hf => ?_, ownsMap_mod h.map m h.sms, h.smf, fun e => ?_, h.smb, h.bel.trans (m.toBelow h.all.bw fun k _ hk => hge k hk)⟩
  · rcases hb with e | e
    · rw [e] at hk; exact h.sna k hk hf
    · rw [e] at hk
      have := h.all.lt hf
      simp only [Option.some.injEq] at hk
      omega
  · rcases hb with e' | e'
    · rw [e'] at e; exact h.sms e
    · rw [e'] at e
      have := h.map.lt
      simp only [Option.some.injEq] at e
      omega
end
end Go.Proofs.YtnpchkohfomagaaDoor.Rgw
