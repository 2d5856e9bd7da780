/- The automaton of instructions: the builder's memory. -/
import Derived.Test.YtnpchkohfomagaaDoorRgRa
import Derived.Test.YtnpchkohfomagaaDoorRgKey
import Derived.Maps.OwnSet
import Derived.Maps.AppendAt
namespace Go.Proofs.YtnpchkohfomagaaDoor.Rgw
open Go.ChangeShapes Go.WideShapes Go.ChangeAt Go.RowKit Go.Trav Go.Rg Go.Maps Go.Proofs.YtnpchkohfomagaaDoor.Sparse
set_option linter.unusedVariables false
set_option maxRecDepth 100000
/-- A state as it lies: its instructions, the block of its row, whether it matches. -/
structure SV where
  iv : Value
  nb : Nat
  m : Bool
def SV.cells (s : SV) : List Value := [s.iv, .slice (some ⟨s.nb, 0, none⟩) 256 256, .bool s.m]
def iN (x : Nat) : Value := .int .i64 (x : Int)
/-- The builder's blocks. -/
def BF (U D M : Nat) (sv kv : Value) (sts : List SV) (k : Nat) : Prop := k = U ∨ k = D ∨ k = M ∨ kv.ownBlock = some k ∨ sv.ownBlock = some k ∨ ∃ s ∈ sts, s.iv.ownBlock = some k ∨ s.nb = k
/-- The builder. -/
structure BI (w : World) (base U D M : Nat) (pv sv kv : Value) (sts : List SV) (l : List In) (Ks nx : List (List Nat)) : Prop where
  hU : w.heap[U]? = some (.cells #[.pointer (some ⟨D, 0, none⟩), .map (some M), kv] 143 (0, 0))
  hD : w.heap[D]? = some (.cells #[pv, sv] 140 (0, 0))
  hM : ∃ (n : Nat) (Dm : DataW Unit), n ≤ Ks.length ∧ w.ownsMap Tryd.prog 9 (plainElem Tryd.prog 3) M n Dm ∧ CacheIs Dm Ks
  hk : ∃ m xs, w.ownsRow base 5 1 kv m xs
  hs : w.ownsRow base 145 3 sv sts.length (sts.flatMap SV.cells)
  hl : sts.length = Ks.length + 1
  hx : nx.length = Ks.length
  hi : ∀ (j : Nat) K, Ks[j]? = some K → ∃ s, sts[j + 1]? = some s ∧ s.m = isM l K ∧ w.ownsRow base 54 1 s.iv K.length (K.map uV)
  hn : ∀ (j : Nat) r, nx[j]? = some r → r.length = 256 ∧ ∃ s, sts[j + 1]? = some s ∧ w.heap[s.nb]? = some (.cells (r.map iN).toArray 3 (0, 0))
  h0 : ∃ nb, sts[0]? = some ⟨.slice none 0 0, nb, false⟩ ∧ w.heap[nb]? = some (.cells ((List.replicate 256 0).map iN).toArray 3 (0, 0))
  nd : (sts.map SV.nb).Nodup
  gU : base ≤ U
  gD : base ≤ D
  gM : base ≤ M
  gn : ∀ s ∈ sts, base ≤ s.nb
theorem BI.mod {w w' : World} {base U D M : Nat} {pv sv kv : Value} {sts : List SV} {l : List In} {Ks nx : List (List Nat)} {F : Nat → Prop} (h : BI w base U D M pv sv kv sts l Ks nx) (m : Mod F w w') (hF : ∀ k, BF U D M sv kv sts k → ¬ F k) : BI w' base U D M pv sv kv sts l Ks nx := by
  refine ⟨m.heap h.hU (hF _ (Or.inl rfl)), m.heap h.hD (hF _ (Or.inr (Or.inl rfl))), ?_, ?_, ?_, h.hl, h.hx, fun j K hj => ?_, fun j r hj => ?_, ?_, h.nd, h.gU, h.gD, h.gM, h.gn⟩
  · obtain ⟨n, Dm, h1, ⟨es, clock, hb, rest⟩, h3⟩ := h.hM
    exact ⟨n, Dm, h1, ⟨es, clock, m.heap hb (hF _ (Or.inr (Or.inr (Or.inl rfl)))), rest⟩, h3⟩
  · obtain ⟨a, xs, h1⟩ := h.hk
    exact ⟨a, xs, ownsRow_mod h1 m fun g hg => hF g (Or.inr (Or.inr (Or.inr (Or.inl hg))))⟩
  · exact ownsRow_mod h.hs m fun g hg => hF g (Or.inr (Or.inr (Or.inr (Or.inr (Or.inl hg)))))
  · obtain ⟨s, h1, h2, h3⟩ := h.hi j K hj
    exact ⟨s, h1, h2, ownsRow_mod h3 m fun g hg => hF g (Or.inr (Or.inr (Or.inr (Or.inr (Or.inr ⟨s, List.mem_of_getElem? h1, Or.inl hg⟩)))))⟩
  · obtain ⟨h0, s, h1, h2⟩ := h.hn j r hj
    exact ⟨h0, s, h1, m.heap h2 (hF _ (Or.inr (Or.inr (Or.inr (Or.inr (Or.inr ⟨s, List.mem_of_getElem? h1, Or.inr rfl⟩))))))⟩
  · obtain ⟨nb, h1, h2⟩ := h.h0
    exact ⟨nb, h1, m.heap h2 (hF _ (Or.inr (Or.inr (Or.inr (Or.inr (Or.inr ⟨_, List.mem_of_getElem? h1, Or.inr rfl⟩))))))⟩
theorem row_get {l : List Nat} {c x : Nat} (h : l[c]? = some x) : (l.map iN).toArray[c]? = some (iN x) := by rw [List.getElem?_toArray, List.getElem?_map, h]; rfl
theorem st_cells {w : World} {base sz : Nat} {T : TypeId} {sv : Value} {sts : List SV} (h : w.ownsRow base T 3 sv sz (sts.flatMap SV.cells)) (hz : sz = sts.length) (h0 : 0 < sz) :
    ∃ sb cap, sv = .slice (some ⟨sb, 0, none⟩) sz cap ∧ sb < w.heap.size ∧ ∀ (n : Nat) s, sts[n]? = some s → w.cell? ⟨sb, n * 3, none⟩ = some s.iv ∧ w.cell? ⟨sb, n * 3 + 1, none⟩ = some (.slice (some ⟨s.nb, 0, none⟩) 256 256) ∧ w.cell? ⟨sb, n * 3 + 2, none⟩ = some (.bool s.m) := by
  have hlt := h.lt
  obtain ⟨hl, hv⟩ := h
  rcases hv with ⟨_, e⟩ | ⟨g, cap, cur, rfl, hg, hb, hn, hc, hs, ht⟩
  · omega
  · refine ⟨g, cap, rfl, block_lt hb, fun n s hsn => ?_⟩
    have key : ∀ j v, j < 3 → s.cells[j]? = some v → w.cell? ⟨g, n * 3 + j, none⟩ = some v := by
      intro j v hj hv
      have h1 := flatMap_at SV.cells 3 (fun _ => rfl) sts n j hj s hsn
      rw [hv, ← ht, List.getElem?_take] at h1
      split at h1
      · refine block_cell hb ?_
        rw [← h1]
        simp
      · cases h1
    exact ⟨key 0 _ (by omega) rfl, key 1 _ (by omega) rfl, key 2 _ (by omega) rfl⟩
/-! ### Blocks apart by the types of their cells -/
def Ty (w : World) (k : Nat) (T : TypeId) : Prop := ∃ c fr, w.heap[k]? = some (.cells c T fr)
theorem ty_one {w : World} {k : Nat} {T T' : TypeId} (h : Ty w k T) (h' : Ty w k T') : T = T' := by
  obtain ⟨c, fr, h⟩ := h
  obtain ⟨c', fr', h'⟩ := h'
  rw [h] at h'
  simp at h'
  exact h'.2.1
theorem ty_own {w : World} {base : Nat} {e : TypeId} {size : Nat} {v : Value} {n : Nat} {xs : List Value} (h : w.ownsRow base e size v n xs) {k : Nat} (hk : v.ownBlock = some k) : Ty w k e := by
  rcases h.2 with ⟨rfl, _⟩ | ⟨g, cap, cur, rfl, _, hg, _⟩
  · cases hk
  · simp [Value.ownBlock] at hk
    subst hk
    exact ⟨_, _, hg⟩
theorem ty_lt {w : World} {k : Nat} {T : TypeId} (h : Ty w k T) : k < w.heap.size := by obtain ⟨_, _, h⟩ := h; exact block_lt h
/-- The blocks of the states' own rows. -/
def NF (sts : List SV) (k : Nat) : Prop := ∃ s ∈ sts, s.iv.ownBlock = some k ∨ s.nb = k
section
variable {w : World} {base U D M : Nat} {pv sv kv : Value} {sts : List SV} {l : List In} {Ks nx : List (List Nat)}
theorem BI.st (h : BI w base U D M pv sv kv sts l Ks nx) {s : SV} (hs : s ∈ sts) : Ty w s.nb 3 ∧ ∀ k, s.iv.ownBlock = some k → Ty w k 54 := by
  obtain ⟨j, hj, e⟩ := List.getElem_of_mem hs
  have e' : sts[j]? = some s := by rw [List.getElem?_eq_getElem hj, e]
  rcases j with _ | j
  · obtain ⟨nb, h1, h2⟩ := h.h0
    rw [e'] at h1; cases h1
    exact ⟨⟨_, _, h2⟩, by intro k hk; cases hk⟩
  · have hjk : j < Ks.length := by have := h.hl; omega
    obtain ⟨s1, h1, _, h3⟩ := h.hi j _ (List.getElem?_eq_getElem hjk)
    obtain ⟨_, s2, h4, h5⟩ := h.hn j _ (List.getElem?_eq_getElem (by rw [h.hx]; exact hjk))
    rw [e'] at h1 h4; cases h1; cases h4
    exact ⟨⟨_, _, h5⟩, fun k hk => ty_own h3 hk⟩
theorem BI.nf (h : BI w base U D M pv sv kv sts l Ks nx) {k : Nat} (hk : NF sts k) : Ty w k 54 ∨ Ty w k 3 := by
  obtain ⟨s, hs, hk | hk⟩ := hk
  · exact Or.inl ((h.st hs).2 k hk)
  · subst hk; exact Or.inr (h.st hs).1
theorem BI.tU (h : BI w base U D M pv sv kv sts l Ks nx) : Ty w U 143 := ⟨_, _, h.hU⟩
theorem BI.tD (h : BI w base U D M pv sv kv sts l Ks nx) : Ty w D 140 := ⟨_, _, h.hD⟩
theorem BI.tk (h : BI w base U D M pv sv kv sts l Ks nx) {k : Nat} (hk : kv.ownBlock = some k) : Ty w k 5 := by obtain ⟨_, _, h1⟩ := h.hk; exact ty_own h1 hk
theorem BI.ts (h : BI w base U D M pv sv kv sts l Ks nx) {k : Nat} (hk : sv.ownBlock = some k) : Ty w k 145 := ty_own h.hs hk
theorem BI.tM (h : BI w base U D M pv sv kv sts l Ks nx) {T : TypeId} : ¬ Ty w M T := by
  obtain ⟨n, Dm, _, ⟨es, clock, hb, _⟩, _⟩ := h.hM
  rintro ⟨c, fr, h⟩
  rw [hb] at h
  cases h
theorem BI.mlt (h : BI w base U D M pv sv kv sts l Ks nx) : M < w.heap.size := by
  obtain ⟨n, Dm, _, h1, _⟩ := h.hM
  exact h1.lt
theorem BI.lt (h : BI w base U D M pv sv kv sts l Ks nx) {k : Nat} (hk : BF U D M sv kv sts k) : k < w.heap.size := by
  rcases hk with rfl | rfl | rfl | hk | hk | hk
  · exact ty_lt h.tU
  · exact ty_lt h.tD
  · exact h.mlt
  · exact ty_lt (h.tk hk)
  · exact ty_lt (h.ts hk)
  · rcases h.nf hk with p | p <;> exact ty_lt p
theorem BI.ge (h : BI w base U D M pv sv kv sts l Ks nx) {k : Nat} (hk : BF U D M sv kv sts k) : base ≤ k := by
  rcases hk with rfl | rfl | rfl | hk | hk | ⟨s, hs, hk | hk⟩
  · exact h.gU
  · exact h.gD
  · exact h.gM
  · obtain ⟨_, _, h1⟩ := h.hk; exact (h1.lt k hk).1
  · exact (h.hs.lt k hk).1
  · obtain ⟨j, hj, e⟩ := List.getElem_of_mem hs
    have e' : sts[j]? = some s := by rw [List.getElem?_eq_getElem hj, e]
    rcases j with _ | j
    · obtain ⟨nb, h1, h2⟩ := h.h0
      rw [e'] at h1; cases h1
      cases hk
    · have hjk : j < Ks.length := by have := h.hl; omega
      obtain ⟨s1, h1, _, h3⟩ := h.hi j _ (List.getElem?_eq_getElem hjk)
      rw [e'] at h1; cases h1
      exact (h3.lt k hk).1
  · subst hk; exact h.gn s hs
/-- The states' own rows stay, the rest is laid anew. -/
theorem BI.again {w' : World} {sv' kv' : Value} {F : Nat → Prop} (h : BI w base U D M pv sv kv sts l Ks nx) (m : Mod F w w') (hF : ∀ k, NF sts k → ¬ F k)
    (hU : w'.heap[U]? = some (.cells #[.pointer (some ⟨D, 0, none⟩), .map (some M), kv'] 143 (0, 0))) (hD : w'.heap[D]? = some (.cells #[pv, sv'] 140 (0, 0)))
    (hM : ∃ (n : Nat) (Dm : DataW Unit), n ≤ Ks.length ∧ w'.ownsMap Tryd.prog 9 (plainElem Tryd.prog 3) M n Dm ∧ CacheIs Dm Ks) (hk : ∃ m xs, w'.ownsRow base 5 1 kv' m xs)
    (hs : w'.ownsRow base 145 3 sv' sts.length (sts.flatMap SV.cells)) : BI w' base U D M pv sv' kv' sts l Ks nx := by
  refine ⟨hU, hD, hM, hk, hs, h.hl, h.hx, fun j K hj => ?_, fun j r hj => ?_, ?_, h.nd, h.gU, h.gD, h.gM, h.gn⟩
  · obtain ⟨s, h1, h2, h3⟩ := h.hi j K hj
    exact ⟨s, h1, h2, ownsRow_mod h3 m fun g hg => hF g ⟨s, List.mem_of_getElem? h1, Or.inl hg⟩⟩
  · obtain ⟨h0, s, h1, h2⟩ := h.hn j r hj
    exact ⟨h0, s, h1, m.heap h2 (hF _ ⟨s, List.mem_of_getElem? h1, Or.inr rfl⟩)⟩
  · obtain ⟨nb, h1, h2⟩ := h.h0
    exact ⟨nb, h1, m.heap h2 (hF _ ⟨_, List.mem_of_getElem? h1, Or.inr rfl⟩)⟩
/-- One state more. -/
theorem BI.more {w' : World} {sv' kv' : Value} {F : Nat → Prop} {K : List Nat} {s : SV} (h : BI w base U D M pv sv kv sts l Ks nx) (m : Mod F w w') (hF : ∀ k, NF sts k → ¬ F k)
    (hU : w'.heap[U]? = some (.cells #[.pointer (some ⟨D, 0, none⟩), .map (some M), kv'] 143 (0, 0))) (hD : w'.heap[D]? = some (.cells #[pv, sv'] 140 (0, 0)))
    (hM : ∃ (n : Nat) (Dm : DataW Unit), n ≤ Ks.length + 1 ∧ w'.ownsMap Tryd.prog 9 (plainElem Tryd.prog 3) M n Dm ∧ CacheIs Dm (Ks ++ [K])) (hk : ∃ m xs, w'.ownsRow base 5 1 kv' m xs)
    (hs : w'.ownsRow base 145 3 sv' (sts.length + 1) ((sts ++ [s]).flatMap SV.cells))
    (hm : s.m = isM l K) (hiv : w'.ownsRow base 54 1 s.iv K.length (K.map uV)) (hnb : w'.heap[s.nb]? = some (.cells ((List.replicate 256 0).map iN).toArray 3 (0, 0))) (hnew : w.heap.size ≤ s.nb) (hbase : base ≤ w.heap.size) :
    BI w' base U D M pv sv' kv' (sts ++ [s]) l (Ks ++ [K]) (nx ++ [List.replicate 256 0]) := by
  have hl := h.hl
  have hx := h.hx
  refine ⟨hU, hD, ?_, hk, by simpa using hs, by simp [hl], by simp [hx], fun j L hj => ?_, fun j r hj => ?_, ?_, ?_, h.gU, h.gD, h.gM, ?_⟩
  · simpa using hM
  · by_cases hjk : j < Ks.length
    · rw [List.getElem?_append_left hjk] at hj
      obtain ⟨s1, h1, h2, h3⟩ := h.hi j L hj
      exact ⟨s1, by rw [List.getElem?_append_left (by omega)]; exact h1, h2, ownsRow_mod h3 m fun g hg => hF g ⟨s1, List.mem_of_getElem? h1, Or.inl hg⟩⟩
    · rw [List.getElem?_append_right (by omega)] at hj
      have : j = Ks.length := by have := (List.getElem?_eq_some_iff.mp hj).1; simp at this; omega
      subst this
      simp at hj; subst hj
      exact ⟨s, by rw [List.getElem?_append_right (by omega), hl]; simp, hm, hiv⟩
  · by_cases hjk : j < nx.length
    · rw [List.getElem?_append_left hjk] at hj
      obtain ⟨h0, s1, h1, h2⟩ := h.hn j r hj
      exact ⟨h0, s1, by rw [List.getElem?_append_left (by omega)]; exact h1, m.heap h2 (hF _ ⟨s1, List.mem_of_getElem? h1, Or.inr rfl⟩)⟩
    · rw [List.getElem?_append_right (by omega)] at hj
      have : j = nx.length := by have := (List.getElem?_eq_some_iff.mp hj).1; simp at this; omega
      subst this
      simp at hj; subst hj
      exact ⟨by simp, s, by rw [List.getElem?_append_right (by omega), hl, hx]; simp, hnb⟩
  · obtain ⟨nb, h1, h2⟩ := h.h0
    exact ⟨nb, by rw [List.getElem?_append_left (by omega)]; exact h1, m.heap h2 (hF _ ⟨_, List.mem_of_getElem? h1, Or.inr rfl⟩)⟩
  · rw [List.map_append, List.nodup_append]
    refine ⟨h.nd, by simp, fun a ha b hb e => ?_⟩
    simp at hb; subst hb; subst e
    obtain ⟨s1, hs1, e⟩ := List.mem_map.mp ha
    have := ty_lt (h.st hs1).1
    omega
  · intro s1 hs1
    rcases List.mem_append.mp hs1 with p | p
    · exact h.gn s1 p
    · simp at p; subst p; omega
/-- One place of one state's row is written. -/
theorem BI.write (h : BI w base U D M pv sv kv sts l Ks nx) {j b n : Nat} {r : List Nat} {s : SV} (hr : nx[j]? = some r) (hs : sts[j + 1]? = some s) (hb : b < 256) :
    BI (w.setCell ⟨s.nb, b, none⟩ (iN n)) base U D M pv sv kv sts l Ks (nx.set j (r.set b n)) := by
  have hsm := List.mem_of_getElem? hs
  have tn := (h.st hsm).1
  have hne : ∀ {k : Nat} {T : TypeId}, Ty w k T → T ≠ 3 → k ≠ s.nb := fun hT hne e => hne (ty_one (e ▸ hT) tn)
  have hmod : Mod (fun k => k = s.nb) w (w.setCell ⟨s.nb, b, none⟩ (iN n)) := (Mod.refl (fun k => k = s.nb) w).setCell (p := ⟨s.nb, b, none⟩) (fun _ => rfl) _
  refine ⟨hmod.heap h.hU (hne h.tU (by decide)), hmod.heap h.hD (hne h.tD (by decide)), ?_, ?_, ?_, h.hl, by simp [h.hx], fun i K hi => ?_, fun i q hi => ?_, ?_, h.nd, h.gU, h.gD, h.gM, h.gn⟩
  · obtain ⟨a, Dm, h1, ⟨es, clock, hb, rest⟩, h3⟩ := h.hM
    exact ⟨a, Dm, h1, ⟨es, clock, hmod.heap hb (fun e => h.tM (e ▸ tn)), rest⟩, h3⟩
  · obtain ⟨a, xs, h1⟩ := h.hk
    exact ⟨a, xs, ownsRow_mod h1 hmod fun g hg => hne (ty_own h1 hg) (by decide)⟩
  · exact ownsRow_mod h.hs hmod fun g hg => hne (ty_own h.hs hg) (by decide)
  · obtain ⟨s1, h1, h2, h3⟩ := h.hi i K hi
    exact ⟨s1, h1, h2, ownsRow_mod h3 hmod fun g hg => hne (ty_own h3 hg) (by decide)⟩
  · by_cases e : j = i
    · subst e
      obtain ⟨h256, s1, h1, h2⟩ := h.hn j r hr
      rw [hs] at h1; cases h1
      rw [List.getElem?_set_self (List.getElem?_eq_some_iff.mp hr).1] at hi
      cases hi
      refine ⟨by simp [h256], s, hs, ?_⟩
      rw [block_set h2, row_set]
    · rw [List.getElem?_set_ne e] at hi
      obtain ⟨h256, s1, h1, h2⟩ := h.hn i q hi
      refine ⟨h256, s1, h1, hmod.heap h2 fun e' => ?_⟩
      have hnd := h.nd
      have g1 : (sts.map SV.nb)[i + 1]? = some s1.nb := by rw [List.getElem?_map, h1]; rfl
      have g2 : (sts.map SV.nb)[j + 1]? = some s.nb := by rw [List.getElem?_map, hs]; rfl
      have := (List.getElem?_inj (List.getElem?_eq_some_iff.mp g1).1 hnd).mp (show (sts.map SV.nb)[_]? = (sts.map SV.nb)[j + 1]? by rw [g1, g2, e'])
      omega
  · obtain ⟨nb, h1, h2⟩ := h.h0
    refine ⟨nb, h1, hmod.heap h2 fun e' => ?_⟩
    have hnd := h.nd
    have g1 : (sts.map SV.nb)[0]? = some nb := by rw [List.getElem?_map, h1]; rfl
    have g2 : (sts.map SV.nb)[j + 1]? = some s.nb := by rw [List.getElem?_map, hs]; rfl
    have := (List.getElem?_inj (List.getElem?_eq_some_iff.mp g1).1 hnd).mp (show (sts.map SV.nb)[_]? = (sts.map SV.nb)[j + 1]? by rw [g1, g2, e'])
    omega
end
end Go.Proofs.YtnpchkohfomagaaDoor.Rgw
