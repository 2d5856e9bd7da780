/- NewSequencesPrealloc: its memory, step by step. -/
import Derived.Test.YtnpchkohfomagaaDoorSeq2
import Derived.Deep.LoopGhost
namespace Go.Proofs.YtnpchkohfomagaaDoor.Seq
open Go.ChangeShapes Go.WideShapes Go.ChangeAt Go.RowKit Go.Trav Go.Utf
set_option linter.unusedVariables false
set_option maxRecDepth 100000
theorem Tryd.info164 : (Tryd.prog.info? 164).map (fun i => (i.zero, i.size, i.bytes)) = some (some (.slice none 0 0), 1, 24) := by kernel_rfl
/-- A sequence in a block of its own, from base on. -/
def SeqAt (base : Nat) (w : World) (v : Value) (q : Int × Int) : Prop :=
  ∃ g, base ≤ g ∧ v = .slice (some ⟨g, 0, none⟩) (wid q.1) (wid q.1) ∧ w.heap[g]? = some (.cells ((seqOf q).flatMap rgCells).toArray 195 (0, 0))
theorem SeqAt.mod {base : Nat} {w w' : World} {v : Value} {q : Int × Int} {F : Nat → Prop} (h : SeqAt base w v q) (hm : Mod F w w') (hF : ∀ g, F g → ∀ o, w.heap[g]? = some o → ∃ c T fr, o = .cells c T fr ∧ T ≠ 195) : SeqAt base w' v q := by
  obtain ⟨g, h1, h2, h3⟩ := h
  refine ⟨g, h1, h2, hm.heap h3 fun hf => ?_⟩
  obtain ⟨c, T, fr, e, hT⟩ := hF g hf _ h3
  cases e
  exact hT rfl
/-- The memory of the call: r in block B, the stack, what has been put out. -/
structure Mem (F : Nat → Prop) (w wr : World) (B gs cs ge ce : Nat) (s e : Int) (st out : List (Int × Int)) (sv ov : Value) : Prop where
  mod : Mod F w wr
  glob : Glob w
  gF : ¬ F 8 ∧ ¬ F 9
  r : RAt wr B s e
  newB : w.heap.size ≤ B
  bs : Buf wr gs cs
  be : Buf wr ge ce
  fb : (F gs ∨ w.heap.size ≤ gs) ∧ (F ge ∨ w.heap.size ≤ ge)
  cap : 4 ≤ cs ∧ 4 ≤ ce
  ne : gs ≠ ge
  stk : wr.ownsRow 0 187 2 sv st.length (st.reverse.flatMap srCells)
  stF : ∀ k, sv.ownBlock = some k → k ≠ B ∧ (F k ∨ w.heap.size ≤ k)
  row : ∃ vs, wr.ownsRow 0 164 1 ov out.length vs ∧ ∀ (i : Nat) v q, vs[i]? = some v → out[i]? = some q → SeqAt w.heap.size wr v q
  ovF : ∀ k, ov.ownBlock = some k → F k ∨ w.heap.size ≤ k
theorem Mem.gl {F : Nat → Prop} {w wr : World} {B gs cs ge ce : Nat} {s e : Int} {st out : List (Int × Int)} {sv ov : Value} (h : Mem F w wr B gs cs ge ce s e st out sv ov) : Glob wr := h.glob.mod h.mod h.gF.1 h.gF.2
theorem buf_ty {w : World} {g cap : Nat} (h : Buf w g cap) : ∀ o, w.heap[g]? = some o → ∃ c T fr, o = .cells c T fr ∧ T = 5 := by
  obtain ⟨cur, h1, _⟩ := h
  intro o ho
  rw [h1] at ho
  cases ho
  exact ⟨_, _, _, rfl, rfl⟩
theorem row_ty {w : World} {base : Nat} {e : TypeId} {size : Nat} {v : Value} {n : Nat} {xs : List Value} (h : w.ownsRow base e size v n xs) {k : Nat} (hk : v.ownBlock = some k) : ∀ o, w.heap[k]? = some o → ∃ c T fr, o = .cells c T fr ∧ T = e := by
  intro o ho
  rcases h.2 with ⟨rfl, _⟩ | ⟨g, cap, cur, rfl, _, hg, _⟩
  · simp [Value.ownBlock] at hk
  · simp only [Value.ownBlock, Option.some.injEq] at hk
    subst hk
    rw [hg] at ho
    cases ho
    exact ⟨_, _, _, rfl, rfl⟩
/-- Nothing of the call's has turned. -/
theorem Mem.below {F : Nat → Prop} {w wr w1 : World} {B gs cs ge ce : Nat} {s e : Int} {st out : List (Int × Int)} {sv ov : Value} (h : Mem F w wr B gs cs ge ce s e st out sv ov) (hb : Below wr.heap.size wr w1) : Mem F w w1 B gs cs ge ce s e st out sv ov := by
  have hm : Mod (fun _ => False) wr w1 := Mod.of_below hb
  obtain ⟨vs, r1, r2⟩ := h.row
  exact ⟨h.mod.step hm (fun _ _ h => h.elim), h.glob, h.gF, hm.heap h.r id, h.newB, h.bs.mod hm id, h.be.mod hm id, h.fb, h.cap, h.ne, ownsRow_mod h.stk hm (fun _ _ => id), h.stF,
    ⟨vs, ownsRow_mod r1 hm (fun _ _ => id), fun i v q h1 h2 => (r2 i v q h1 h2).mod hm fun _ hf => hf.elim⟩, h.ovF⟩
theorem Mem.cells {F : Nat → Prop} {w wr : World} {B gs cs ge ce : Nat} {s e : Int} {st out : List (Int × Int)} {sv ov : Value} (h : Mem F w wr B gs cs ge ce s e st out sv ov) :
    wr.cell? ⟨B, 0, none⟩ = some (.int .i32 s) ∧ wr.cell? ⟨B, 1, none⟩ = some (.int .i32 e) ∧ wr.frozen? ⟨B, 0, none⟩ = false ∧ wr.frozen? ⟨B, 1, none⟩ = false :=
  ⟨block_cell h.r rfl, block_cell h.r rfl, block_free h.r, block_free h.r⟩
/-- Into r. -/
theorem Mem.setR {F : Nat → Prop} {w wr w1 : World} {B gs cs ge ce : Nat} {s e s' e' : Int} {st out : List (Int × Int)} {sv ov : Value} (h : Mem F w wr B gs cs ge ce s e st out sv ov) (hm : Mod (fun k => k = B) wr w1) (hr : RAt w1 B s' e') : Mem F w w1 B gs cs ge ce s' e' st out sv ov := by
  have hB : ∀ o, wr.heap[B]? = some o → ∃ c T fr, o = .cells c T fr ∧ T = 187 := by
    intro o ho; rw [show wr.heap[B]? = _ from h.r] at ho; cases ho; exact ⟨_, _, _, rfl, rfl⟩
  have n1 : ¬ gs = B := by
    rintro rfl
    obtain ⟨_, _, _, e1, e2⟩ := hB _ h.r
    obtain ⟨_, _, _, e3, e4⟩ := buf_ty h.bs _ h.r
    rw [e1] at e3; cases e3; rw [e2] at e4; exact absurd e4 (by decide)
  have n2 : ¬ ge = B := by
    rintro rfl
    obtain ⟨_, _, _, e1, e2⟩ := hB _ h.r
    obtain ⟨_, _, _, e3, e4⟩ := buf_ty h.be _ h.r
    rw [e1] at e3; cases e3; rw [e2] at e4; exact absurd e4 (by decide)
  obtain ⟨vs, r1, r2⟩ := h.row
  have n3 : ∀ g, ov.ownBlock = some g → ¬ g = B := by
    rintro g hg rfl
    obtain ⟨_, _, _, e1, e2⟩ := hB _ h.r
    obtain ⟨_, _, _, e3, e4⟩ := row_ty r1 hg _ h.r
    rw [e1] at e3; cases e3; rw [e2] at e4; exact absurd e4 (by decide)
  refine ⟨h.mod.step hm (fun i hi e => ?_), h.glob, h.gF, hr, h.newB, h.bs.mod hm n1, h.be.mod hm n2, h.fb, h.cap, h.ne, ownsRow_mod h.stk hm (fun g hg => (h.stF g hg).1), h.stF,
    ⟨vs, ownsRow_mod r1 hm n3, fun i v q h1 h2 => (r2 i v q h1 h2).mod hm ?_⟩, h.ovF⟩
  · have := h.newB; omega
  · rintro g rfl o ho
    obtain ⟨c, T, fr, e1, e2⟩ := hB o ho
    exact ⟨c, T, fr, e1, by rw [e2]; decide⟩
theorem Mem.neB {F : Nat → Prop} {w wr : World} {B gs cs ge ce : Nat} {s e : Int} {st out : List (Int × Int)} {sv ov : Value} (h : Mem F w wr B gs cs ge ce s e st out sv ov) : B ≠ gs := by
  rintro rfl
  obtain ⟨_, _, _, e3, e4⟩ := buf_ty h.bs _ h.r
  cases e3; exact absurd e4 (by decide)
/-- A range onto the stack. -/
theorem Mem.push {F : Nat → Prop} {w wr w1 : World} {B gs cs ge ce : Nat} {s e a b : Int} {st out : List (Int × Int)} {sv sv' ov : Value} (h : Mem F w wr B gs cs ge ce s e st out sv ov)
    (hown : w1.ownsRow 0 187 2 sv' (st.length + 1) (st.reverse.flatMap srCells ++ srCells (a, b))) (hm : Mod (fun k => sv.ownBlock = some k) wr w1) (hat : ∀ k, sv'.ownBlock = some k → sv.ownBlock = some k ∨ wr.heap.size ≤ k) : Mem F w w1 B gs cs ge ce s e ((a, b) :: st) out sv' ov := by
  obtain ⟨vs, r1, r2⟩ := h.row
  have hsz := h.mod.size
  have hBl : B < wr.heap.size := block_lt h.r
  have nb : ∀ {g c}, Buf wr g c → sv.ownBlock ≠ some g := by
    intro g c hb hg
    obtain ⟨cur, e0, _⟩ := id hb
    obtain ⟨_, _, _, e1, e2⟩ := row_ty h.stk hg _ e0
    cases e1; exact absurd e2 (by decide)
  have n3 : ∀ g, ov.ownBlock = some g → sv.ownBlock ≠ some g := by
    intro g hg hs
    rcases r1.2 with ⟨rfl, _⟩ | ⟨g', cap, cur, rfl, _, hh, _⟩
    · simp [Value.ownBlock] at hg
    · simp only [Value.ownBlock, Option.some.injEq] at hg
      subst hg
      obtain ⟨_, _, _, e1, e2⟩ := row_ty h.stk hs _ hh
      cases e1; exact absurd e2 (by decide)
  refine ⟨h.mod.step hm (fun i hi e => ?_), h.glob, h.gF, hm.heap h.r (fun e => (h.stF B e).1 rfl), h.newB, h.bs.mod hm (nb h.bs), h.be.mod hm (nb h.be), h.fb, h.cap, h.ne, ?_, fun k hk => ?_,
    ⟨vs, ownsRow_mod r1 hm n3, fun i v q h1 h2 => (r2 i v q h1 h2).mod hm fun g hg o ho => ?_⟩, h.ovF⟩
  · rcases (h.stF i e).2 with h1 | h1
    · exact h1
    · omega
  · simp only [List.length_cons, List.reverse_cons, List.flatMap_append, List.flatMap_cons, List.flatMap_nil, List.append_nil]
    exact hown
  · rcases hat k hk with h1 | h1
    · exact h.stF k h1
    · exact ⟨by omega, Or.inr (by omega)⟩
  · obtain ⟨c, T, fr, e1, e2⟩ := row_ty h.stk hg o ho
    exact ⟨c, T, fr, e1, by rw [e2]; decide⟩
/-- One less on the stack (the value alone). -/
theorem Mem.cut {F : Nat → Prop} {w wr : World} {B gs cs ge ce : Nat} {s e : Int} {q : Int × Int} {st out : List (Int × Int)} {ao : Option Addr} {c : Nat} {ov : Value} (h : Mem F w wr B gs cs ge ce s e (q :: st) out (.slice ao (st.length + 1) c) ov) : Mem F w wr B gs cs ge ce s e st out (.slice ao st.length c) ov := by
  refine { h with stk := ?_, stF := ?_ }
  · have := ownsRow_cut h.stk (m := st.length) (by omega)
    simp only [List.reverse_cons, List.flatMap_append, List.flatMap_cons, List.flatMap_nil, List.append_nil] at this
    rw [List.take_left' (by rw [flatMap_len srCells 2 srCells_len]; simp)] at this
    exact this
  · intro k hk
    refine h.stF k ?_
    cases ao with
    | none => simp [Value.ownBlock] at hk
    | some a => simpa [Value.ownBlock] using hk
/-- A sequence is put out. -/
theorem Mem.put {F : Nat → Prop} {w wr w1 : World} {B gs cs ge ce : Nat} {s e : Int} {q : Int × Int} {st out : List (Int × Int)} {sv ov ov' v : Value} {o : Obj} (h : Mem F w wr B gs cs ge ce s e st out sv ov) (hq : SeqAt w.heap.size wr v q)
    {vs : List Value} (hvs : ∀ (i : Nat) v q, vs[i]? = some v → out[i]? = some q → SeqAt w.heap.size wr v q) (hold : wr.ownsRow 0 164 1 ov out.length vs)
    (hown : w1.ownsRow 0 164 1 ov' (out.length + 1) (vs ++ [v])) (hgr : (wr.alloc o).grownBy w1 ov.ownBlock) (hat : ov'.ownBlock = ov.ownBlock ∨ ov'.ownBlock = some (wr.heap.size + 1)) : Mem F w w1 B gs cs ge ce s e st (out ++ [q]) sv ov' := by
  have hm : Mod (fun k => ov.ownBlock = some k) wr w1 := ((Mod.refl _ _).alloc o).grown hgr fun k hk _ => hk
  have hsz := h.mod.size
  have nb : ∀ {g c}, Buf wr g c → ov.ownBlock ≠ some g := by
    intro g c hb hg
    obtain ⟨cur, e0, _⟩ := id hb
    obtain ⟨_, _, _, e1, e2⟩ := row_ty hold hg _ e0
    cases e1; exact absurd e2 (by decide)
  have nB : ov.ownBlock ≠ some B := by
    intro hg
    obtain ⟨_, _, _, e1, e2⟩ := row_ty hold hg _ h.r
    cases e1; exact absurd e2 (by decide)
  have n3 : ∀ g, sv.ownBlock = some g → ov.ownBlock ≠ some g := by
    intro g hg hs
    rcases h.stk.2 with ⟨rfl, _⟩ | ⟨g', cap, cur, rfl, _, hh, _⟩
    · simp [Value.ownBlock] at hg
    · simp only [Value.ownBlock, Option.some.injEq] at hg
      subst hg
      obtain ⟨_, _, _, e1, e2⟩ := row_ty hold hs _ hh
      cases e1; exact absurd e2 (by decide)
  have hF : ∀ g, ov.ownBlock = some g → ∀ o, wr.heap[g]? = some o → ∃ c T fr, o = .cells c T fr ∧ T ≠ 195 := by
    intro g hg o ho
    obtain ⟨c, T, fr, e1, e2⟩ := row_ty hold hg o ho
    exact ⟨c, T, fr, e1, by rw [e2]; decide⟩
  refine ⟨h.mod.step hm (fun i hi e => ?_), h.glob, h.gF, hm.heap h.r nB, h.newB, h.bs.mod hm (nb h.bs), h.be.mod hm (nb h.be), h.fb, h.cap, h.ne, ownsRow_mod h.stk hm n3, h.stF,
    ⟨vs ++ [v], by simpa using hown, fun i v' q' h1 h2 => ?_⟩, fun k hk => ?_⟩
  · rcases h.ovF i e with h1 | h1
    · exact h1
    · omega
  · have hlen : vs.length = out.length := by have := hold.1; omega
    rcases Nat.lt_or_ge i out.length with h3 | h3
    · rw [List.getElem?_append_left (by omega)] at h1
      rw [List.getElem?_append_left h3] at h2
      exact (hvs i v' q' h1 h2).mod hm hF
    · have := (List.getElem?_eq_some_iff.1 h2).1
      simp at this
      obtain rfl : i = out.length := by omega
      rw [← hlen] at h1
      simp at h1 h2
      subst h1 h2
      exact hq.mod hm hF
  · rcases hat with h1 | h1
    · rw [h1] at hk; exact h.ovF k hk
    · rw [h1] at hk
      simp only [Option.some.injEq] at hk
      exact Or.inr (by omega)
/-- Into the two buffers. -/
theorem Mem.bufs {F : Nat → Prop} {w wr w1 : World} {B gs cs ge ce : Nat} {s e : Int} {st out : List (Int × Int)} {sv ov : Value} (h : Mem F w wr B gs cs ge ce s e st out sv ov) (hm : Mod (fun k => k = gs ∨ k = ge) wr w1) (h1 : Buf w1 gs cs) (h2 : Buf w1 ge ce) : Mem F w w1 B gs cs ge ce s e st out sv ov := by
  have hsz := h.mod.size
  have hty : ∀ k, (k = gs ∨ k = ge) → ∀ o, wr.heap[k]? = some o → ∃ c T fr, o = .cells c T fr ∧ T = 5 := by
    rintro k (rfl | rfl)
    · exact buf_ty h.bs
    · exact buf_ty h.be
  have nB : ¬ (B = gs ∨ B = ge) := by
    intro hk
    obtain ⟨_, _, _, e1, e2⟩ := hty B hk _ h.r
    cases e1; exact absurd e2 (by decide)
  have nrow : ∀ {e size v n xs}, wr.ownsRow 0 e size v n xs → e ≠ 5 → ∀ g, v.ownBlock = some g → ¬ (g = gs ∨ g = ge) := by
    intro e size v n xs hr he g hg hk
    rcases hr.2 with ⟨rfl, _⟩ | ⟨g', cap, cur, rfl, _, hh, _⟩
    · simp [Value.ownBlock] at hg
    · simp only [Value.ownBlock, Option.some.injEq] at hg
      subst hg
      obtain ⟨_, _, _, e1, e2⟩ := hty _ hk _ hh
      cases e1; exact he e2
  obtain ⟨vs, r1, r2⟩ := h.row
  refine ⟨h.mod.step hm (fun i hi e => ?_), h.glob, h.gF, hm.heap h.r nB, h.newB, h1, h2, h.fb, h.cap, h.ne, ownsRow_mod h.stk hm (nrow h.stk (by decide)), h.stF,
    ⟨vs, ownsRow_mod r1 hm (nrow r1 (by decide)), fun i v q k1 k2 => (r2 i v q k1 k2).mod hm fun g hg o ho => ?_⟩, h.ovF⟩
  · rcases e with rfl | rfl
    · rcases h.fb.1 with k | k
      · exact k
      · omega
    · rcases h.fb.2 with k | k
      · exact k
      · omega
  · obtain ⟨c, T, fr, e1, e2⟩ := hty g hg o ho
    exact ⟨c, T, fr, e1, by rw [e2]; decide⟩
/-! ### The mathematics that the loops carry -/
def IsNil (q : Int × Int) : Prop := q.1 = 65535 ∧ q.2 = 0
structure Live (lo hi s e : Int) (st out : List (Int × Int)) : Prop where
  nn : ¬ IsNil (s, e)
  bd : Bd (s, e)
  bds : ∀ q ∈ st, Bd q ∧ ¬ IsNil q ∧ (q.2 = hi ∨ 127 ≤ q.2) ∧ (lo = 0 → hi = 1114111 → Fst q.1 ∧ Fen q.2)
  en : e = hi ∨ 127 ≤ e
  cn : out.length + wq (s, e) + wqs st ≤ 60
  tile : ∃ p, OutOk lo hi p out ∧ Tile hi p ((s, e) :: st)
  f0 : lo = 0 → hi = 1114111 → Fst s ∧ Fen e
def Ended (lo hi s e : Int) (st out : List (Int × Int)) : Prop := IsNil (s, e) ∧ st = [] ∧ Done lo hi out
theorem live_or (lo hi : Int) (h : Bd (lo, hi)) : Ended lo hi lo hi [] [] ∨ Live lo hi lo hi [] [] := by
  by_cases hn : IsNil (lo, hi)
  · left
    refine ⟨hn, rfl, done_of (p := lo) (out_start lo hi) ?_⟩
    exact tile_bad (tile_start lo hi) (by unfold IsNil at hn; simp at hn; omega)
  · exact Or.inr ⟨hn, h, by simp, Or.inl rfl, by have := wq_le (lo, hi); simp [wqs]; omega, ⟨lo, out_start lo hi, tile_start lo hi⟩, fun h1 h2 => ⟨Or.inl h1, Or.inr (Or.inr h2)⟩⟩
theorem Live.split {lo hi s e : Int} {st out : List (Int × Int)} (h : Live lo hi s e st out) (h1 : s < 57344) (h2 : 55295 < e) : Live lo hi s 55295 ((57344, e) :: st) out ∧ phi ((s, 55295) :: (57344, e) :: st) ≤ phi ((s, e) :: st) := by
  obtain ⟨p, a, b⟩ := h.tile
  have hb := h.bd
  unfold Bd at hb
  simp only at hb
  refine ⟨⟨by unfold IsNil; simp, ⟨hb.1, hb.2.1, by simp, by simp⟩, fun q hq => ?_, Or.inr (by omega), by have h8 := wq_split h1 h2; have h9 := h.cn; rw [wqs_cons]; omega, ⟨p, a, tile_split b h1 h2⟩, fun x y => ⟨(h.f0 x y).1, Or.inr (Or.inl rfl)⟩⟩, ?_⟩
  · rcases List.mem_cons.1 hq with rfl | hq
    · exact ⟨⟨by simp, by simp, by simp only; omega, by simp only; omega⟩, by unfold IsNil; simp, h.en, fun x y => ⟨by unfold Fst; omega, (h.f0 x y).2⟩⟩
    · exact h.bds q hq
  · have := wgt_split h1 h2
    simp only [phi_cons]; omega
theorem Live.cut {lo hi s e m : Int} {st out : List (Int × Int)} (h : Live lo hi s e st out) (h0 : ¬ (s < 57344 ∧ 55295 < e)) (h1 : s ≤ m) (h2 : m < e) (h3 : 127 ≤ m) (h5 : CO s e m) : Live lo hi s m ((m + 1, e) :: st) out ∧ phi ((s, m) :: (m + 1, e) :: st) ≤ phi ((s, e) :: st) := by
  obtain ⟨p, a, b⟩ := h.tile
  have hb := h.bd
  unfold Bd at hb
  simp only at hb
  refine ⟨⟨by unfold IsNil; simp only; omega, ⟨hb.1, hb.2.1, by simp only; omega, by simp only; omega⟩, fun q hq => ?_, Or.inr h3, by have h9 := h.cn; have h8 := h5.1; rw [wqs_cons]; omega, ⟨p, a, tile_cut b h1 h2⟩, fun x y => ⟨(h.f0 x y).1, Or.inl (h5.2 (h.f0 x y).1 (h.f0 x y).2)⟩⟩, ?_⟩
  · rcases List.mem_cons.1 hq with rfl | hq
    · exact ⟨⟨by simp only; omega, by simp only; omega, by simp only; omega, by simp only; omega⟩, by unfold IsNil; simp only; omega, h.en, fun x y => ⟨h5.2 (h.f0 x y).1 (h.f0 x y).2, (h.f0 x y).2⟩⟩
    · exact h.bds q hq
  · have := wgt_cut h0 h1 h2
    simp only [phi_cons]; omega
theorem Live.ct_bad {lo hi s e : Int} {st out : List (Int × Int)} (h : Live lo hi s e st out) : out.length + wqs st ≤ 60 := by have := h.cn; omega
theorem Live.ct_put {lo hi s e : Int} {st out : List (Int × Int)} (h : Live lo hi s e st out) : (out ++ [(s, e)]).length + wqs st ≤ 60 := by
  have := h.cn; have := wq_pos (s, e); rw [List.length_append, List.length_singleton]; omega
/-- Behind a pop: r is what was on top. -/
theorem next_of {lo hi s e p : Int} {q : Int × Int} {t out : List (Int × Int)} (ho : OutOk lo hi p out) (h : Tile hi p (q :: t)) (hb : ∀ x ∈ q :: t, Bd x ∧ ¬ IsNil x ∧ (x.2 = hi ∨ 127 ≤ x.2) ∧ (lo = 0 → hi = 1114111 → Fst x.1 ∧ Fen x.2)) (hct : out.length + wqs (q :: t) ≤ 60) : Live lo hi q.1 q.2 t out ∧ phi ((q.1, q.2) :: t) < phi ((s, e) :: q :: t) := by
  refine ⟨⟨(hb q (by simp)).2.1, (hb q (by simp)).1, fun x hx => hb x (by simp [hx]), (hb q (by simp)).2.2.1, by rw [wqs_cons] at hct; show out.length + wq q + wqs t ≤ 60; omega, ⟨p, ho, h⟩, (hb q (by simp)).2.2.2⟩, ?_⟩
  have := wgt_pos (s, e)
  rw [phi_cons (s, e)]
  show phi (q :: t) < _
  omega
theorem Live.bad {lo hi s e : Int} {st out : List (Int × Int)} (h : Live lo hi s e st out) (h1 : e < s) : ∃ p, OutOk lo hi p out ∧ Tile hi p st := by
  obtain ⟨p, a, b⟩ := h.tile
  exact ⟨p, a, tile_bad b h1⟩
theorem Live.put {lo hi s e : Int} {st out : List (Int × Int)} (h : Live lo hi s e st out) (hg : Utf.Good s e) : ∃ p, OutOk lo hi p (out ++ [(s, e)]) ∧ Tile hi p st := by
  obtain ⟨p, a, b⟩ := h.tile
  exact ⟨e + 1, out_put a b hg h.en (by have := h.cn; have := wq_pos (s, e); omega) fun x y => (h.f0 x y).1⟩
end Go.Proofs.YtnpchkohfomagaaDoor.Seq
