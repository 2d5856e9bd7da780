/- The statements' regexSpoilt. -/
import Derived.Test.YtnpchkohfomagaaDoorRgHb
import Derived.Test.YtnpchkohfomagaaDoorRgH2
import Derived.Deep.QuietTactic
import Derived.BigQuiet
namespace Go.Proofs.YtnpchkohfomagaaDoor.Rgy
open Go.ChangeShapes Go.WideShapes Go.ChangeAt Go.RowKit Go.Trav Go.Rg Go.Utf Go.Proofs.YtnpchkohfomagaaDoor.Seq Go.Proofs.YtnpchkohfomagaaDoor.Sparse Go.Proofs.YtnpchkohfomagaaDoor.Rgw
set_option linter.unusedVariables false
set_option linter.unusedSimpArgs false
set_option maxRecDepth 100000
def iZ (x : Int) : Value := .int .i64 x
theorem readsW (w : World) (xs : List Value) (n sz : Nat) (hn : xs.length = n * sz) (h : n ≤ 1000) (c : Array Value) (T : TypeId) (hc : c = xs.toArray) (b : Nat) (hb : w.heap.size = b) : Reads (w.alloc (.cells c T)) (.slice (some ⟨b, 0, none⟩) n n) n sz xs := by
  subst hb
  refine ⟨some ⟨w.heap.size, 0, none⟩, n, rfl, Nat.le_refl _, by unfold maxLen; omega, fun h => by simp at h, hn, fun _ => ⟨w.heap.size, 0, rfl, fun j u hj => ?_⟩⟩
  refine block_cell (heap_alloc_new w _) ?_
  rw [Nat.zero_add, hc]
  simpa using hj
theorem RxI.ups {w : World} {R : Nat → Prop} {t : Tr} {cs : List Value} {d : Nat} (h : RxI w R d t cs) : ∀ k, RxI w R (d + k) t cs := by
  intro k
  induction k with
  | zero => exact h
  | succ k ih => exact RxI.up _ _ _ ih
theorem RxI.len {w : World} {R : Nat → Prop} {t : Tr} {cs : List Value} {d : Nat} (h : RxI w R d t cs) : cs.length = 7 ∧ ∀ u ∈ cs, u.oneCell' = true := by
  obtain ⟨o, rv, mn, mx, lz, sv, rfl, ⟨a, b, c, rfl⟩, a', b', c', rfl⟩ := h.form
  refine ⟨rfl, fun u hu => ?_⟩
  simp at hu
  rcases hu with rfl | rfl | rfl | rfl | rfl | rfl | rfl <;> rfl
/-- One cell of an own row, stored. -/
theorem own_put {w : World} {base : Nat} {e : TypeId} {size g n cap : Nat} {xs : List Value} (h : w.ownsRow base e size (.slice (some ⟨g, 0, none⟩) n cap) n xs) (y : Nat) (x : Value) :
    (w.setCell ⟨g, y, none⟩ x).ownsRow base e size (.slice (some ⟨g, 0, none⟩) n cap) n (xs.set y x) := by
  obtain ⟨h1, h2⟩ := h
  refine ⟨by simpa using h1, ?_⟩
  rcases h2 with ⟨e1, _⟩ | ⟨g', cap', cur, e1, hb, hg, hn, hc, hs, ht⟩
  · cases e1
  · cases e1
    refine Or.inr ⟨g, cap, _, rfl, hb, block_set hg, hn, hc, by simpa using hs, ?_⟩
    rw [Array.toList_setIfInBounds, List.take_set, ht]
def put7 (w : World) (g k : Nat) (a0 a1 a2 a3 a4 a5 a6 : Value) : World := ((((((w.setCell ⟨g, k, none⟩ a0).setCell ⟨g, k + 1, none⟩ a1).setCell ⟨g, k + 2, none⟩ a2).setCell ⟨g, k + 3, none⟩ a3).setCell ⟨g, k + 4, none⟩ a4).setCell ⟨g, k + 5, none⟩ a5).setCell ⟨g, k + 6, none⟩ a6
theorem put7_mod (w : World) (g k : Nat) (a0 a1 a2 a3 a4 a5 a6 : Value) : Mod (fun z => z = g) w (put7 w g k a0 a1 a2 a3 a4 a5 a6) :=
  (((((((Mod.refl (fun z => z = g) w).setCell (p := ⟨g, k, none⟩) (fun _ => rfl) _).setCell (p := ⟨g, k + 1, none⟩) (fun _ => rfl) _).setCell (p := ⟨g, k + 2, none⟩) (fun _ => rfl) _).setCell (p := ⟨g, k + 3, none⟩) (fun _ => rfl) _).setCell (p := ⟨g, k + 4, none⟩) (fun _ => rfl) _).setCell (p := ⟨g, k + 5, none⟩) (fun _ => rfl) _).setCell (p := ⟨g, k + 6, none⟩) (fun _ => rfl) _
theorem flat_set7 (a0 a1 a2 a3 a4 a5 a6 : Value) : ∀ (css : List (List Value)) (i : Nat), (∀ c ∈ css, c.length = 7) → i < css.length →
    (((((((css.flatten.set (i * 7) a0).set (i * 7 + 1) a1).set (i * 7 + 2) a2).set (i * 7 + 3) a3).set (i * 7 + 4) a4).set (i * 7 + 5) a5).set (i * 7 + 6) a6) = (css.set i [a0, a1, a2, a3, a4, a5, a6]).flatten := by
  intro css
  induction css with
  | nil => intro i _ h; simp at h
  | cons c r ih =>
    intro i h7 hi
    have hc := h7 c (by simp)
    cases i with
    | zero =>
      match c, hc with
      | [b0, b1, b2, b3, b4, b5, b6], _ => rfl
    | succ i =>
      have h1 := ih i (fun x hx => h7 x (by simp [hx])) (by simpa using hi)
      have e : ∀ (l : List Value) (j : Nat) (u : Value), (c ++ l).set ((i + 1) * 7 + j) u = c ++ l.set (i * 7 + j) u := fun l j u => by
        rw [List.set_append, if_neg (by omega), hc, show (i + 1) * 7 + j - 7 = i * 7 + j by omega]
      have e0 := e r.flatten 0 a0
      rw [show (i + 1) * 7 + 0 = (i + 1) * 7 from rfl, show i * 7 + 0 = i * 7 from rfl] at e0
      simp only [List.flatten_cons, List.set_cons_succ]
      rw [e0, e, e, e, e, e, e, h1]
theorem own_put7 {w : World} {base : Nat} {e : TypeId} {g n cap : Nat} {css : List (List Value)} (h : w.ownsRow base e 7 (.slice (some ⟨g, 0, none⟩) n cap) n css.flatten) (h7 : ∀ c ∈ css, c.length = 7) (i : Nat) (hi : i < css.length) (a0 a1 a2 a3 a4 a5 a6 : Value) :
    (put7 w g (i * 7) a0 a1 a2 a3 a4 a5 a6).ownsRow base e 7 (.slice (some ⟨g, 0, none⟩) n cap) n (css.set i [a0, a1, a2, a3, a4, a5, a6]).flatten := by
  rw [← flat_set7 a0 a1 a2 a3 a4 a5 a6 css i h7 hi]
  exact own_put (own_put (own_put (own_put (own_put (own_put (own_put h _ _) _ _) _ _) _ _) _ _) _ _) _ _
/-- What regexSpoilt answers. -/
def SPost (N : Nat) (d : Nat) (t : Tr) (w : World) (e : Ending) (w' : World) : Prop :=
  ∃ cs : List Value, e = .returned (.agg cs.toArray) ∧ cs.length = 7 ∧ Below w.heap.size w w' ∧ RxI w' (fun g => (g < N ∨ w.heap.size ≤ g) ∧ g < w'.heap.size) d t cs
/-- The boxes of a call. -/
structure BI (B : Nat) (ct cb : Array Value) (wr : World) : Prop where
  bt : wr.heap[B]? = some (.cells ct 35 (0, 0))
  bb : wr.heap[B + 1]? = some (.cells cb 35 (0, 0))
  br : wr.heap[B + 2]? = some (.cells #[.int .i64 0, .slice none 0 0, .int .i64 0, .int .i64 0, .bool false, .bool false, .slice none 0 0] 35 (0, 0))
theorem BI.below {B : Nat} {ct cb : Array Value} {w w' : World} (h : BI B ct cb w) (hb : Below w.heap.size w w') : BI B ct cb w' := by
  have m : Mod (fun _ => False) w w' := Mod.of_below hb
  exact ⟨m.heap h.bt (fun h => h), m.heap h.bb (fun h => h), m.heap h.br (fun h => h)⟩
theorem BI.mod {B : Nat} {ct cb : Array Value} {w w' : World} {F : Nat → Prop} (h : BI B ct cb w) (m : Mod F w w') (h0 : ¬ F B) (h1 : ¬ F (B + 1)) (h2 : ¬ F (B + 2)) : BI B ct cb w' := ⟨m.heap h.bt h0, m.heap h.bb h1, m.heap h.br h2⟩
theorem BI.start (w : World) (ct cb : Array Value) : BI w.heap.size ct cb (((w.alloc (.cells ct 35)).alloc (.cells cb 35)).alloc (.cells #[.int .i64 0, .slice none 0 0, .int .i64 0, .int .i64 0, .bool false, .bool false, .slice none 0 0] 35)) ∧
    Below w.heap.size w (((w.alloc (.cells ct 35)).alloc (.cells cb 35)).alloc (.cells #[.int .i64 0, .slice none 0 0, .int .i64 0, .int .i64 0, .bool false, .bool false, .slice none 0 0] 35)) ∧ (((w.alloc (.cells ct 35)).alloc (.cells cb 35)).alloc (.cells #[.int .i64 0, .slice none 0 0, .int .i64 0, .int .i64 0, .bool false, .bool false, .slice none 0 0] 35)).heap.size = w.heap.size + 3 := by
  refine ⟨⟨block_alloc (block_alloc (heap_alloc_new w _)), ?_, ?_⟩, (((Below.refl _ _).alloc (Nat.le_refl _) _).alloc (by simp) _).alloc (by simp; omega) _, by simp⟩
  · have h := heap_alloc_new (w.alloc (.cells ct 35)) (.cells cb 35)
    refine block_alloc ?_
    simpa using h
  · have h := heap_alloc_new ((w.alloc (.cells ct 35)).alloc (.cells cb 35)) (.cells #[.int .i64 0, .slice none 0 0, .int .i64 0, .int .i64 0, .bool false, .bool false, .slice none 0 0] 35)
    have e : ((w.alloc (.cells ct 35)).alloc (.cells cb 35)).heap.size = w.heap.size + 2 := by simp
    rw [e] at h; exact h
/-- A node put where the answer lies. -/
theorem doneS {B N d : Nat} {t : Tr} {ct cb : Array Value} {w wr : World} {a0 a1 a2 a3 a4 a5 a6 : Value} (hB : B = w.heap.size) (h : BI B ct cb wr) (hx : RxI wr (fun g => (g < N ∨ B + 3 ≤ g) ∧ g < wr.heap.size) d t [a0, a1, a2, a3, a4, a5, a6]) (hbl : Below B w wr) (hN : N ≤ B) :
    (set7 wr (B + 2) a0 a1 a2 a3 a4 a5 a6).heap[B + 2]? = some (.cells #[a0, a1, a2, a3, a4, a5, a6] 35 (0, 0)) ∧ SPost N d t w (.returned (.agg #[a0, a1, a2, a3, a4, a5, a6])) (set7 wr (B + 2) a0 a1 a2 a3 a4 a5 a6) := by
  subst hB
  have m := set7_mod wr (w.heap.size + 2) a0 a1 a2 a3 a4 a5 a6
  have hs := m.size
  refine ⟨set7_blk h.br _ _ _ _ _ _ _, _, rfl, rfl, hbl.trans (m.toBelow hbl.size fun g _ hg => by omega), ?_⟩
  exact RxI.wide (fun g hg => ⟨by omega, by omega⟩) _ _ _ (RxI.mod m (fun g hg => by omega) _ _ _ hx)
theorem own_some {w : World} {base : Nat} {e : TypeId} {size n cap : Nat} {ao : Option Addr} {xs : List Value} (h : w.ownsRow base e size (.slice ao n cap) n xs) (hn : 0 < n) : ∃ g, ao = some ⟨g, 0, none⟩ := by
  rcases h.2 with ⟨e1, e2⟩ | ⟨g', cap', cur, e1, _⟩
  · cases e1; omega
  · cases e1; exact ⟨g', rfl⟩
theorem reads_tail {w : World} {b o n c : Nat} {x : Value} {xs : List Value} (h : Reads w (.slice (some ⟨b, o, none⟩) (n + 1) c) (n + 1) 1 (x :: xs)) : Reads w (.slice (some ⟨b, o + 1, none⟩) n (c - 1)) n 1 xs := by
  obtain ⟨ao, cap, e, h1, h2, h3, h4, h5⟩ := h
  obtain ⟨rfl, _, rfl⟩ : some ⟨b, o, none⟩ = ao ∧ n + 1 = n + 1 ∧ c = cap := by injection e with e1 e2 e3; exact ⟨e1, rfl, e3⟩
  refine ⟨some ⟨b, o + 1, none⟩, c - 1, rfl, by omega, by omega, fun h => by simp at h, by simp at h4; omega, fun _ => ⟨b, o + 1, rfl, fun j u hj => ?_⟩⟩
  obtain ⟨b', o', e1, e2⟩ := h5 (by simp)
  cases e1
  have := e2 (j + 1) u (by simpa using hj)
  rwa [show o + (j + 1) = o + 1 + j by omega] at this
/-- The cells of an own row's block. -/
theorem own_cells {w : World} {base : Nat} {e : TypeId} {size g n cap : Nat} {xs : List Value} (h : w.ownsRow base e size (.slice (some ⟨g, 0, none⟩) n cap) n xs) (k : Nat) (hk : k < xs.length) : (∃ u, w.cell? ⟨g, k, none⟩ = some u) ∧ w.frozen? ⟨g, k, none⟩ = false := by
  rcases h.2 with ⟨e1, e2⟩ | ⟨g', cap', cur, e1, hb, hg, hn, hc, hs, ht⟩
  · cases e1
  · cases e1
    have hl : k < cur.size := by
      have := congrArg List.length ht
      simp at this
      omega
    exact ⟨⟨cur[k], block_cell hg (Array.getElem?_eq_getElem hl)⟩, block_free hg⟩
theorem spoil_fin {N d B O g cap at_ M : Nat} {b t s : Tr} {ws : List Int} {css : List (List Value)} {rv : Value} {w9 : World} {a0 a1 a2 a3 a4 a5 a6 : Value} (hown : w9.ownsRow (O + 1) 35 7 (.slice (some ⟨g, 0, none⟩) css.length cap) css.length css.flatten)
    (hO : B + 3 ≤ O) (hN : N ≤ B) (hgM : g < M) (hBM : B + 3 ≤ M) (h7 : ∀ c ∈ css, c.length = 7) (hcl : css.length = t.subs.length) (hcb : css.length ≤ 1000) (hs : t.subs[at_]? = some s) (hsub : ∀ (i : Nat) c s, css[i]? = some c → t.subs[i]? = some s → RxI w9 (fun g => g < N) d s c)
    (h9 : RxI w9 (fun g' => (g' < N ∨ M ≤ g') ∧ g' < w9.heap.size) (d + 2) (spoil b ws s) [a0, a1, a2, a3, a4, a5, a6]) (hR : Reads w9 rv t.runes.length 1 (t.runes.map rV)) (hRg : ∀ g, rv.ownBlock = some g → g < N) (hop : t.op < 256) (hrl : t.runes.length ≤ 1000) (hsz : N ≤ w9.heap.size) :
    RxI (put7 w9 g (at_ * 7) a0 a1 a2 a3 a4 a5 a6) (fun g' => (g' < N ∨ B + 3 ≤ g') ∧ g' < (put7 w9 g (at_ * 7) a0 a1 a2 a3 a4 a5 a6).heap.size) (d + 3) (.mk t.op t.lazy t.fold t.runes t.mn t.mx (t.subs.set at_ (spoil b ws s)))
      [.int .i64 (t.op : Int), rv, .int .i64 t.mn, .int .i64 t.mx, .bool t.lazy, .bool false, .slice (some ⟨g, 0, none⟩) css.length cap] := by
  have m := put7_mod w9 g (at_ * 7) a0 a1 a2 a3 a4 a5 a6
  have hlt : at_ < css.length := by rw [hcl]; exact (List.getElem?_eq_some_iff.1 hs).1
  have hg := hown.lt g rfl
  have hms := m.size
  have ho := own_put7 hown h7 at_ hlt a0 a1 a2 a3 a4 a5 a6
  have hll : (css.set at_ [a0, a1, a2, a3, a4, a5, a6]).length = css.length := by simp
  refine ⟨rv, .slice (some ⟨g, 0, none⟩) css.length cap, css.set at_ [a0, a1, a2, a3, a4, a5, a6], rfl, ⟨hop, hrl, by rw [hll]; exact hcb⟩, ⟨hR.mod m fun g' hg' e => ?_, fun g' hg' => ?_⟩, ?_, ⟨?_, fun g' hg' => ?_⟩, fun c hc => ?_, fun i c s' hc hs' => ?_⟩
  · have := hRg g' hg'; omega
  · have := hRg g' hg'; exact ⟨Or.inl this, by omega⟩
  · rw [hll, hcl]; show _ = (t.subs.set at_ (spoil b ws s)).length; simp
  · rw [hll]; exact reads_of_owns ho
  · have : g = g' := by simpa [Value.ownBlock] using hg'
    exact ⟨Or.inr (by omega), by omega⟩
  · rcases List.mem_or_eq_of_mem_set hc with h | h
    · exact h7 c h
    · subst h; rfl
  · change (t.subs.set at_ (spoil b ws s))[i]? = some s' at hs'
    by_cases hi : i = at_
    · subst hi
      rw [List.getElem?_set_self hlt] at hc
      rw [List.getElem?_set_self (by rw [← hcl]; exact hlt)] at hs'
      cases hc
      cases hs'
      exact RxI.wide (fun g' hg' => ⟨by omega, by omega⟩) _ _ _ (RxI.mod m (fun g' hg' e => by omega) _ _ _ h9)
    · rw [List.getElem?_set_ne (fun h => hi h.symm)] at hc hs'
      exact RxI.wide (fun g' hg' => ⟨Or.inl hg', by omega⟩) _ _ _ (RxI.up _ _ _ (RxI.up _ _ _ (RxI.mod m (fun g' hg' e => by omega) _ _ _ (hsub i c s' hc hs'))))
/-- Behind the copy of the parts' row. -/
structure SJ (O g cap sl : Nat) (a0 a1 a2 a3 a4 a5 : Value) (css : List (List Value)) (wc wx : World) : Prop where
  blk : wx.heap[O]? = some (.cells #[a0, a1, a2, a3, a4, a5, .slice (some ⟨g, 0, none⟩) sl cap] 35 (0, 0))
  own : wx.ownsRow (O + 1) 35 7 (.slice (some ⟨g, 0, none⟩) sl cap) sl css.flatten
  bl : Below wc.heap.size wc wx
set_option maxHeartbeats 8000000 in
theorem spoil_step (N : Nat) (b : Tr) (d : Nat) (ih : ∀ (t : Tr) (ct cb : List Value) (way : List Int) (v : Value) (w : World), N ≤ w.heap.size → RxI w (fun g => g < N) d t ct → RxI w (fun g => g < N) 2 b cb → Reads w v way.length 1 (way.map iZ) → Calls Tryd.prog 29 #[.agg ct.toArray, .agg cb.toArray, v] w (SPost N (d + 2) (spoil b way t) w))
    (t : Tr) (ct cb : List Value) (way : List Int) (v : Value) (w : World) (hN : N ≤ w.heap.size) (hT : RxI w (fun g => g < N) (d + 1) t ct) (hB : RxI w (fun g => g < N) 2 b cb) (hv : Reads w v way.length 1 (way.map iZ)) : Calls Tryd.prog 29 #[.agg ct.toArray, .agg cb.toArray, v] w (SPost N (d + 3) (spoil b way t) w) := by
  obtain ⟨ob, rvb, mnb, mxb, lzb, svb, rfl, ⟨rb1, rb2, rb3, rfl⟩, sb1, sb2, sb3, rfl⟩ := hB.form
  have hT0 := hT
  obtain ⟨rv, sv, css, rfl, ⟨hop, hrl, hsl⟩, ⟨hR, hRg⟩, hcl, ⟨hS, hSg⟩, h7, hsub⟩ := hT
  obtain ⟨ra, rc, rfl⟩ := hR.form
  obtain ⟨sa, sc, rfl⟩ := hS.form
  obtain ⟨va, vc, rfl⟩ := hv.form
  have hst := BI.start w #[.int .i64 (t.op : Int), .slice ra t.runes.length rc, .int .i64 t.mn, .int .i64 t.mx, .bool t.lazy, .bool false, .slice sa css.length sc] #[.int .i64 ob, .slice rb1 rb2 rb3, .int .i64 mnb, .int .i64 mxb, .bool lzb, .bool false, .slice sb1 sb2 sb3]
  obtain ⟨W3, hW3⟩ : ∃ W3, W3 = ((w.alloc (.cells #[.int .i64 (t.op : Int), .slice ra t.runes.length rc, .int .i64 t.mn, .int .i64 t.mx, .bool t.lazy, .bool false, .slice sa css.length sc] 35)).alloc (.cells #[.int .i64 ob, .slice rb1 rb2 rb3, .int .i64 mnb, .int .i64 mxb, .bool lzb, .bool false, .slice sb1 sb2 sb3] 35)).alloc (.cells #[.int .i64 0, .slice none 0 0, .int .i64 0, .int .i64 0, .bool false, .bool false, .slice none 0 0] 35) := ⟨_, rfl⟩
  rw [← hW3] at hst
  obtain ⟨hBI, hb3, hsz⟩ := hst
  obtain ⟨rl, hrle⟩ : ∃ n, n = t.runes.length := ⟨_, rfl⟩
  obtain ⟨sl, hsle⟩ : ∃ n, n = css.length := ⟨_, rfl⟩
  obtain ⟨wl, hwle⟩ : ∃ n, n = way.length := ⟨_, rfl⟩
  rw [← hrle, ← hsle] at hW3 hBI
  rw [← hrle, ← hsle, ← hwle]
  have hvb := hv.bound
  rw [← hwle] at hvb
  have hsl9 : sl ≤ 1000 := by omega
  obtain ⟨⟨k0, k1, k2, k3, k4, k5, k6⟩, _⟩ := cells7 hBI.bt
  obtain ⟨⟨q0, q1, q2, q3, q4, q5, q6⟩, _⟩ := cells7 hBI.bb
  obtain ⟨⟨e0, e1, e2, e3, e4, e5, e6⟩, g0, g1, g2, g3, g4, g5, g6⟩ := cells7 hBI.br
  have hie : sl = 0 → t.subs = [] := fun h => List.eq_nil_of_length_eq_zero (by omega)
  have hine : sl ≠ 0 → t.subs.isEmpty = false := fun h => List.isEmpty_eq_false_iff.2 fun e => h (by rw [hsle, hcl, e]; rfl)
  have HT00 := Lib.hid hB
  have HT := Lib.hid (And.intro (RxI.below hb3 _ _ _ hT0) (RxI.below hb3 _ _ _ hB))
  have HS := Lib.hid (And.intro (hS.below hb3) (And.intro h7 (And.intro hsub (And.intro hSg hcl))))
  have HV := Lib.hid (hv.below hb3)
  have HBI := Lib.hid hBI
  have HB3 := Lib.hid hb3
  have HIE := Lib.hid (And.intro hie hine)
  have HIH := Lib.hid ih
  have HLE := Lib.hid (And.intro hrle (And.intro hsle hwle))
  have HRR := Lib.hid (And.intro hop (And.intro hrl (And.intro (hR.below hb3) hRg)))
  clear hT0 hB hS h7 hsub hSg hcl hv hBI hb3 hie hine ih hrle hsle hwle hop hrl hR hRg
  go_enter Tryd.func29, Tryd.ntmps29
  by_cases hs0 : sl = 0
  · --A<
    have hs1 : ((sl : Int) == 0) = true := by rw [beq_iff_eq]; omega
    have hsp := spoil_leaf b t way (HIE.out.1 hs0)
    have hnode := fun (W : World) (v : Value) (hb : Below W3.heap.size W3 W) (hr : Reads W v 2 7 ([.int .i64 (t.op : Int), .slice ra rl rc, .int .i64 t.mn, .int .i64 t.mx, .bool t.lazy, .bool false, .slice sa sl sc] ++ [.int .i64 ob, .slice rb1 rb2 rb3, .int .i64 mnb, .int .i64 mxb, .bool lzb, .bool false, .slice sb1 sb2 sb3])) (hg : ∀ g, v.ownBlock = some g → w.heap.size + 3 ≤ g ∧ g < W.heap.size) =>
      node_any 18 [t, b] [[.int .i64 (t.op : Int), .slice ra rl rc, .int .i64 t.mn, .int .i64 t.mx, .bool t.lazy, .bool false, .slice sa sl sc], [.int .i64 ob, .slice rb1 rb2 rb3, .int .i64 mnb, .int .i64 mxb, .bool lzb, .bool false, .slice sb1 sb2 sb3]] v (d + 2) (fun g => (g < N ∨ w.heap.size + 3 ≤ g) ∧ g < W.heap.size) W (by omega) rfl hr (fun g h => ⟨Or.inr (hg g h).1, (hg g h).2⟩) (fun c hc => by simp at hc; rcases hc with rfl | rfl <;> rfl) (by simp)
        (fun i c s hc hs => by
          have hle := hb.size
          match i, hc, hs with
          | 0, hc, hs =>
            simp at hc hs; subst hc hs
            have h := RxI.below hb _ _ _ HT.out.1
            rw [← HLE.out.1, ← HLE.out.2.1] at h
            exact RxI.wide (fun g hg => ⟨Or.inl hg, by omega⟩) _ _ _ (RxI.up _ _ _ h)
          | 1, hc, hs =>
            simp at hc hs; subst hc hs
            have h := RxI.ups (RxI.below hb _ _ _ HT.out.2) d
            rw [Nat.add_comm] at h
            exact RxI.wide (fun g hg => ⟨Or.inl hg, by omega⟩) _ _ _ h)
    have HND := Lib.hid hnode
    have HSP := Lib.hid hsp
    clear hnode hsp
    by_cases hw0 : wl = 0
    case' pos => have hw1 : ((wl : Int) == 0) = true := by rw [beq_iff_eq]; omega
    case' neg => have hw1 : ((wl : Int) == 0) = false := beq_eq_false_iff_ne.2 (by omega)
    all_goals
      clear hw0 hs0
      go_wp2_with fail
      rw [← hW3]
      obtain ⟨W4, hW4⟩ : ∃ W4, W4 = W3.alloc (.cells #[.int .i64 (t.op : Int), .slice ra rl rc, .int .i64 t.mn, .int .i64 t.mx, .bool t.lazy, .bool false, .slice sa sl sc, .int .i64 ob, .slice rb1 rb2 rb3, .int .i64 mnb, .int .i64 mxb, .bool lzb, .bool false, .slice sb1 sb2 sb3] 35) := ⟨_, rfl⟩
      have hb4 : Below W3.heap.size W3 W4 := by rw [hW4]; exact (Below.refl _ _).alloc (Nat.le_refl _) _
      have hs4 : W4.heap.size = w.heap.size + 4 := by rw [hW4]; simp; omega
      have hr4 := readsW W3 ([.int .i64 (t.op : Int), .slice ra rl rc, .int .i64 t.mn, .int .i64 t.mx, .bool t.lazy, .bool false, .slice sa sl sc] ++ [.int .i64 ob, .slice rb1 rb2 rb3, .int .i64 mnb, .int .i64 mxb, .bool lzb, .bool false, .slice sb1 sb2 sb3]) 2 7 rfl (by omega) #[.int .i64 (t.op : Int), .slice ra rl rc, .int .i64 t.mn, .int .i64 t.mx, .bool t.lazy, .bool false, .slice sa sl sc, .int .i64 ob, .slice rb1 rb2 rb3, .int .i64 mnb, .int .i64 mxb, .bool lzb, .bool false, .slice sb1 sb2 sb3] 35 rfl (w.heap.size + 1 + 1 + 1) (by omega)
      rw [← hW4] at hr4
      have hcall := HND.out W4 _ hb4 hr4 (fun g hg => by have : w.heap.size + 1 + 1 + 1 = g := by { simpa [Value.ownBlock] using hg }
                                                         omega)
      rw [← hW4]
      refine hcall.mono ?_
      rintro e w5 ⟨cs5, he5, hl5, hb5, hx5⟩
      obtain ⟨o5, rv5, mn5, mx5, lz5, sv5, rfl, ⟨r51, r52, r53, rfl⟩, s51, s52, s53, rfl⟩ := hx5.form
      obtain rfl := he5
      have hBI5 := (HBI.out.below hb4).below hb5
      have hs5 := hb5.size
      have hf := doneS (N := N) (w := w) rfl hBI5 (RxI.wide (fun g hg => ⟨hg.1, by omega⟩) _ _ _ hx5) ((HB3.out.trans (hb4.mono (by omega))).trans (hb5.mono (by omega))) hN
      rw [← HSP.out] at hf
      clear e0 e1 e2 e3 e4 e5 e6 g0 g1 g2 g3 g4 g5 g6
      obtain ⟨⟨e0, e1, e2, e3, e4, e5, e6⟩, g0, g1, g2, g3, g4, g5, g6⟩ := cells7 hBI5.br
      obtain ⟨HZ, HX⟩ := And.intro (Lib.hid hf.1) (Lib.hid hf.2)
      clear hf hBI5 hx5 hb5 hcall hr4 hb4 hs4 hs5 hW4 hl5
      go_wp2_with fail
      try simp only [Exit.inBlock, Exit.then]
      refine bodyPost_ret (results_cell_row rfl _ _ (w.heap.size + 2) 35 _ (0, 0) _ rfl HZ.out Tryd.underlying35 rfl (by kernel_rfl)) rfl ?_
      exact HX.out
    --A>
  · have hs1 : ((sl : Int) == 0) = false := beq_eq_false_iff_ne.2 (by omega)
    have hie := HIE.out.2 hs0
    by_cases hw0 : wl = 0
    · --B<
      have hw1 : ((wl : Int) == 0) = true := by rw [beq_iff_eq]; omega
      have hway : way = [] := List.eq_nil_of_length_eq_zero (by have := HLE.out.2.2; omega)
      have hsp : spoil b way t = b := by rw [hway, spoil, hie]; rfl
      obtain ⟨Wf, hWf⟩ : ∃ Wf, Wf = ((w.alloc (.cells #[.int .i64 (t.op : Int), .slice ra rl rc, .int .i64 t.mn, .int .i64 t.mx, .bool t.lazy, .bool false, .slice sa sl sc] 35)).alloc (.cells #[.int .i64 ob, .slice rb1 rb2 rb3, .int .i64 mnb, .int .i64 mxb, .bool lzb, .bool false, .slice sb1 sb2 sb3] 35)).alloc (.cells #[.int .i64 ob, .slice rb1 rb2 rb3, .int .i64 mnb, .int .i64 mxb, .bool lzb, .bool false, .slice sb1 sb2 sb3] 35) := ⟨_, rfl⟩
      have hbf : Below w.heap.size w Wf := by rw [hWf]; exact (((Below.refl _ _).alloc (Nat.le_refl _) _).alloc (by simp) _).alloc (by simp; omega) _
      have hsf := hbf.size
      have hblk : Wf.heap[w.heap.size + 1 + 1]? = some (.cells #[.int .i64 ob, .slice rb1 rb2 rb3, .int .i64 mnb, .int .i64 mxb, .bool lzb, .bool false, .slice sb1 sb2 sb3] 35 (0, 0)) := by
        have h := heap_alloc_new ((w.alloc (.cells #[.int .i64 (t.op : Int), .slice ra rl rc, .int .i64 t.mn, .int .i64 t.mx, .bool t.lazy, .bool false, .slice sa sl sc] 35)).alloc (.cells #[.int .i64 ob, .slice rb1 rb2 rb3, .int .i64 mnb, .int .i64 mxb, .bool lzb, .bool false, .slice sb1 sb2 sb3] 35)) (.cells #[.int .i64 ob, .slice rb1 rb2 rb3, .int .i64 mnb, .int .i64 mxb, .bool lzb, .bool false, .slice sb1 sb2 sb3] 35)
        rw [← hWf] at h
        simpa using h
      have hx := RxI.ups (RxI.below hbf _ _ _ HT00.out) (d + 1)
      rw [show 2 + (d + 1) = d + 3 by omega] at hx
      have hpost : SPost N (d + 3) (spoil b way t) w (.returned (.agg #[.int .i64 ob, .slice rb1 rb2 rb3, .int .i64 mnb, .int .i64 mxb, .bool lzb, .bool false, .slice sb1 sb2 sb3])) Wf := ⟨_, rfl, rfl, hbf, by rw [hsp]; exact RxI.wide (fun g hg => ⟨Or.inl hg, by omega⟩) _ _ _ hx⟩
      have HZ := Lib.hid hblk
      have HX := Lib.hid hpost
      clear hx hsp hway hw0 hs0 hie hpost hblk hbf hsf
      go_wp2_with fail
      try simp only [Exit.inBlock, Exit.then]
      rw [← hWf]
      refine bodyPost_ret (results_cell_row rfl _ _ (w.heap.size + 1 + 1) 35 _ (0, 0) _ rfl HZ.out Tryd.underlying35 rfl (by kernel_rfl)) rfl ?_
      exact HX.out
    --B>
    · have hw1 : ((wl : Int) == 0) = false := beq_eq_false_iff_ne.2 (by omega)
      obtain ⟨x0, ws, hway⟩ : ∃ x ws, way = x :: ws := by
        cases way with
        | nil => exact absurd HLE.out.2.2 (by simp; omega)
        | cons x ws => exact ⟨x, ws, rfl⟩
      obtain ⟨wb, wo, wcp, x0', e1v, hx0, hcx⟩ := HV.out.one iZ (k := 0) (by have := HLE.out.2.2; omega)
      obtain rfl : x0' = x0 := by rw [hway] at hx0; simpa using hx0.symm
      obtain rfl : va = some ⟨wb, wo, none⟩ := by injection e1v
      have hc0 : W3.cell? ⟨wb, wo, none⟩ = some (.int .i64 x0') := hcx
      obtain ⟨at_, hat⟩ : ∃ a, a = atP x0' sl := ⟨_, rfl⟩
      have hal : at_ < sl := by rw [hat]; exact atP_lt _ _ (by omega)
      have u1 : IntKind.u64.wrap x0' = x0' % 18446744073709551616 := by rw [IntKind.wrap_u64]
      have u2 : IntKind.u64.wrap (sl : Int) = (sl : Int) := IntWalk.u64_in _ (by omega)
      have hmb := mod_bd (x0' % 18446744073709551616) sl (by omega)
      have u3 : (x0' % 18446744073709551616).tmod (sl : Int) = x0' % 18446744073709551616 % (sl : Int) := Int.tmod_eq_emod_of_nonneg (by omega)
      have u4 : IntKind.i64.wrap (x0' % 18446744073709551616 % (sl : Int)) = (at_ : Int) := by
        rw [IntWalk.i64_in _ (by omega), hat]; unfold atP; omega
      have hwl0 : (0 : Int) < (wl : Int) := by omega
      have HAT := Lib.hid (And.intro hat (And.intro hway hie))
      clear hat hway hx0 hcx e1v hie
      go_wp2_with fail
      rw [← hW3]
      clear hW3
      go_upto_region 5 with (fail)
      go_cut [7] (fun v wx => v = .int .i64 (at_ : Int) ∧ Hid (Below W3.heap.size W3 wx))
      case first =>
        as_aux_lemma =>
          go_quiet (fail)
          go_wp2_with fail
          go_meet
          exact ⟨rfl, Lib.hid (below_drewN (Below.refl _ _) _)⟩
      obtain ⟨rfl, HBC⟩ := hcut
      have hBI := HBI.out.below HBC.out
      clear k0 k1 k2 k3 k4 k5 k6 q0 q1 q2 q3 q4 q5 q6 e0 e1 e2 e3 e4 e5 e6 g0 g1 g2 g3 g4 g5 g6 hc0 u1 u2 u3 u4 hmb
      obtain ⟨⟨k0, k1, k2, k3, k4, k5, k6⟩, _⟩ := cells7 hBI.bt
      have hszc := HBC.out.size
      have hone : ∀ u ∈ css.flatten, u.oneCell' = true := by
        intro u hu
        obtain ⟨c, hc, huc⟩ := List.mem_flatten.1 hu
        obtain ⟨i, hi⟩ := List.getElem?_of_mem hc
        obtain ⟨s, hs⟩ : ∃ s, t.subs[i]? = some s := ⟨_, List.getElem?_eq_getElem (by have := (List.getElem?_eq_some_iff.1 hi).1; have := HS.out.2.2.2.2; omega)⟩
        exact (HS.out.2.2.1 i c s hi hs).len.2 u huc
      have hrd := HS.out.1.below HBC.out
      rw [← HLE.out.2.1] at hrd
      have HRD := Lib.hid hrd
      have HONE := Lib.hid hone
      have HBI' := Lib.hid hBI
      obtain ⟨O, hO⟩ : ∃ O, O = wc.heap.size := ⟨_, rfl⟩
      obtain ⟨W6, hW6⟩ : ∃ W6, W6 = wc.alloc (.cells #[.int .i64 (t.op : Int), .slice ra rl rc, .int .i64 t.mn, .int .i64 t.mx, .bool t.lazy, .bool false, .slice sa sl sc] 35) := ⟨_, rfl⟩
      have hb6 : Below wc.heap.size wc W6 := by rw [hW6]; exact (Below.refl _ _).alloc (Nat.le_refl _) _
      have hs6 : W6.heap.size = O + 1 := by rw [hW6, hO]; simp
      have hblk6 : W6.heap[O]? = some (.cells #[.int .i64 (t.op : Int), .slice ra rl rc, .int .i64 t.mn, .int .i64 t.mx, .bool t.lazy, .bool false, .slice sa sl sc] 35 (0, 0)) := by rw [hW6, hO]; exact heap_alloc_new wc _
      have hk6 : ∀ oo, (W6.alloc oo).cell? ⟨w.heap.size, 6, none⟩ = some (.slice sa sl sc) := fun oo => block_cell (block_alloc ((hBI.below hb6).bt)) rfl
      have hown : (W6.alloc (.cells #[] 35)).ownsRow (O + 1) 35 7 (.slice (some ⟨O + 1, 0, none⟩) 0 0) 0 [] := by
        have h := owns_new W6 35 7 (O + 1) (by omega)
        rw [hs6] at h; exact h
      have HOW := Lib.hid hown
      have HB6 := Lib.hid (And.intro hb6 hblk6)
      have HBO := Lib.hid hO
      clear hBI hone hrd hown hb6 hblk6 hs0
      go_upto_region 7 with (fail)
      rw [← hO, ← hW6]
      clear hW6 hO
      go_cut [] (fun wx => Hid (∃ g cap, SJ O g cap sl (.int .i64 (t.op : Int)) (.slice ra rl rc) (.int .i64 t.mn) (.int .i64 t.mx) (.bool t.lazy) (.bool false) css wc wx))
      case first =>
        as_aux_lemma =>
          go_wp2_with (first
            | (at_builtin
               refine wpList_append_reads rfl (.tmp 38) (.tmp 40) 33 rfl (O + 1) 35 (.agg #[.int .i64 0, .slice none 0 0, .int .i64 0, .int .i64 0, .bool false, .bool false, .slice none 0 0]) 7 80 Tryd.underlying33 info_rx rfl (by decide) (by decide) (.slice (some ⟨O + 1, 0, none⟩) 0 0) 0 [] rfl HOW.out _ sl css.flatten rfl ((HRD.out.below HB6.out.1).alloc _) HONE.out (by omega) (by simp; omega) ?_
               intro ao6 cap6 w6 hown6 hgr6 hat6
               have hB6 := (hgr6.block O (by simp; omega) (fun e => by simp [Value.ownBlock] at e)).trans (block_alloc HB6.out.2)
               have f6 : w6.frozen? ⟨O, 6, none⟩ = false := block_free hB6
               have u6 : w6.cell? ⟨O, 6, none⟩ = some (.slice sa sl sc) := block_cell hB6 rfl
               have HX6 := Lib.hid (And.intro hown6 (And.intro hgr6 (And.intro hat6 hB6)))
               clear hown6 hgr6 hat6 hB6))
          go_meet
          obtain ⟨hown6, hgr6, hat6, hB6⟩ := HX6.out
          rw [Nat.zero_add, List.nil_append] at hown6
          obtain ⟨g, hg⟩ := own_some hown6 (by omega)
          subst hg
          have hbw : Below wc.heap.size wc w6 := by
            refine ((HB6.out.1.alloc HB6.out.1.size _)).grown hgr6 ?_ fun g' hg' => ?_
            · have := HB6.out.1.size; simp; omega
            · have : O + 1 = g' := by simpa [Value.ownBlock] using hg'
              have := HBO.out
              omega
          refine Lib.hid ⟨g, cap6, ⟨?_, ?_, ?_⟩⟩
          · rw [block_set hB6]; rfl
          · exact ownsRow_setCell_ne hown6 (fun e => by have := (hown6.lt O e.symm).1; omega) _
          · exact hbw.trans ((Mod.setCell (F := fun z => z = O) (Mod.refl _ w6) (p := ⟨O, 6, none⟩) (fun _ => rfl) _).toBelow hbw.size fun k _ e => by have := HBO.out; omega)
      rename World => v8
      obtain ⟨g, cap, hSJ⟩ := hcut.out
      have hBI8 := HBI'.out.below hSJ.bl
      clear hcut k0 k1 k2 k3 k4 k5 k6
      obtain ⟨⟨k0, k1, k2, k3, k4, k5, k6⟩, _⟩ := cells7 hBI8.bt
      obtain ⟨⟨q0, q1, q2, q3, q4, q5, q6⟩, _⟩ := cells7 hBI8.bb
      have j6 : v8.cell? ⟨O, 6, none⟩ = some (.slice (some ⟨g, 0, none⟩) sl cap) := block_cell hSJ.blk rfl
      obtain ⟨c, hc⟩ : ∃ c, css[at_]? = some c := ⟨_, List.getElem?_eq_getElem (by have := HLE.out.2.1; omega)⟩
      obtain ⟨s, hs⟩ : ∃ s, t.subs[at_]? = some s := ⟨_, List.getElem?_eq_getElem (by have := HLE.out.2.1; have := HS.out.2.2.2.2; omega)⟩
      have hxw : RxI w (fun g => g < N) d s c := HS.out.2.2.1 at_ c s hc hs
      obtain ⟨o1, rv1, mn1, mx1, lz1, sv2, rfl, ⟨ra1, rb9, rc1, rfl⟩, sa1, sb9, sc1, rfl⟩ := hxw.form
      have hrow := HRD.out.below hSJ.bl
      rw [HLE.out.2.1] at hrow
      obtain ⟨sbb, soo, hsa, hcells⟩ := row7 hrow HS.out.2.1 hc
      subst hsa
      have c0 := hcells 0 _ rfl
      rw [Nat.add_zero] at c0
      have c1 := hcells 1 _ rfl
      have c2 := hcells 2 _ rfl
      have c3 := hcells 3 _ rfl
      have c4 := hcells 4 _ rfl
      have c5 := hcells 5 _ rfl
      have c6 := hcells 6 _ rfl
      have hb38 : Below W3.heap.size W3 v8 := HBC.out.trans (hSJ.bl.mono HBC.out.size)
      have hbw8 : Below w.heap.size w v8 := HB3.out.trans (hb38.mono HB3.out.size)
      have hvv := HV.out.below hb38
      have hwl : wl = ws.length + 1 := by rw [HLE.out.2.2, HAT.out.2.1]; rfl
      have hcall := fun (W : World) (hb : Below v8.heap.size v8 W) (v' : Value) (hv' : Reads W v' ws.length 1 (ws.map iZ)) => HIH.out s _ _ ws v' W (by have := hb.size; have := hbw8.size; omega) (RxI.below (hbw8.trans (hb.mono hbw8.size)) d s _ hxw) (RxI.below (hbw8.trans (hb.mono hbw8.size)) 2 b _ HT00.out) hv'
      rw [HAT.out.2.1] at hvv
      have hlt7 : ∀ i, i < 7 → at_ * 7 + i < css.flatten.length := fun i hi => by rw [flatten_len HS.out.2.1, ← HLE.out.2.1]; omega
      have HCALL := Lib.hid hcall
      have HVV := Lib.hid hvv
      have HSJ := Lib.hid hSJ
      have HSS := Lib.hid (And.intro hc (And.intro hs hlt7))
      have hal0 : (0 : Int) ≤ (at_ : Int) := by omega
      have hal1 : (at_ : Int) < (sl : Int) := by omega
      have hvc := HVV.out
      obtain ⟨hvc1, hvc2⟩ : wl ≤ vc ∧ vc ≤ maxLen := by
        obtain ⟨ao, cap', e, h1, h2, _⟩ := hvc
        injection e with _ e2 e3
        simp only [List.length_cons] at h1
        exact ⟨by omega, by omega⟩
      have hwl1 : (1 : Int) ≤ (wl : Int) := by omega
      have hwn : 1 ≤ wl := by omega
      obtain ⟨A, hA, hrA⟩ : ∃ A, (if vc = 1 then some (⟨wb, wo, none⟩ : Addr) else some ⟨wb, wo + 1, none⟩) = some A ∧ Reads v8 (.slice (some A) (wl - 1) (vc - 1)) ws.length 1 (ws.map iZ) := by
        have hw1 : wl - 1 = ws.length := by omega
        rw [hw1]
        by_cases h1 : vc = 1
        · rw [if_pos h1]
          have : ws = [] := List.eq_nil_of_length_eq_zero (by omega)
          subst this
          exact ⟨_, rfl, some ⟨wb, wo, none⟩, vc - 1, rfl, by simp, by omega, fun h => by simp at h, rfl, fun h => by simp at h⟩
        · rw [if_neg h1]
          exact ⟨_, rfl, reads_tail hvc⟩
      have HRA := Lib.hid hrA
      clear hcall hvv hc hs hxw hrow hcells hbw8 hb38 hBI8 hSJ hvc hlt7 hrA hwl
      go_wp2_with fail
      have HNN := Lib.hid (And.intro HBO.out (And.intro hszc (And.intro hsz hN)))
      go_region_law (first
        | (go_simp; (with_reducible refine Calls.mono (HCALL.out _ (by first | exact (Below.refl _ _).drew | exact Below.refl _ _) _ (by first | exact HRA.out.below ((Below.refl _ _).drew) | exact HRA.out)) ?_); rintro e w9 ⟨cs9, he9, hl9, hb9, hx9⟩
           obtain ⟨o9, rv9, mn9, mx9, lz9, sv9, rfl, ⟨r91, r92, r93, rfl⟩, s91, s92, s93, rfl⟩ := hx9.form
           obtain rfl := he9
           have hb89 : Below v8.heap.size v8 w9 := (by first | exact hb9 | exact ((Below.refl v8.heap.size v8).drew).trans hb9)
           have hown9 : w9.ownsRow (O + 1) 35 7 (.slice (some ⟨g, 0, none⟩) sl cap) sl css.flatten := ownsRow_below HSJ.out.own hb89 (fun g' hg' => (HSJ.out.own.lt g' hg').2)
           obtain ⟨⟨z0, y0⟩, f0⟩ := own_cells hown9 (at_ * 7) (by have := HSS.out.2.2 0 (by omega); omega)
           obtain ⟨⟨z1, y1⟩, f1⟩ := own_cells hown9 (at_ * 7 + 1) (HSS.out.2.2 1 (by omega))
           obtain ⟨⟨z2, y2⟩, f2⟩ := own_cells hown9 (at_ * 7 + 2) (HSS.out.2.2 2 (by omega))
           obtain ⟨⟨z3, y3⟩, f3⟩ := own_cells hown9 (at_ * 7 + 3) (HSS.out.2.2 3 (by omega))
           obtain ⟨⟨z4, y4⟩, f4⟩ := own_cells hown9 (at_ * 7 + 4) (HSS.out.2.2 4 (by omega))
           obtain ⟨⟨z5, y5⟩, f5⟩ := own_cells hown9 (at_ * 7 + 5) (HSS.out.2.2 5 (by omega))
           obtain ⟨⟨z6, y6⟩, f6⟩ := own_cells hown9 (at_ * 7 + 6) (HSS.out.2.2 6 (by omega))
           have hj6 : w9.cell? ⟨O, 6, none⟩ = some (.slice (some ⟨g, 0, none⟩) sl cap) := keepZ hb89 j6
           have H9 := Lib.hid (And.intro hb89 (And.intro hown9 hx9))
           clear hb9 hb89 hown9 hx9 hl9)
        | fail)
      all_goals
        clear f0 f1 f2 f3 f4 f5 f6 y0 y1 y2 y3 y4 y5 y6 hj6
        obtain ⟨hb89, hown9, hx9⟩ := H9.out
        have hsz9 := hb89.size
        have hsz8 := HSJ.out.bl.size
        have hgo := hown9.lt g rfl
        have hgo8 := HSJ.out.own.lt g rfl
        have hOe := HBO.out
        have m := put7_mod w9 g (at_ * 7) (.int .i64 o9) (.slice r91 r92 r93) (.int .i64 mn9) (.int .i64 mx9) (.bool lz9) (.bool false) (.slice s91 s92 s93)
        have hblkO := m.heap ((Mod.of_below (F := fun _ => False) hb89).heap HSJ.out.blk (fun h => h)) (show ¬ O = g by omega)
        have hBI9 := ((HBI'.out.below HSJ.out.bl).below hb89).mod m (show ¬ w.heap.size = g by omega) (show ¬ w.heap.size + 1 = g by omega) (show ¬ w.heap.size + 2 = g by omega)
        have hbw9 : Below w.heap.size w w9 := (HB3.out.trans (HBC.out.mono HB3.out.size)).trans ((HSJ.out.bl.mono (by omega)).trans (hb89.mono (by omega)))
        have hsw9 := hbw9.size
        have hl1 := HLE.out.1
        have hl2 := HLE.out.2.1
        have hxx : RxI w9 (fun g' => (g' < N ∨ v8.heap.size ≤ g') ∧ g' < w9.heap.size) (d + 2) (spoil b ws s) _ := RxI.wide (fun g' hg' => ⟨by have := hg'.1; simp at this; omega, hg'.2⟩) _ _ _ hx9
        rw [hl2] at hown9
        have hrr := (HRR.out.2.2.1.below (HBC.out.trans (HSJ.out.bl.mono HBC.out.size))).below (hb89.mono (by omega))
        have hfin := spoil_fin (N := N) (d := d) (B := w.heap.size) hown9 (by omega) hN hgo8.2 (by omega) HS.out.2.1 HS.out.2.2.2.2 (by omega) HSS.out.2.1 (fun i c s hc hs => RxI.below hbw9 _ _ _ (HS.out.2.2.1 i c s hc hs)) hxx hrr HRR.out.2.2.2 HRR.out.1 HRR.out.2.1 (by omega)
        rw [← hl1, ← hl2] at hfin
        have hsp : spoil b way t = .mk t.op t.lazy t.fold t.runes t.mn t.mx (t.subs.set at_ (spoil b ws s)) := by
          rw [HAT.out.2.1, spoil, HAT.out.2.2]
          have e1 : atP x0' t.subs.length = at_ := by rw [HAT.out.1, hl2, HS.out.2.2.2.2]
          rw [e1]
          have e2 : t.subs.getD at_ Tr.zero = s := by rw [List.getD_eq_getElem?_getD, HSS.out.2.1]; rfl
          rw [e2]; rfl
        have hf := doneS (N := N) (w := w) rfl hBI9 hfin (hbw9.trans (m.toBelow hsw9 fun k _ e => by omega)) hN
        rw [← hsp] at hf
        obtain ⟨⟨x0, x1, x2, x3, x4, x5, x6⟩, _⟩ := cells7 hblkO
        obtain ⟨⟨e0, e1, e2, e3, e4, e5, e6⟩, g0, g1, g2, g3, g4, g5, g6⟩ := cells7 hBI9.br
        unfold put7 at x0 x1 x2 x3 x4 x5 x6 e0 e1 e2 e3 e4 e5 e6 g0 g1 g2 g3 g4 g5 g6
        obtain ⟨HZ, HX⟩ := And.intro (Lib.hid hf.1) (Lib.hid hf.2)
        clear hf hsp hfin hrr hxx hl1 hl2 hbw9 hsw9 hBI9 hblkO m hOe hgo hgo8 hsz8 hsz9 hb89 hown9 hx9 k0 k1 k2 k3 k4 k5 k6 q0 q1 q2 q3 q4 q5 q6 c0 c1 c2 c3 c4 c5 c6 j6
        go_wp2_with fail
        try simp only [Exit.inBlock, Exit.then]
        refine bodyPost_ret (results_cell_row rfl _ _ (w.heap.size + 2) 35 _ (0, 0) _ rfl HZ.out Tryd.underlying35 rfl (by kernel_rfl)) rfl ?_
        exact HX.out
/-- regexSpoilt: another node at a place. -/
theorem spoil_any (N : Nat) (b : Tr) : ∀ (d : Nat) (t : Tr) (ct cb : List Value) (way : List Int) (v : Value) (w : World), N ≤ w.heap.size → RxI w (fun g => g < N) (d + 1) t ct → RxI w (fun g => g < N) 2 b cb → Reads w v way.length 1 (way.map iZ) → Calls Tryd.prog 29 #[.agg ct.toArray, .agg cb.toArray, v] w (SPost N (d + 3) (spoil b way t) w) := by
  intro d
  induction d with
  | zero =>
    intro t ct cb way v w hN hT hB hv
    exact spoil_step N b 0 (fun t ct cb way v w _ h => h.elim) t ct cb way v w hN hT hB hv
  | succ d ih => intro t ct cb way v w hN hT hB hv; exact spoil_step N b (d + 1) (fun t ct cb way v w => ih t ct cb way v w) t ct cb way v w hN hT hB hv
end Go.Proofs.YtnpchkohfomagaaDoor.Rgy
