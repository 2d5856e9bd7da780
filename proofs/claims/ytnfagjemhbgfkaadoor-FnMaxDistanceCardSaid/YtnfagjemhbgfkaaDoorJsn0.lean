/- The turned JSON of a place: zzDigits, zzJSON. -/
import Derived.Test.YtnfagjemhbgfkaaDoorSha6
import Derived.Test.YtnfagjemhbgfkaaDoorApp
import Derived.Test.YtnfagjemhbgfkaaDoorNorP
import Derived.Lib.AppendStr
namespace Go.Proofs.YtnfagjemhbgfkaaDoor.Jsn
open Go.ChangeShapes Go.WideShapes Go.ChangeAt Go.RowKit Go.Trav Go.Nor Go.Proofs.YtnfagjemhbgfkaaDoor.Sha
set_option linter.unusedVariables false
set_option linter.unusedSimpArgs false
set_option maxRecDepth 100000
theorem wpList_append_reads {P : Program} {w : World} {ops : Array Oper} {rest : List Oper} {o : Oper} {a : Act} {Q : Exit → Act → World → Prop} (hgd : o.guard = none) (s x : Operand) (t : TypeId)
    (ho : o.op = .call { callee := .builtin .append, args := #[s, x], argTypes := #[t, t] }) (base : Nat) (e : TypeId) (i : TypeInfo) (z : Value) (size bytes : Nat) (ht : P.underlying t = some (.slice e)) (hi : P.info? e = some i) (hz : i.zero = some z)
    (hsize : i.size = size) (hby : i.bytes = bytes) (hzs : z.cells.size = size) (hsz : 0 < size) (v : Value) (n : Nat) (xs : List Value) (hs : a.eval s = v) (hown : w.ownsRow base e size v n xs)
    (xv : Value) (m : Nat) (news : List Value) (hx : a.eval x = xv) (hr : Reads w xv m size news) (h1 : ∀ u ∈ news, u.oneCell' = true) (h63 : n + m ≤ maxLen) (hbytes : (n + m) * bytes ≤ 140737488355328) (hbase : base ≤ w.heap.size)
    (h : ∀ ao cap w', w'.ownsRow base e size (.slice ao (n + m) cap) (n + m) (xs ++ news) → w.grownBy w' v.ownBlock → ((Value.slice ao (n + m) cap).ownBlock = v.ownBlock ∨ (Value.slice ao (n + m) cap).ownBlock = some w.heap.size) → wpList P ops Q rest (a.put o.dst (.slice ao (n + m) cap)) w') : wpList P ops Q (o :: rest) a w :=
  wpList_plain hgd fun _ hK => wp_append_reads s x t ho base e i z size bytes ht hi hz hsize hby hzs hsz v n xs hs hown xv m news hx hr h1 h63 hbytes hbase fun ao cap w' h2 h3 h4 => hK _ _ (h ao cap w' h2 h3 h4)
theorem wpList_append_readsV {P : Program} {w : World} {ops : Array Oper} {rest : List Oper} {o : Oper} {a : Act} {Q : Exit → Act → World → Prop} (hgd : o.guard = none) (s x : Operand) (t : TypeId)
    (ho : o.op = .call { callee := .builtin .append, args := #[s, x], argTypes := #[t, t] }) (base : Nat) (e : TypeId) (i : TypeInfo) (z : Value) (size bytes : Nat) (ht : P.underlying t = some (.slice e)) (hi : P.info? e = some i) (hz : i.zero = some z)
    (hsize : i.size = size) (hby : i.bytes = bytes) (hzs : z.cells.size = size) (hsz : 0 < size) (v : Value) (n : Nat) (xs : List Value) (hs : a.eval s = v) (hown : w.ownsRow base e size v n xs)
    (xv : Value) (m : Nat) (news : List Value) (hx : a.eval x = xv) (hr : Reads w xv m size news) (h1 : ∀ u ∈ news, u.oneCell' = true) (h63 : n + m ≤ maxLen) (hbytes : (n + m) * bytes ≤ 140737488355328) (hbase : base ≤ w.heap.size)
    (h : ∀ v' w', w'.ownsRow base e size v' (n + m) (xs ++ news) → w.grownBy w' v.ownBlock → wpList P ops Q rest (a.put o.dst v') w') : wpList P ops Q (o :: rest) a w :=
  wpList_plain hgd fun _ hK => wp_append_reads s x t ho base e i z size bytes ht hi hz hsize hby hzs hsz v n xs hs hown xv m news hx hr h1 h63 hbytes hbase fun ao cap w' h2 h3 h4 => hK _ _ (h _ w' h2 h3)
/-- A row of the call's own is there, and reads. -/
theorem owns_reads {w : World} {base : Nat} {e : TypeId} {size n : Nat} {v : Value} {xs : List Value} (h : w.ownsRow base e size v n xs) : Reads w v n size xs := by
  obtain ⟨hl, h⟩ := h
  rcases h with ⟨rfl, hn⟩ | ⟨g, cap, cur, rfl, hb, hg, hnc, hcm, hcs, ht⟩
  · exact ⟨none, 0, by subst hn; rfl, by omega, by unfold maxLen; omega, fun _ => rfl, hl, fun h => by rw [hl, hn] at h; omega⟩
  · refine ⟨_, _, rfl, hnc, hcm, (fun h => by cases h), hl, fun _ => ⟨g, 0, rfl, fun j u hj => ?_⟩⟩
    rw [Nat.zero_add]
    refine block_cell hg ?_
    have hjl := (List.getElem?_eq_some_iff.1 hj).1
    rw [← ht, List.getElem?_take] at hj
    split at hj
    · rw [← Array.getElem?_toList]; exact hj
    · cases hj
/-- One byte in a block of its own. -/
theorem owns_one (w : World) (base : Nat) (x : Int) (hb : base ≤ w.heap.size) : (w.alloc (.cells #[.int .u8 x] 5)).ownsRow base 5 1 (.slice (some ⟨w.heap.size, 0, none⟩) 1 1) 1 [.int .u8 x] :=
  ⟨rfl, .inr ⟨w.heap.size, 1, #[.int .u8 x], rfl, hb, heap_alloc_new w _, Nat.le_refl _, by unfold maxLen; omega, rfl, rfl⟩⟩
/-- The digits of a small number. -/
def digs (x : Nat) : List Int := if x < 10 then [48 + (x : Int)] else [48 + (x / 10 : Nat), 48 + (x % 10 : Nat)]
set_option maxHeartbeats 2000000 in
theorem dg1_any (x : Nat) (w : World) (hx : x < 10) : Calls Tryd.prog 32 #[.int .u32 x] w fun e w' => ∃ v, e = .returned v ∧ w'.ownsRow w.heap.size 5 1 v (digs x).length ((digs x).map u8V) ∧ Below w.heap.size w w' := by
  have h1 : (x : Int) < 10 := by omega
  have h0 : (0 : Int) ≤ (x : Int) := by omega
  go_enter Tryd.func32, Tryd.ntmps32
  go_wp2_with fail
  go_ret
  refine ⟨_, rfl, ?_, (Below.refl _ _).alloc (Nat.le_refl _) _⟩
  rw [digs, if_pos hx]
  exact owns_one w w.heap.size _ (Nat.le_refl _)
set_option maxHeartbeats 2000000 in
theorem dg_any (x : Nat) (w : World) (hx : x < 100) : Calls Tryd.prog 32 #[.int .u32 x] w fun e w' => ∃ v, e = .returned v ∧ w'.ownsRow w.heap.size 5 1 v (digs x).length ((digs x).map u8V) ∧ Below w.heap.size w w' := by
  by_cases h10 : x < 10
  · exact dg1_any x w h10
  · have h1 : ¬ (x : Int) < 10 := by omega
    have hm : (x : Int) < 100 := by omega
    have h0 : (0 : Int) ≤ (x : Int) := by omega
    have hc := dg1_any (x / 10) w (by omega)
    rw [Int.natCast_ediv] at hc
    have HC := Lib.hid hc
    have h100 : ¬ x < 10 := h10
    clear hc h10
    obtain ⟨i0, hi, hz, hz1, hz2⟩ := info_parts Tryd.info5
    have HI := Lib.hid hi
    clear hi
    go_enter Tryd.func32, Tryd.ntmps32
    go_wp2_with fail
    refine HC.out.mono ?_
    rintro e w1 ⟨v, rfl, ho, hB⟩
    have hw1 : w.heap.size ≤ w1.heap.size := hB.size
    have HO := Lib.hid ho
    have HB := Lib.hid hB
    clear ho hB
    have HS := Lib.hid (owns_reads (owns_one w1 w.heap.size (48 + (x : Int) % 10) hw1))
    have hd1 : (digs (x / 10)).length = 1 := by rw [digs, if_pos (by omega)]; rfl
    have HO2 := Lib.hid (HO.out.alloc (.cells #[.int .u8 (48 + (x : Int) % 10)] 5))
    have hq1 : (digs (x / 10)).length + 1 ≤ maxLen := by rw [hd1]; unfold maxLen; omega
    have hq2 : ((digs (x / 10)).length + 1) * 1 ≤ 140737488355328 := by rw [hd1]; omega
    have hq3 : w.heap.size ≤ (w1.alloc (.cells #[.int .u8 (48 + (x : Int) % 10)] 5)).heap.size := by simp; omega
    have hq4 : ∀ u ∈ [Value.int .u8 (48 + (x : Int) % 10)], u.oneCell' = true := by
      intro u hu
      obtain rfl : u = _ := by simpa using hu
      rfl
    go_wp2_with (refine wpList_append_reads rfl (.tmp 11) (.tmp 16) 38 rfl w.heap.size 5 i0 _ 1 1 Tryd.underlying38 HI.out hz hz1 hz2 rfl (by decide) v _ _ rfl HO2.out (.slice (some ⟨w1.heap.size, 0, none⟩) 1 1) 1 [.int .u8 (48 + (x : Int) % 10)] rfl HS.out hq4 hq1 hq2 hq3 ?_; intro ao cap w2 h1 h2 h3)
    go_ret
    refine ⟨_, rfl, ?_, below_own HB.out HO.out _ h2 hw1⟩
    have e1 : digs x = digs (x / 10) ++ [48 + ((x % 10 : Nat) : Int)] := by rw [digs, if_neg h100, digs, if_pos (by omega)]; rfl
    rw [hd1] at h1
    rw [e1, List.map_append, List.length_append, hd1]
    exact h1
/-- The pieces of a place's text. -/
def j1 : List Int := [123, 34, 79, 102, 102, 115, 101, 116, 34, 58]
def j2 : List Int := [44, 34, 68, 105, 115, 116, 97, 110, 99, 101, 34, 58]
def j3 : List Int := [44, 34, 73, 110, 84, 114, 97, 110, 115, 112, 111, 115, 101, 34, 58, 116, 114, 117, 101, 125]
def j4 : List Int := [44, 34, 73, 110, 84, 114, 97, 110, 115, 112, 111, 115, 101, 34, 58, 102, 97, 108, 115, 101, 125]
def jtext (p : Plc) : List Int := j1 ++ digs p.o ++ j2 ++ digs p.d ++ (if p.t then j3 else j4)
theorem j1_cells : Lib.strCells ⟨#[123, 34, 79, 102, 102, 115, 101, 116, 34, 58]⟩ = j1.map u8V := rfl
theorem j2_cells : Lib.strCells ⟨#[44, 34, 68, 105, 115, 116, 97, 110, 99, 101, 34, 58]⟩ = j2.map u8V := rfl
theorem j3_cells : Lib.strCells ⟨#[44, 34, 73, 110, 84, 114, 97, 110, 115, 112, 111, 115, 101, 34, 58, 116, 114, 117, 101, 125]⟩ = j3.map u8V := rfl
theorem j4_cells : Lib.strCells ⟨#[44, 34, 73, 110, 84, 114, 97, 110, 115, 112, 111, 115, 101, 34, 58, 102, 97, 108, 115, 101, 125]⟩ = j4.map u8V := rfl
/-- A row of bytes of one's own, made since W1. -/
structure JS (B : Nat) (W1 wk : World) (v : Value) (l : List Int) : Prop where
  bel : Below B W1 wk
  own : wk.ownsRow B 5 1 v l.length (l.map u8V)
  le : B ≤ wk.heap.size
theorem JS.grow {B : Nat} {W1 wk w' : World} {v v' : Value} {l m : List Int} (h : JS B W1 wk v l) (ho : w'.ownsRow B 5 1 v' (l.length + m.length) (l.map u8V ++ m.map u8V)) (hg : wk.grownBy w' v.ownBlock) : JS B W1 w' v' (l ++ m) :=
  ⟨below_own' h.bel h.own hg h.le, by rw [List.length_append, List.map_append]; exact ho, Nat.le_trans h.le hg.size⟩
theorem JS.below {B : Nat} {W1 wk w' : World} {v : Value} {l : List Int} (h : JS B W1 wk v l) (hb : Below wk.heap.size wk w') : JS B W1 w' v l :=
  ⟨h.bel.trans (hb.mono h.le), ownsRow_below h.own hb (fun g hg => (h.own.lt g hg).2), Nat.le_trans h.le hb.size⟩
theorem lit_le {n m : Nat} (h : n ≤ 100) (hm : m ≤ 100) : n + m ≤ maxLen := by unfold maxLen; omega
theorem lit_le2 {n m : Nat} (h : n ≤ 100) (hm : m ≤ 100) : n + m ≤ 140737488355328 := by omega
theorem digs_len (x : Nat) : (digs x).length ≤ 2 := by unfold digs; split <;> simp
set_option maxHeartbeats 4000000 in
theorem js_any (p : Plc) (w : World) (ho : p.o < 100) (hd : p.d < 100) : Calls Tryd.prog 26 #[.agg #[.int .u32 p.o, .int .u8 p.d, .bool p.t]] w fun e w' => ∃ v, e = .returned v ∧ w'.ownsRow w.heap.size 5 1 v (jtext p).length ((jtext p).map u8V) ∧ Below w.heap.size w w' := by
  obtain ⟨i0, hi, hz, hz1, hz2⟩ := info_parts Tryd.info5
  have HI := Lib.hid hi
  have hd0 : (0 : Int) ≤ (p.d : Int) := by omega
  have hd1 : (p.d : Int) < 100 := by omega
  obtain ⟨W1, hW1⟩ : ∃ W1, W1 = w.alloc (.cells #[.int .u32 p.o, .int .u8 p.d, .bool p.t] 71) := ⟨_, rfl⟩
  have hb1 : W1.heap[w.heap.size]? = some (.cells #[.int .u32 p.o, .int .u8 p.d, .bool p.t] 71 (0, 0)) := by rw [hW1]; exact heap_alloc_new w _
  have hBl : Below w.heap.size w W1 := by rw [hW1]; exact (Below.refl _ _).alloc (Nat.le_refl _) _
  have hsz : W1.heap.size = w.heap.size + 1 := by rw [hW1]; simp
  have HJ0 : Hid (JS (w.heap.size + 1) W1 W1 (.slice none 0 0) []) := Lib.hid ⟨Below.refl _ _, ⟨rfl, .inl ⟨rfl, rfl⟩⟩, by omega⟩
  have HB1 := Lib.hid hb1
  have HBL := Lib.hid hBl
  have HSZ := Lib.hid hsz
  clear hi hb1 hBl hsz
  go_enter Tryd.func26, Tryd.ntmps26
  go_upto_region 1 with fail
  rw [← hW1]
  clear hW1
  have hb0 := HJ0.out.le
  have HJ0l : ([] : List Int).length ≤ 100 := by simp
  go_upto_region 2 with (refine Lib.wpList_append_own_string W1 rfl (.const (.slice none 0 0)) (.const (.string ⟨#[123, 34, 79, 102, 102, 115, 101, 116, 34, 58]⟩)) 38 9 rfl (w.heap.size + 1) 5 i0 Tryd.underlying38 Tryd.underlying9 HI.out hz hz1 hz2 (.slice none 0 0) _ _ rfl HJ0.out.own ⟨#[123, 34, 79, 102, 102, 115, 101, 116, 34, 58]⟩ rfl (lit_le HJ0l (by decide)) (lit_le2 HJ0l (by decide)) HJ0.out.le ?_; intro v1 w1 h1 h2 h3)
  have HJ1 : Hid (JS (w.heap.size + 1) W1 w1 v1 ([] ++ j1)) := Lib.hid (HJ0.out.grow (m := j1) (by rw [← j1_cells]; exact h1) h2)
  clear h1 h2 h3
  have HJ1l : ([] ++ j1).length ≤ 100 := by
    have := digs_len p.o
    have := digs_len p.d
    simp only [List.length_append, List.length_nil, show j1.length = 10 from rfl, show j2.length = 12 from rfl]
    omega
  have c0 : w1.cell? ⟨w.heap.size, 0, none⟩ = some (.int .u32 p.o) := by rw [HJ1.out.bel.cell (p := ⟨w.heap.size, 0, none⟩) (Nat.lt_succ_self _)]; exact block_cell HB1.out rfl
  go_wp2_with fail
  refine (dg_any p.o w1 ho).mono ?_
  rintro e w2 ⟨v2, rfl, hO, hB⟩
  have HJ2 := Lib.hid (HJ1.out.below hB)
  have HR2 := Lib.hid (owns_reads hO)
  clear hO hB c0
  have hq1 : ([] ++ j1).length + (digs p.o).length ≤ maxLen := by have := digs_len p.o; unfold maxLen; omega
  have hq2 : (([] ++ j1).length + (digs p.o).length) * 1 ≤ 140737488355328 := by have := digs_len p.o; omega
  go_upto_region 3 with (refine wpList_append_readsV rfl (.tmp 5) (.tmp 8) 38 rfl (w.heap.size + 1) 5 i0 _ 1 1 Tryd.underlying38 HI.out hz hz1 hz2 rfl (by decide) v1 _ _ rfl HJ2.out.own v2 _ _ rfl HR2.out (u8V_one _) hq1 hq2 HJ2.out.le ?_; intro v3 w3 h1 h2)
  have HJ3 : Hid (JS (w.heap.size + 1) W1 w3 v3 ([] ++ j1 ++ digs p.o)) := Lib.hid (HJ2.out.grow (m := digs p.o) h1 h2)
  clear h1 h2 hq1 hq2
  have HJ3l : ([] ++ j1 ++ digs p.o).length ≤ 100 := by
    have := digs_len p.o
    have := digs_len p.d
    simp only [List.length_append, List.length_nil, show j1.length = 10 from rfl, show j2.length = 12 from rfl]
    omega
  go_upto_region 4 with (refine Lib.wpList_append_own_string w3 rfl (.tmp 10) (.const (.string ⟨#[44, 34, 68, 105, 115, 116, 97, 110, 99, 101, 34, 58]⟩)) 38 9 rfl (w.heap.size + 1) 5 i0 Tryd.underlying38 Tryd.underlying9 HI.out hz hz1 hz2 v3 _ _ rfl HJ3.out.own ⟨#[44, 34, 68, 105, 115, 116, 97, 110, 99, 101, 34, 58]⟩ rfl (lit_le HJ3l (by decide)) (lit_le2 HJ3l (by decide)) HJ3.out.le ?_; intro v4 w4 h1 h2 h3)
  have HJ4 : Hid (JS (w.heap.size + 1) W1 w4 v4 ([] ++ j1 ++ digs p.o ++ j2)) := Lib.hid (HJ3.out.grow (m := j2) (by rw [← j2_cells]; exact h1) h2)
  clear h1 h2 h3
  have HJ4l : ([] ++ j1 ++ digs p.o ++ j2).length ≤ 100 := by
    have := digs_len p.o
    have := digs_len p.d
    simp only [List.length_append, List.length_nil, show j1.length = 10 from rfl, show j2.length = 12 from rfl]
    omega
  have c1 : w4.cell? ⟨w.heap.size, 1, none⟩ = some (.int .u8 p.d) := by rw [HJ4.out.bel.cell (p := ⟨w.heap.size, 1, none⟩) (Nat.lt_succ_self _)]; exact block_cell HB1.out rfl
  go_wp2_with fail
  refine (dg_any p.d w4 hd).mono ?_
  rintro e w5 ⟨v5, rfl, hO, hB⟩
  have HJ5 := Lib.hid (HJ4.out.below hB)
  have HR5 := Lib.hid (owns_reads hO)
  clear hO hB c1
  have hq1 : ([] ++ j1 ++ digs p.o ++ j2).length + (digs p.d).length ≤ maxLen := by have := digs_len p.d; unfold maxLen; omega
  have hq2 : (([] ++ j1 ++ digs p.o ++ j2).length + (digs p.d).length) * 1 ≤ 140737488355328 := by have := digs_len p.d; omega
  go_upto_region 5 with (refine wpList_append_readsV rfl (.tmp 12) (.tmp 16) 38 rfl (w.heap.size + 1) 5 i0 _ 1 1 Tryd.underlying38 HI.out hz hz1 hz2 rfl (by decide) v4 _ _ rfl HJ5.out.own v5 _ _ rfl HR5.out (u8V_one _) hq1 hq2 HJ5.out.le ?_; intro v6 w6 h1 h2)
  have HJ6 : Hid (JS (w.heap.size + 1) W1 w6 v6 ([] ++ j1 ++ digs p.o ++ j2 ++ digs p.d)) := Lib.hid (HJ5.out.grow (m := digs p.d) h1 h2)
  clear h1 h2 hq1 hq2
  have HJ6l : ([] ++ j1 ++ digs p.o ++ j2 ++ digs p.d).length ≤ 100 := by
    have := digs_len p.o
    have := digs_len p.d
    simp only [List.length_append, List.length_nil, show j1.length = 10 from rfl, show j2.length = 12 from rfl]
    omega
  have c2 : w6.cell? ⟨w.heap.size, 2, none⟩ = some (.bool p.t) := by rw [HJ6.out.bel.cell (p := ⟨w.heap.size, 2, none⟩) (Nat.lt_succ_self _)]; exact block_cell HB1.out rfl
  have HPT : Hid (∀ b, p.t = b → jtext p = [] ++ j1 ++ digs p.o ++ j2 ++ digs p.d ++ (if b then j3 else j4)) := Lib.hid (fun b h => by rw [jtext, h]; rfl)
  cases hpt : p.t with
  | true =>
    rw [hpt] at c2
    go_wp2_with (refine Lib.wpList_append_own_string w6 rfl (.tmp 20) (.const (.string ⟨#[44, 34, 73, 110, 84, 114, 97, 110, 115, 112, 111, 115, 101, 34, 58, 116, 114, 117, 101, 125]⟩)) 38 9 rfl (w.heap.size + 1) 5 i0 Tryd.underlying38 Tryd.underlying9 HI.out hz hz1 hz2 v6 _ _ rfl HJ6.out.own ⟨#[44, 34, 73, 110, 84, 114, 97, 110, 115, 112, 111, 115, 101, 34, 58, 116, 114, 117, 101, 125]⟩ rfl (lit_le HJ6l (by decide)) (lit_le2 HJ6l (by decide)) HJ6.out.le ?_; intro v7 w7 h1 h2 h3)
    have HJ7 : JS (w.heap.size + 1) W1 w7 v7 ([] ++ j1 ++ digs p.o ++ j2 ++ digs p.d ++ j3) := HJ6.out.grow (m := j3) (by rw [← j3_cells]; exact h1) h2
    go_ret
    refine ⟨_, rfl, ?_, HBL.out.trans (HJ7.bel.mono (Nat.le_succ _))⟩
    rw [HPT.out true hpt]
    exact ownsRow_mono HJ7.own (Nat.le_succ _)
  | false =>
    rw [hpt] at c2
    go_wp2_with (refine Lib.wpList_append_own_string w6 rfl (.tmp 22) (.const (.string ⟨#[44, 34, 73, 110, 84, 114, 97, 110, 115, 112, 111, 115, 101, 34, 58, 102, 97, 108, 115, 101, 125]⟩)) 38 9 rfl (w.heap.size + 1) 5 i0 Tryd.underlying38 Tryd.underlying9 HI.out hz hz1 hz2 v6 _ _ rfl HJ6.out.own ⟨#[44, 34, 73, 110, 84, 114, 97, 110, 115, 112, 111, 115, 101, 34, 58, 102, 97, 108, 115, 101, 125]⟩ rfl (lit_le HJ6l (by decide)) (lit_le2 HJ6l (by decide)) HJ6.out.le ?_; intro v7 w7 h1 h2 h3)
    have HJ7 : JS (w.heap.size + 1) W1 w7 v7 ([] ++ j1 ++ digs p.o ++ j2 ++ digs p.d ++ j4) := HJ6.out.grow (m := j4) (by rw [← j4_cells]; exact h1) h2
    go_ret
    refine ⟨_, rfl, ?_, HBL.out.trans (HJ7.bel.mono (Nat.le_succ _))⟩
    rw [HPT.out false hpt]
    exact ownsRow_mono HJ7.own (Nat.le_succ _)
end Go.Proofs.YtnfagjemhbgfkaaDoor.Jsn
