/- The spec of the automaton of instructions: spec.reached. -/
import Derived.Test.YtnpchkohfomagaaDoorRgSpec
import Derived.StillTailTactics
namespace Go.Proofs.YtnpchkohfomagaaDoor.Rgw
open Go.ChangeShapes Go.WideShapes Go.ChangeAt Go.RowKit Go.Trav Go.Rg
set_option linter.unusedVariables false
set_option linter.unusedSimpArgs false
set_option maxRecDepth 100000
theorem Tryd.infoBool : (Tryd.prog.info? 4).map (fun i => (i.zero, i.size, i.bytes)) = some (some (.bool false), 1, 1) := by kernel_rfl
def uN (x : Nat) : Value := .int .u64 (x : Int)
theorem reads_block {w : World} {B : Nat} {T : TypeId} {l : List Nat} {m : Nat} (h : w.heap[B]? = some (.cells (l.map uN).toArray T (0, 0))) (hm : m = l.length) (hb : m ≤ 1000) : Reads w (.slice (some ⟨B, 0, none⟩) m m) l.length 1 (l.map uN) := by
  subst hm
  refine ⟨_, _, rfl, Nat.le_refl _, by unfold maxLen; omega, fun e => (by cases e), (by simp), fun _ => ⟨B, 0, rfl, fun j u hj => ?_⟩⟩
  rw [Nat.zero_add]
  exact block_cell h (by rw [List.getElem?_toArray]; exact hj)
/-- How many cells of a row hold false. -/
def isF : Option Value → Bool
  | some (.bool false) => true
  | _ => false
def trueN : Value → Nat
  | .bool true => 1
  | _ => 0
def rowF (v : Value) (n : Nat) (w : World) : Nat := match v with
  | .slice (some a) _ _ => (List.range n).countP fun k => isF (w.cell? ⟨a.block, k, none⟩)
  | _ => 0
theorem count_range (bs : List Bool) : bs.count false = (List.range bs.length).countP fun k => bs[k]?.getD true == false := by
  have e : bs = (List.range bs.length).map fun k => bs[k]?.getD true := by
    apply List.ext_getElem
    · simp
    · intro i h1 h2
      simp [List.getElem?_eq_getElem h1]
  conv => lhs; rw [e]
  rw [List.count, List.countP_map]
  rfl
theorem rowF_eq {w : World} {base : Nat} {e : TypeId} {v : Value} {n : Nat} {bs : List Bool} (h : w.ownsRow base e 1 v n (bs.map Value.bool)) (h0 : 0 < n) : rowF v n w = bs.count false := by
  have hl : bs.length = n := by have := h.1; simpa using this
  obtain ⟨g, cap, rfl, _, _, _, hc⟩ := ownsRow_at h (by simp [hl]; exact h0)
  rw [count_range, hl]
  show (List.range n).countP (fun k => isF (w.cell? ⟨g, k, none⟩)) = _
  refine List.countP_congr fun k hk => ?_
  have hkn : k < n := by simpa using hk
  have hb : bs[k]? = some bs[k] := List.getElem?_eq_getElem (by omega)
  obtain ⟨c1, _⟩ := hc k (.bool bs[k]) (by rw [List.getElem?_map, hb]; rfl)
  rw [c1, hb]
  cases bs[k] <;> simp [isF]
theorem own_set {α : Type} {w : World} {base : Nat} {e : TypeId} {g n cap : Nat} {xs : List α} (f : α → Value) (h : w.ownsRow base e 1 (.slice (some ⟨g, 0, none⟩) n cap) n (xs.map f)) (y : Nat) (x : α) :
    (w.setCell ⟨g, y, none⟩ (f x)).ownsRow base e 1 (.slice (some ⟨g, 0, none⟩) n cap) n ((xs.set y x).map f) := by
  obtain ⟨h1, h2⟩ := h
  refine ⟨by simpa using h1, ?_⟩
  rcases h2 with ⟨e1, _⟩ | ⟨g', cap', cur, e1, hb, hg, hn, hc, hs, ht⟩
  · cases e1
  · cases e1
    refine Or.inr ⟨g, cap, _, rfl, hb, block_set hg, hn, hc, by simpa using hs, ?_⟩
    rw [Array.toList_setIfInBounds, List.take_set, ht]
    rw [List.map_set]
theorem succ_lt {l : List In} (hs : Sound l) {k : Nat} {i : In} (h : l[k]? = some i) : ∀ y ∈ i.succ, y < l.length := by
  obtain ⟨q1, q2, _, _⟩ := hs k i h
  intro y hy
  unfold In.succ at hy
  split at hy
  · rename_i e; simp at hy; subst hy; exact q1 e
  · split at hy
    · rename_i e; simp at hy
      rcases hy with rfl | rfl
      · exact (q2 e).1
      · exact (q2 e).2
    · cases hy
set_option maxHeartbeats 4000000 in
theorem reached_any (l : List In) (r : List Nat) (v sv : Value) (bs : List Bool) (w : World) (hs : Sound l) (h : Reads w v l.length 6 (l.flatMap inC)) (h0 : 0 < l.length) (hl : l.length ≤ 1000000)
    (hb : Reads w sv l.length 1 (bs.map Value.bool)) (hr : ∀ x : Nat, bs[x]? = some true ↔ x ∈ r) :
    Calls Tryd.prog 38 #[v, sv] w fun e w' => ∃ (v' : Value) (bs' : List Bool), e = .returned v' ∧ ClosB l r bs' ∧ w'.ownsRow w.heap.size 4 1 v' l.length (bs'.map Value.bool) ∧ Below w.heap.size w w' := by
  obtain ⟨b, o, c, rfl, _⟩ := in_slice h h0
  obtain ⟨so, sc, rfl⟩ := hb.form
  have hbl : bs.length = l.length := by have := hb.len; simpa using this
  have H := Lib.hid h
  have HB := Lib.hid hb
  have HS := Lib.hid hs
  have HR := Lib.hid hr
  clear h hb hs hr
  go_enter Tryd.func38, Tryd.ntmps38
  go_wp2_with (at_builtin; refine wpList_append_reads rfl (.tmp 10) (.tmp 11) 25 rfl w.heap.size 4 _ 1 1 Tryd.underlying25 Tryd.infoBool rfl (by decide) (by decide) (.slice (some ⟨w.heap.size, 0, none⟩) 0 0) 0 [] rfl ⟨rfl, Or.inr ⟨w.heap.size, 0, #[], rfl, Nat.le_refl _, heap_alloc_new w _, Nat.le_refl _, Nat.zero_le _, rfl, rfl⟩⟩ _ l.length (bs.map Value.bool) rfl (HB.out.below ((Below.refl _ _).alloc (Nat.le_refl _) _)) (fun u hu => by obtain ⟨x, _, rfl⟩ := List.mem_map.1 hu; rfl) (by omega) (by simp) ?_; intro ao1 cap1 w1 hown1 hgr1 hat1)
  have hb1 : Below w.heap.size w w1 := below_grown ((Below.refl _ _).alloc (Nat.le_refl _) _) hgr1 (by simp) (fun k hk => by cases hk; exact Nat.le_refl _)
  have hst : RI l r bs l.length 0 true (bs.count false + 1) := ⟨hbl, fun x hx => (HR.out x).mpr hx, fun P h1 _ x hx => h1 x ((HR.out x).mp hx), fun e => (by cases e), fun n hn => (by simp at hn), ⟨fun e => (by cases e), fun _ => Nat.lt_succ_self _⟩⟩
  rw [List.nil_append, Nat.zero_add] at hown1
  have HO1 := Lib.hid hown1
  have HB1 := Lib.hid hb1
  have HST := Lib.hid hst
  clear hown1 hgr1 hat1 hb1 hst
  obtain ⟨g, gc, e1, _, _, _, _⟩ := ownsRow_at HO1.out (by simp [hbl]; exact h0)
  obtain ⟨rfl, rfl⟩ : ao1 = some ⟨g, 0, none⟩ ∧ gc = cap1 := by cases e1; exact ⟨rfl, rfl⟩
  go_loopw [6] (fun av wr => ∃ (bs2 : List Bool) (a : Bool) (c0 : Nat), av = .bool a ∧ Hid (RI l r bs2 l.length 0 a c0) ∧ Hid (wr.ownsRow w.heap.size 4 1 (.slice (some ⟨g, 0, none⟩) l.length gc) l.length (bs2.map Value.bool)) ∧ Hid (Below w.heap.size w wr)) (fun av wr => rowF (.slice (some ⟨g, 0, none⟩) l.length gc) l.length wr + trueN av)
  case atStart => exact ⟨bs, true, _, rfl, HST, HO1, HB1⟩
  case round =>
    obtain ⟨bs2, a, c0, rfl, HRI, HO, HBW⟩ := hrel
    have hcnt := rowF_eq HO.out h0
    cases a with
    | false =>
      go_wp2_with fail
      go_ret
      exact ⟨_, bs2, rfl, HRI.out.fin, HO.out, HBW.out⟩
    | true =>
      have hstart := HRI.out.pass
      have HPS := Lib.hid hstart
      have HCNT := Lib.hid hcnt
      clear hstart hcnt
      go_wp2_with fail
      go_loopw [6, 7] (fun av iv wr => ∃ (bs3 : List Bool) (a : Bool) (i : Nat), av = .bool a ∧ iv = .int .i64 i ∧ i ≤ l.length ∧ Hid (RI l r bs3 i 0 a (bs2.count false)) ∧ Hid (wr.ownsRow w.heap.size 4 1 (.slice (some ⟨g, 0, none⟩) l.length gc) l.length (bs3.map Value.bool)) ∧ Hid (Below w.heap.size w wr)) (fun _ iv _ => l.length - (intOf iv).toNat)
      case atStart => exact ⟨bs2, false, 0, rfl, rfl, Nat.zero_le _, HPS, HO, HBW⟩
      case round =>
        obtain ⟨bs3, a, i, rfl, rfl, hi, HRI3, HO3, HBW3⟩ := hrel
        by_cases hlt : i < l.length
        · obtain ⟨n, hn⟩ : ∃ n, l[i]? = some n := ⟨_, List.getElem?_eq_getElem hlt⟩
          have hbl3 := HRI3.out.len
          obtain ⟨x3, ex3⟩ : ∃ x, bs3[i]? = some x := ⟨_, List.getElem?_eq_getElem (by omega)⟩
          obtain ⟨g', gc', e', _, _, _, hcell⟩ := ownsRow_at HO3.out (by simp [hbl3]; exact h0)
          obtain rfl : g = g' := by cases e'; rfl
          have hc3 := (hcell i _ (by rw [List.getElem?_map, ex3]; rfl)).1
          have hg3 : g < wr.heap.size := (HO3.out.lt g rfl).2
          clear e' hcell
          cases x3 with
          | false =>
            go_wp2_with fail
            go_roundw
            case rel => exact ⟨bs3, a, i + 1, rfl, by go_num, hlt, Lib.hid (HRI3.out.skip ex3), HO3, HBW3⟩
            case measure => simp [intOf]; omega
          | true =>
            have hrw := H.out.below HBW3.out
            have hcA := fun o' => in_cells (hrw.alloc o') hn
            have hcB := fun o' o'' => in_cells ((hrw.alloc o').alloc o'') hn
            have a0 := fun o' => (hcA o').1
            have a1 := fun o' => (hcA o').2.1
            have a2 := fun o' => (hcA o').2.2.1
            have a3 := fun o' => (hcA o').2.2.2.1
            have b0 := fun o' o'' => (hcB o' o'').1
            have hsl := succ_lt HS.out hn
            have hop := (HS.out i n hn).2.2.2
            have HN := Lib.hid hn
            have HSL := Lib.hid hsl
            have HE3 := Lib.hid ex3
            clear hn hsl ex3 hrw hcA hcB
            have hsu : n.succ = if n.op = 1 then [n.to] else if n.op = 2 then [n.a, n.b] else [] := rfl
            have HSU := Lib.hid hsu
            clear hsu
            rcases show n.op = 0 ∨ n.op = 1 ∨ n.op = 2 ∨ n.op = 3 by omega with e0 | e0 | e0 | e0
            all_goals
              have hsu := HSU.out
              simp only [e0] at a0 b0 hsu
              simp at hsu
              obtain ⟨tb, htb⟩ : ∃ tb : Nat, tb = if n.op = 0 ∨ n.op = 3 then wr.heap.size else wr.heap.size + 1 := ⟨_, rfl⟩
              simp [e0] at htb
              have HTB := Lib.hid htb
              have HSU2 := Lib.hid hsu
              clear hsu htb e0
              go_wp2_with fail
              first
              | (have hl0 := (show n.succ = [n.a, n.b] from HSU2.out)
                 clear hl0
                 go_region)
              | skip
              all_goals (try go_wp2_with fail)
              have hml := congrArg List.length HSU2.out
              simp only [List.length_cons, List.length_nil, Nat.zero_add] at hml
              rw [← HTB.out]
              have hub : n.succ.length ≤ 2 := by rw [HSU2.out]; simp
              have htg : tb ≠ g := by have := HTB.out; omega
              have htw : w.heap.size ≤ tb := by have := HTB.out; have := HBW3.out.size; omega
              first
              | (have R5 : Hid (Reads ((wr.alloc (.cells #[] 54)).alloc (.cells #[.int .u64 (n.to : Int)] 54)) (.slice (some ⟨tb, 0, none⟩) 1 1) n.succ.length 1 (n.succ.map uN)) := Lib.hid (reads_block (T := 54) (by rw [HSU2.out]; exact heap_alloc_at _ _ _ (by have := HTB.out; simp; omega)) (by rw [HSU2.out]; rfl) (by omega))
                 have B5 : Hid (Below w.heap.size w ((wr.alloc (.cells #[] 54)).alloc (.cells #[.int .u64 (n.to : Int)] 54))) := Lib.hid ((HBW3.out.alloc HBW3.out.size _).alloc (by have := HBW3.out.size; simp; omega) _)
                 have O5 : Hid (((wr.alloc (.cells #[] 54)).alloc (.cells #[.int .u64 (n.to : Int)] 54)).ownsRow w.heap.size 4 1 (.slice (some ⟨g, 0, none⟩) l.length gc) l.length (bs3.map Value.bool)) := Lib.hid ((HO3.out.alloc _).alloc _)
                 generalize (wr.alloc (.cells #[] 54)).alloc (.cells #[.int .u64 (n.to : Int)] 54) = w5 at *)
              | (have R5 : Hid (Reads (wr.alloc (.cells #[] 54)) (.slice (some ⟨tb, 0, none⟩) 0 0) n.succ.length 1 (n.succ.map uN)) := Lib.hid (reads_block (T := 54) (by rw [HSU2.out]; exact heap_alloc_at _ _ _ HTB.out) (by rw [HSU2.out]; rfl) (by omega))
                 have B5 : Hid (Below w.heap.size w (wr.alloc (.cells #[] 54))) := Lib.hid (HBW3.out.alloc HBW3.out.size _)
                 have O5 : Hid ((wr.alloc (.cells #[] 54)).ownsRow w.heap.size 4 1 (.slice (some ⟨g, 0, none⟩) l.length gc) l.length (bs3.map Value.bool)) := Lib.hid (HO3.out.alloc _)
                 generalize wr.alloc (.cells #[] 54) = w5 at *)
              | (have R5 : Hid (Reads ((wr.alloc (.cells #[] 54)).alloc (.cells #[.int .u64 (n.a : Int), .int .u64 (n.b : Int)] 54)).drew (.slice (some ⟨tb, 0, none⟩) 2 2) n.succ.length 1 (n.succ.map uN)) := Lib.hid (reads_block (T := 54) (by rw [HSU2.out]; exact heap_alloc_at (wr.alloc (.cells #[] 54)) _ _ (by have := HTB.out; simp; omega)) (by rw [HSU2.out]; rfl) (by omega))
                 have B5 : Hid (Below w.heap.size w ((wr.alloc (.cells #[] 54)).alloc (.cells #[.int .u64 (n.a : Int), .int .u64 (n.b : Int)] 54)).drew) := Lib.hid ((HBW3.out.alloc HBW3.out.size _).alloc (by have := HBW3.out.size; simp; omega) _).drew
                 have O5 : Hid (((wr.alloc (.cells #[] 54)).alloc (.cells #[.int .u64 (n.a : Int), .int .u64 (n.b : Int)] 54)).drew.ownsRow w.heap.size 4 1 (.slice (some ⟨g, 0, none⟩) l.length gc) l.length (bs3.map Value.bool)) := Lib.hid (show ((wr.alloc (.cells #[] 54)).alloc (.cells #[.int .u64 (n.a : Int), .int .u64 (n.b : Int)] 54)).ownsRow _ _ _ _ _ _ from (HO3.out.alloc _).alloc _)
                 generalize ((wr.alloc (.cells #[] 54)).alloc (.cells #[.int .u64 (n.a : Int), .int .u64 (n.b : Int)] 54)).drew = w5 at *)
              go_loopw [6, 9] (fun av kv wr => ∃ (bs4 : List Bool) (a : Bool) (k : Nat), av = .bool a ∧ kv = .int .i64 k ∧ k ≤ n.succ.length ∧ Hid (RI l r bs4 i k a (bs2.count false)) ∧ Hid (bs4[i]? = some true) ∧ Hid (wr.ownsRow w.heap.size 4 1 (.slice (some ⟨g, 0, none⟩) l.length gc) l.length (bs4.map Value.bool)) ∧ Hid (Below w.heap.size w wr) ∧ Hid (∀ (j y : Nat), n.succ[j]? = some y → wr.cell? ⟨tb, j, none⟩ = some (uN y))) (fun _ kv _ => n.succ.length - (intOf kv).toNat)
              case atStart => exact ⟨bs3, a, 0, rfl, rfl, Nat.zero_le _, HRI3, HE3, O5, B5, Lib.hid fun j y hj => by
                obtain ⟨b', o', c', x, e', ex, hc⟩ := Reads.one uN R5.out (List.getElem?_eq_some_iff.mp hj).1
                simp only [Value.slice.injEq, Option.some.injEq, Addr.mk.injEq] at e'
                obtain ⟨⟨rfl, rfl, _⟩, _⟩ := e'
                rw [hj] at ex; cases ex
                rwa [Nat.zero_add] at hc⟩
              case round =>
                obtain ⟨bs4, a, k, rfl, rfl, hk, HRI4, HE4, HO4, HBW4, HC4⟩ := hrel
                by_cases hkl : k < n.succ.length
                · by_cases hz : n.succ.length = 0
                  · omega
                  obtain ⟨y, ey⟩ : ∃ y, n.succ[k]? = some y := ⟨_, List.getElem?_eq_getElem hkl⟩
                  have hyl := HSL.out y (List.mem_of_getElem? ey)
                  have hcy := HC4.out k y ey
                  unfold uN at hcy
                  have hbl4 := HRI4.out.len
                  obtain ⟨x4, ex4⟩ : ∃ x, bs4[y]? = some x := ⟨_, List.getElem?_eq_getElem (by omega)⟩
                  obtain ⟨g', gc', e', _, _, _, hcell⟩ := ownsRow_at HO4.out (by simp [hbl4]; exact h0)
                  obtain rfl : g = g' := by cases e'; rfl
                  have hc4 := (hcell y _ (by rw [List.getElem?_map, ex4]; rfl)).1
                  have hf4 := (hcell y _ (by rw [List.getElem?_map, ex4]; rfl)).2
                  have hg4 : g < wr.heap.size := (HO4.out.lt g rfl).2
                  have hg5 : w.heap.size ≤ g := (HO4.out.lt g rfl).1
                  have EY := Lib.hid ey
                  have EX4 := Lib.hid ex4
                  clear e' hcell ey ex4
                  cases x4 with
                  | true =>
                    go_wp2_with fail
                    all_goals
                      go_roundw
                      case rel => exact ⟨bs4, a, k + 1, rfl, by go_num, hkl, Lib.hid (HRI4.out.old HN.out EY.out EX4.out), HE4, HO4, HBW4, HC4⟩
                      case measure => simp [intOf]; omega
                  | false =>
                    go_wp2_with fail
                    all_goals
                      go_roundw
                      case rel => exact ⟨bs4.set y true, true, k + 1, rfl, by go_num, hkl, Lib.hid (HRI4.out.new HN.out HE4.out EY.out EX4.out), Lib.hid (set_true HE4.out), Lib.hid (own_set Value.bool HO4.out y true), Lib.hid (HBW4.out.setCell (p := ⟨g, y, none⟩) hg5 _), Lib.hid fun j z hj => by
                        rw [World.cell?_setCell_far _ _ _ _ (fun e => htg e.symm)]
                        exact HC4.out j z hj⟩
                      case measure => simp [intOf]; omega
                · obtain rfl : k = n.succ.length := by omega
                  go_wp2_with fail
                  go_roundw
                  case rel => exact ⟨bs4, a, i + 1, rfl, by go_num, hlt, Lib.hid (HRI4.out.next HN.out rfl), HO4, HBW4⟩
                  case measure => simp [intOf]; omega
        · obtain rfl : i = l.length := by omega
          go_wp2_with fail
          go_roundw
          case rel => exact ⟨bs3, a, _, rfl, HRI3, HO3, HBW3⟩
          case measure =>
            have h1 := rowF_eq HO3.out h0
            have h2 := HRI3.out.cnt
            have h3 := HCNT.out
            rw [h3, h1]
            cases a with
            | true => have := h2.2 rfl; simp [trueN]; omega
            | false => have := h2.1 rfl; simp [trueN]; omega
end Go.Proofs.YtnpchkohfomagaaDoor.Rgw
