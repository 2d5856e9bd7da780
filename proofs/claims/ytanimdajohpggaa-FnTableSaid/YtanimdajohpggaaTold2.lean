/- spec.Told: what can be reached, by a walk over the table. -/
import Derived.Test.YtanimdajohpggaaTold1
import Derived.Deep.OwnRows
import Derived.Handy
import Derived.Deep.DeepCutAuto
import Derived.Deep.CutRange
namespace Go.Proofs.Ytanimdajohpggaa.Table
open Go.ChangeShapes Go.WideShapes Go.ChangeAt Go.RowKit Go.Trav
set_option linter.unusedVariables false
set_option maxRecDepth 100000
theorem Try.info3 : (Try.prog.info? 3).map (fun i => (i.zero, i.size, i.bytes)) = some (some (.int .i64 0), 1, 8) := by kernel_rfl
theorem Try.info4 : (Try.prog.info? 4).map (fun i => (i.zero, i.size, i.bytes)) = some (some (.bool false), 1, 1) := by kernel_rfl
def iN (x : Nat) : Value := .int .i64 (x : Int)
/-- A table whose numbers are in range, as it lies in memory. -/
structure TabR (w : World) (cv nv mv : Value) (n nc : Nat) (cls : List Nat) (nxs : List (List Nat)) (rvs : List Value) (mts : List Bool) : Prop where
  cls : Reads w cv nc 1 (cls.map iN)
  nxt : Reads w nv n 1 rvs
  rows : ∀ (i : Nat) rv r, rvs[i]? = some rv → nxs[i]? = some r → Reads w rv 5 1 (r.map iN)
  mts : Reads w mv n 1 (mts.map Value.bool)
  nl : nxs.length = n
  lt : ∀ (i : Nat) r, nxs[i]? = some r → ∀ u ∈ r, u < n
  small : n ≤ 300
theorem TabR.below {w w' : World} {cv nv mv : Value} {n nc : Nat} {cls : List Nat} {nxs : List (List Nat)} {rvs : List Value} {mts : List Bool} (h : TabR w cv nv mv n nc cls nxs rvs mts) (hb : Below w.heap.size w w') : TabR w' cv nv mv n nc cls nxs rvs mts :=
  ⟨h.cls.below hb, h.nxt.below hb, fun i rv r h1 h2 => (h.rows i rv r h1 h2).below hb, h.mts.below hb, h.nl, h.lt, h.small⟩
theorem made_false (n : Nat) : madeCells #[Value.bool false] n = ((List.replicate n false).map Value.bool).toArray := by
  apply Array.ext
  · simp [size_madeCells]
  · intro i h1 h2
    have : i % 1 = 0 := Nat.mod_one i
    simp [madeCells, this]
/-- A cell stays where the old blocks stay. -/
theorem keep_cell {w w' : World} {a : Addr} {v : Value} (hb : Below w.heap.size w w') (h : w.cell? a = some v) : w'.cell? a = some v := (Mod.of_below (F := fun _ => False) hb).cell h (fun h => h)
theorem some_next {mts : List Bool} {ls : List Nat} {i x : Nat} {mt : Bool} (h : ∀ y ∈ ls.take i, mts[y]? = some true → false = true) (hx : ls[i]? = some x) (hm : mts[x]? = some mt) : ∀ y ∈ ls.take (i + 1), mts[y]? = some true → mt = true := by
  intro y hy ht
  rw [take_snoc' _ _ _ hx] at hy
  rcases List.mem_append.1 hy with hy | hy
  · exact absurd (h y hy ht) (by simp)
  · rw [List.mem_singleton.1 hy, hm] at ht
    exact Option.some.inj ht
theorem take_more {ls : List Nat} {i u : Nat} (h : i ≤ ls.length) : (ls ++ [u]).take i = ls.take i := List.take_append_of_le_length h
set_option maxHeartbeats 8000000 in
theorem told_any {st : Int} {cv nv mv : Value} {ao bo : Option Addr} {an ac bn bc n nc : Nat} {cls : List Nat} {nxs : List (List Nat)} {rvs : List Value} {mts : List Bool} (w : World) (h : TabR w cv nv mv n nc cls nxs rvs mts) :
    Calls Try.prog 35 #[RVal st cv nv mv (.slice ao an ac) (.slice bo bn bc)] w fun e w' => ∃ (CV AV : Value) (cans als : List Bool), e = .returned (RVal st cv nv mv CV AV) ∧ Reads w' CV n 1 (cans.map Value.bool) ∧ Reads w' AV n 1 (als.map Value.bool) ∧ CanOk nxs mts cans ∧ Below w.heap.size w w' := by
  obtain ⟨co, cc, rfl⟩ := h.cls.form
  obtain ⟨no, ncap, rfl⟩ := h.nxt.form
  obtain ⟨mo, mc, rfl⟩ := h.mts.form
  have hn := h.small
  have hnl := h.nl
  have H := Lib.hid h
  clear h
  unfold RVal
  have hmk := fun w => run_make_row' (P := Try.prog) 34 4 (.bool false) 1 Try.underlying34 Try.info4 rfl .i64 .i64 n (by omega) (by omega) w
  go_enter Try.func35, Try.ntmps35
  go_wp2_with fail
  obtain ⟨W1, hW1⟩ : ∃ W1, W1 = ((w.alloc (.cells #[.int .i64 st, .slice co nc cc, .slice no n ncap, .slice mo n mc, .slice none 0 0, .slice none 0 0] 36)).alloc (.cells #[.int .i64 0, .slice none 0 0, .slice none 0 0, .slice none 0 0, .slice none 0 0, .slice none 0 0] 36)) := ⟨_, rfl⟩
  rw [← hW1]
  have hb1 : Below w.heap.size w W1 := by rw [hW1]; exact ((Below.refl _ _).alloc (Nat.le_refl _) _).alloc (by simp) _
  have hs1 : W1.heap.size = w.heap.size + 2 := by rw [hW1]; simp
  have hB0 : W1.heap[w.heap.size]? = some (.cells #[.int .i64 st, .slice co nc cc, .slice no n ncap, .slice mo n mc, .slice none 0 0, .slice none 0 0] 36 (0, 0)) := by rw [hW1]; exact block_alloc (heap_alloc_new w _)
  have hB1 : W1.heap[w.heap.size + 1]? = some (.cells #[.int .i64 0, .slice none 0 0, .slice none 0 0, .slice none 0 0, .slice none 0 0, .slice none 0 0] 36 (0, 0)) := by
    rw [hW1]
    exact heap_alloc_at _ _ _ (by simp)
  clear hW1
  have HB0 := Lib.hid hB0
  have HB1 := Lib.hid hB1
  have HW1 := Lib.hid hb1
  clear hB0 hB1 hb1
  obtain ⟨B, hB⟩ : ∃ B, B = w.heap.size := ⟨_, rfl⟩
  rw [← hB] at HB0 HB1 hs1 HW1 ⊢
  have HBE := Lib.hid hB
  clear hB
  go_loopw [4] (fun iv wr => ∃ (k : Nat) (cans als : List Bool) (CV AV : Value), iv = .int .i64 k ∧ k ≤ n ∧ Hid (cans.length = k ∧ als.length = k) ∧ Hid (wr.heap[B]? = some (.cells #[.int .i64 st, .slice co nc cc, .slice no n ncap, .slice mo n mc, CV, AV] 36 (0, 0))) ∧ Hid (wr.heap[B + 1]? = some (.cells #[.int .i64 0, .slice none 0 0, .slice none 0 0, .slice none 0 0, .slice none 0 0, .slice none 0 0] 36 (0, 0))) ∧
      Hid (wr.ownsRow (B + 2) 4 1 CV k (cans.map Value.bool)) ∧ Hid (wr.ownsRow (B + 2) 4 1 AV k (als.map Value.bool)) ∧ Hid (∀ g, CV.ownBlock = some g → AV.ownBlock ≠ some g) ∧ Hid (CanOk nxs mts cans) ∧ Hid (Below B w wr)) (fun iv _ => n - (intOf iv).toNat)
  case atStart => exact ⟨0, [], [], _, _, rfl, Nat.zero_le _, Lib.hid ⟨rfl, rfl⟩, HB0, HB1, Lib.hid (World.ownsRow_nil _ _ _ _), Lib.hid (World.ownsRow_nil _ _ _ _), Lib.hid (fun g hg => by simp [Value.ownBlock] at hg), Lib.hid (fun s h => by simp at h), HW1⟩
  case round =>
    obtain ⟨k, cans, als, CV, AV, rfl, hk, HL, HR0, HR1, HC, HA, HNE, HOK, HW⟩ := hrel
    rename World => wr
    by_cases hlt : k < n
    · have hsb : B + 2 ≤ wr.heap.size := by have := block_lt HR1.out; omega
      have hI1 : (0 : Int) ≤ (k : Int) := by omega
      have hI2 : (k : Int) < (n : Int) := by omega
      have hq0 : ((wr.alloc (.cells (madeCells #[.bool false] n) 4)).alloc (.cells #[.int .i64 (k : Int)] 3)).heap[wr.heap.size]? = some (.cells ((List.replicate n false).map Value.bool).toArray 4 (0, 0)) := by rw [← made_false]; exact block_alloc (heap_alloc_new wr _)
      have hq1 : ((wr.alloc (.cells (madeCells #[.bool false] n) 4)).alloc (.cells #[.int .i64 (k : Int)] 3)).heap[wr.heap.size + 1]? = some (.cells #[.int .i64 (k : Int)] 3 (0, 0)) := heap_alloc_at _ _ _ (by simp)
      have cs := block_cell (i := k) (u := .bool false) hq0 (by simp [hlt])
      have fs := block_free (i := k) hq0
      have HQ0 := Lib.hid hq0
      have HQ1 := Lib.hid hq1
      clear hq0 hq1
      go_wp2_with fail
      rw [made_false, List.setIfInBounds_toArray, ← List.map_set]
      obtain ⟨W3, hW3⟩ : ∃ W3, W3 = ((wr.alloc (.cells (((List.replicate n false).set k true).map Value.bool).toArray 4)).alloc (.cells #[.int .i64 (k : Int)] 3)) := ⟨_, rfl⟩
      rw [← hW3]
      obtain ⟨sb, hsbe⟩ : ∃ sb, sb = wr.heap.size := ⟨_, rfl⟩
      have g0 : W3.heap[sb]? = some (.cells (((List.replicate n false).set k true).map Value.bool).toArray 4 (0, 0)) := by rw [hW3, hsbe]; exact block_alloc (heap_alloc_new wr _)
      have g1 : W3.heap[sb + 1]? = some (.cells #[.int .i64 (k : Int)] 3 (0, 0)) := by rw [hW3, hsbe]; exact heap_alloc_at _ _ _ (by simp)
      have g2 : Below sb wr W3 := by rw [hW3, hsbe]; exact ((Below.refl _ _).alloc (Nat.le_refl _) _).alloc (by simp) _
      have g3 : W3.ownsRow (sb + 1) 3 1 (.slice (some ⟨sb + 1, 0, none⟩) 1 1) 1 ([k].map iN) := ⟨by simp, .inr ⟨sb + 1, 1, #[.int .i64 (k : Int)], rfl, Nat.le_refl _, g1, Nat.le_refl _, by decide, by simp, by simp [iN]⟩⟩
      rw [← hsbe] at hsb ⊢
      have G0 := Lib.hid g0
      have G2 := Lib.hid g2
      have G3 := Lib.hid g3
      have HBF := Lib.hid (Bfs.start hlt)
      clear g0 g1 g2 g3 hW3 cs fs HQ0 HQ1
      have HSB := Lib.hid hsbe
      clear hsbe
      go_loopw [6, 7, 8, 9] (fun lv sv av iv w' => ∃ (LV : Value) (b1 b2 : Bool) (i : Nat) (sn : List Bool) (ls : List Nat), LV = lv ∧ sv = .bool b1 ∧ av = .bool b2 ∧ iv = .int .i64 i ∧ i ≤ ls.length ∧ ls.length ≤ n ∧ Hid (Bfs n k sn ls) ∧ Hid (Through nxs ls i 0) ∧ Hid (∀ x ∈ ls.take i, mts[x]? = some true → b1 = true) ∧
          Hid (w'.heap[sb]? = some (.cells (sn.map Value.bool).toArray 4 (0, 0))) ∧ Hid (w'.ownsRow (sb + 1) 3 1 LV ls.length (ls.map iN)) ∧ Hid (Below sb wr w')) (fun _ _ _ iv _ => n - (intOf iv).toNat)
      case atStart => exact ⟨_, false, true, 0, _, [k], rfl, rfl, rfl, rfl, by simp, by simp; omega, HBF, Lib.hid (Through.start _ _), Lib.hid (by simp), G0, G3, G2⟩
      case round =>
        obtain ⟨LV, b1, b2, i, sn, ls, e1, rfl, rfl, rfl, hi, hls, HBS, HTH, HSM, HSN, HLV, HBW⟩ := hrel
        subst e1
        rename World => wk
        by_cases hil : i < ls.length
        · obtain ⟨bl, ol, cl, x, hx, ex, cx⟩ := Reads.one iN (reads_of_owns HLV.out) hil
          subst hx
          have hxn := HBS.out.lt x (List.mem_of_getElem? ex)
          unfold iN at cx
          obtain ⟨b5, off5, _, mt, hx, em, cm⟩ := Reads.one Value.bool H.out.mts hxn
          cases hx
          obtain ⟨b6, off6, _, rv, hx, ev, cv⟩ := Reads.one id (l := rvs) (by simpa using H.out.nxt) hxn
          cases hx
          simp only [id] at cv
          have er : nxs[x]? = some nxs[x] := List.getElem?_eq_getElem (by omega)
          generalize nxs[x] = r at er
          have hrr := H.out.rows x rv r ev er
          obtain ⟨ra, rc, rfl⟩ := hrr.form
          have hbk : Below w.heap.size w wk := HBE.out ▸ (HW.out.trans (HBW.out.mono (by omega)))
          have hblk : wk.heap[B]? = some (.cells #[.int .i64 st, .slice co nc cc, .slice (some ⟨b6, off6, none⟩) n ncap, .slice (some ⟨b5, off5, none⟩) n mc, CV, AV] 36 (0, 0)) := block_below HR0.out HBW.out (by omega)
          have c2 := block_cell (i := 2) hblk rfl
          have c3 := block_cell (i := 3) hblk rfl
          have CVW := Lib.hid cv
          replace cm := keep_cell hbk cm
          replace cv := keep_cell hbk cv
          have hX1 : (0 : Int) ≤ (x : Int) := by omega
          have hX2 : (x : Int) < (n : Int) := by omega
          have hJ1 : (0 : Int) ≤ (i : Int) := by omega
          have hJ2 : (i : Int) < (ls.length : Int) := by omega
          have r2 := cell_regrown c2
          have r3 := cell_regrown c3
          have rx := cell_regrown cx
          have rm := cell_regrown cm
          have rvv := cell_regrown cv
          have EX := Lib.hid ex
          have EM := Lib.hid em
          have ER := Lib.hid er
          have HRR := Lib.hid hrr
          have HBK := Lib.hid hbk
          clear ex em er hrr hbk hblk ev
          clear r2 r3 rx rm rvv
          go_upto_region 13 with (fail)
          go_cut [7] (fun sv wx => ∃ b : Bool, sv = .bool b ∧ Hid (∀ y ∈ ls.take (i + 1), mts[y]? = some true → b = true) ∧ Hid (Below wk.heap.size wk wx))
          case first =>
            have rc2 := cell_regrown c2
            have rc3 := cell_regrown c3
            have rcx := cell_regrown cx
            have rcm := cell_regrown cm
            have rcv := cell_regrown cv
            cases b1
            case' true => have HB3 := Lib.hid (show ∀ y ∈ ls.take (i + 1), mts[y]? = some true → true = true from fun _ _ _ => rfl)
            case' false => have HB3 := Lib.hid (some_next HSM.out EX.out EM.out)
            all_goals
              refine wp_region_quiet_below (by kernel_rfl) (by kernel_rfl) ?_
              repeat (first | go_big_quiet_step (fail) | quiet_step (fail))
              refine wpQuiet_nil ?_
              intro _ hw'
              obtain ⟨⟨dq, osq⟩, hw''⟩ := hw'
              subst hw''
              have HB4 := Lib.hid (below_regrown wk dq osq)
              go_wp2_with fail
              go_meet
              exact ⟨_, rfl, Lib.hid (by first | exact HB3.out | exact fun _ _ _ => rfl), HB4⟩
          case rest =>
            obtain ⟨b3, rfl, HB3, hbq0⟩ := hcut
            rename World => wq
            have hbq := hbq0.out
            clear hbq0
            replace c2 := keep_cell hbq c2
            replace c3 := keep_cell hbq c3
            replace cx := keep_cell hbq cx
            replace cm := keep_cell hbq cm
            replace cv := keep_cell hbq cv
            replace HSN := Lib.hid (block_below HSN.out hbq (block_lt HSN.out))
            replace HLV := Lib.hid (ownsRow_below HLV.out hbq fun g hg => (HLV.out.lt g hg).2)
            have hszk := HBW.out.size
            have hszw := HBK.out.size
            replace HBW := Lib.hid (HBW.out.trans (hbq.mono (by have := HSB.out; omega)))
            replace HBK := Lib.hid (HBK.out.trans (hbq.mono (by omega)))
            clear hbq hszk hszw
            go_upto_region 14 with (fail)
            go_cut [8] (fun sv wx => ∃ b : Bool, sv = .bool b ∧ Hid (Below wq.heap.size wq wx))
            case first =>
              have rc2 := cell_regrown c2
              have rc3 := cell_regrown c3
              have rcx := cell_regrown cx
              have rcm := cell_regrown cm
              have rcv := cell_regrown cv
              cases b2
              all_goals
                refine wp_region_quiet_below (by kernel_rfl) (by kernel_rfl) ?_
                repeat (first | go_big_quiet_step (fail) | quiet_step (fail))
                refine wpQuiet_nil ?_
                intro _ hw'
                obtain ⟨⟨dq, osq⟩, hw''⟩ := hw'
                subst hw''
                have HB4 := Lib.hid (below_regrown wq dq osq)
                go_wp2_with fail
                go_meet
                exact ⟨_, rfl, HB4⟩
            case rest =>
              obtain ⟨b4, rfl, hbq0⟩ := hcut
              rename World => wp
              have hbq := hbq0.out
              clear hbq0
              replace c2 := keep_cell hbq c2
              replace c3 := keep_cell hbq c3
              replace cx := keep_cell hbq cx
              replace cm := keep_cell hbq cm
              replace cv := keep_cell hbq cv
              replace HSN := Lib.hid (block_below HSN.out hbq (block_lt HSN.out))
              replace HLV := Lib.hid (ownsRow_below HLV.out hbq fun g hg => (HLV.out.lt g hg).2)
              have hszk := HBW.out.size
              have hszw := HBK.out.size
              replace HBW := Lib.hid (HBW.out.trans (hbq.mono (by have := HSB.out; omega)))
              replace HBK := Lib.hid (HBK.out.trans (hbq.mono (by omega)))
              clear hbq hszk hszw
              go_wp2_with fail
              clear c2 c3 cx cm cv
              have HB5 := HB3
              obtain ⟨tk, htk⟩ : ∃ tk, tk = ls.take (i + 1) := ⟨_, rfl⟩
              have HTK := Lib.hid htk
              clear htk
              go_loopw [6, 10] (fun lv cv w' => ∃ (LV : Value) (c : Nat) (sn : List Bool) (ls : List Nat), LV = lv ∧ cv = .int .i64 c ∧ c ≤ 5 ∧ ls.length ≤ n ∧ i < ls.length ∧ Hid (ls[i]? = some x) ∧ Hid (Bfs n k sn ls) ∧ Hid (Through nxs ls i c) ∧ Hid (ls.take (i + 1) = tk) ∧
                  Hid (w'.heap[sb]? = some (.cells (sn.map Value.bool).toArray 4 (0, 0))) ∧ Hid (w'.ownsRow (sb + 1) 3 1 LV ls.length (ls.map iN)) ∧ Hid (Below sb wr w')) (fun _ cv _ => 5 - (intOf cv).toNat)
              case atStart => exact ⟨_, 0, sn, ls, rfl, rfl, by omega, hls, hil, EX, HBS, HTH, Lib.hid HTK.out.symm, HSN, HLV, HBW⟩
              case round =>
                clear hls hil EX HBS HTH HSM HSN HLV HBW HBK
                obtain ⟨LV, c, sn, ls, e1, rfl, hc5, hls, hil, EX, HBS, HTH, HTK2, HSN, HLV, HBW⟩ := hrel
                subst e1
                rename World => wz
                obtain ⟨bl2, ol2, cl2, x2, hx, ex, cx⟩ := Reads.one iN (reads_of_owns HLV.out) hil
                subst hx
                obtain rfl : x2 = x := Option.some.inj (ex.symm.trans EX.out)
                unfold iN at cx
                have hbk : Below w.heap.size w wz := HBE.out ▸ (HW.out.trans (HBW.out.mono (by omega)))
                have hblk : wz.heap[B]? = some (.cells #[.int .i64 st, .slice co nc cc, .slice (some ⟨b6, off6, none⟩) n ncap, .slice (some ⟨b5, off5, none⟩) n mc, CV, AV] 36 (0, 0)) := block_below HR0.out HBW.out (by omega)
                have c2 := block_cell (i := 2) hblk rfl
                have cv := keep_cell hbk CVW.out
                have HBK := Lib.hid hbk
                have hJ2 : (i : Int) < (ls.length : Int) := by omega
                clear ex hbk hblk
                by_cases hcl : c < 5
                · obtain ⟨b7, off7, _, u, hx, eu, cr⟩ := Reads.one iN HRR.out hcl
                  cases hx
                  unfold iN at cr
                  replace cr := keep_cell HBK.out cr
                  have hun := H.out.lt x2 r ER.out u (List.mem_of_getElem? eu)
                  have hsl := HBS.out.len
                  obtain ⟨bu, ebu⟩ : ∃ bu, sn[u]? = some bu := ⟨_, List.getElem?_eq_getElem (by omega)⟩
                  have EU := Lib.hid eu
                  have EBU := Lib.hid ebu
                  have hU1 : (0 : Int) ≤ (u : Int) := by omega
                  have hU2 : (u : Int) < (n : Int) := by omega
                  have hC1 : (0 : Int) ≤ (c : Int) := by omega
                  have hC2 : (c : Int) < 5 := by omega
                  clear eu ebu hsl
                  have rc2 := cell_regrown c2
                  have rcx := cell_regrown cx
                  have rcv := cell_regrown cv
                  have rcr := cell_regrown cr
                  go_wp2_with fail
                  refine wp_region_quiet_below (by kernel_rfl) (by kernel_rfl) ?_
                  repeat (first | go_big_quiet_step (fail) | quiet_step (fail))
                  refine wpQuiet_nil ?_
                  intro _ hw'
                  obtain ⟨⟨dq, osq⟩, hw''⟩ := hw'
                  subst hw''
                  go_wp2_with fail
                  clear rc2 rcx rcv rcr
                  have hbq : Below wz.heap.size wz (Go.Sort.grow (redrawn wz dq) osq) := below_regrown _ _ _
                  replace c2 := keep_cell hbq c2
                  replace cx := keep_cell hbq cx
                  replace cv := keep_cell hbq cv
                  replace cr := keep_cell hbq cr
                  replace HSN := Lib.hid (block_below HSN.out hbq (block_lt HSN.out))
                  replace HLV := Lib.hid (ownsRow_below HLV.out hbq fun g hg => (HLV.out.lt g hg).2)
                  have hszk := HBW.out.size
                  have hszw := HBK.out.size
                  replace HBW := Lib.hid (HBW.out.trans (hbq.mono (by have := HSB.out; omega)))
                  replace HBK := Lib.hid (HBK.out.trans (hbq.mono (by omega)))
                  clear hbq hszk hszw
                  generalize (Go.Sort.grow (redrawn wz dq) osq) = wy at *
                  have rc2 := cell_regrown c2
                  have rcx := cell_regrown cx
                  have rcv := cell_regrown cv
                  have rcr := cell_regrown cr
                  refine wp_region_quiet_below (by kernel_rfl) (by kernel_rfl) ?_
                  repeat (first | go_big_quiet_step (fail) | quiet_step (fail))
                  refine wpQuiet_nil ?_
                  intro _ hw'
                  obtain ⟨⟨dq, osq⟩, hw''⟩ := hw'
                  subst hw''
                  clear rc2 rcx rcv rcr
                  have hbq : Below wy.heap.size wy (Go.Sort.grow (redrawn wy dq) osq) := below_regrown _ _ _
                  replace c2 := keep_cell hbq c2
                  replace cx := keep_cell hbq cx
                  replace cv := keep_cell hbq cv
                  replace cr := keep_cell hbq cr
                  replace HSN := Lib.hid (block_below HSN.out hbq (block_lt HSN.out))
                  replace HLV := Lib.hid (ownsRow_below HLV.out hbq fun g hg => (HLV.out.lt g hg).2)
                  have hszk := HBW.out.size
                  have hszw := HBK.out.size
                  replace HBW := Lib.hid (HBW.out.trans (hbq.mono (by have := HSB.out; omega)))
                  replace HBK := Lib.hid (HBK.out.trans (hbq.mono (by omega)))
                  clear hbq hszk hszw
                  generalize (Go.Sort.grow (redrawn wy dq) osq) = wx at *
                  have hsb2 := block_lt HSN.out
                  have cs := block_cell (i := u) (u := .bool bu) HSN.out (by have := EBU.out; simp [this])
                  have fs := block_free (i := u) HSN.out
                  cases bu
                  case' true =>
                    clear fs
                    go_wp2_with fail
                    first
                      | (refine ⟨⟨_, c + 1, sn, ls, rfl, by go_num, by omega, hls, hil, EX, HBS, Lib.hid (Through.arc HTH.out EX.out ER.out EU.out (HBS.out.seen u EBU.out)), HTK2, HSN, HLV, HBW⟩, ?_⟩
                         simp [intOf]
                         omega)
                      | (go_roundw
                         case rel => exact ⟨_, c + 1, sn, ls, rfl, by go_num, by omega, hls, hil, EX, HBS, Lib.hid (Through.arc HTH.out EX.out ER.out EU.out (HBS.out.seen u EBU.out)), HTK2, HSN, HLV, HBW⟩
                         case measure => simp [intOf]; omega)
                  case' false =>
                    have hbp := HBS.out.put EBU.out
                    have hcn := hbp.cnt
                    rw [List.length_append, List.length_singleton] at hcn
                    have HSB2 := Lib.hid (show (wx.setCell ⟨sb, u, none⟩ (.bool true)).heap[sb]? = some (.cells ((sn.set u true).map Value.bool).toArray 4 (0, 0)) by rw [← row_set]; exact block_set HSN.out)
                    have HLVS := Lib.hid (ownsRow_setCell_ne HLV.out (a := ⟨sb, u, none⟩) (fun e => by have := (HLV.out.lt sb e.symm).1; omega) (.bool true))
                    have hwm : Mod (fun g => g = sb) wx (wx.setCell ⟨sb, u, none⟩ (.bool true)) := (Mod.refl (fun g => g = sb) wx).setCell (p := ⟨sb, u, none⟩) (fun _ => rfl) _
                    have hwz := hwm.size
                    have HWM := Lib.hid hwm
                    have HBP := Lib.hid hbp
                    clear hwm hbp
                    go_wp2_with (first
                      | (at_builtin; refine wpList_append_one rfl (.tmp 89) (.tmp 91) 29 rfl (sb + 1) 3 _ 1 8 Try.underlying29 Try.info3 rfl (by decide) (by decide) _ _ _ rfl HLVS.out #[.int .i64 (u : Int)] _ _ rfl (by simp) rfl (by simp [Value.oneCell']) (by omega) (by omega) ?_; intro ao6 cap6 w6 hown6 hgr6 hat6)
                      | go_in)
                    have hF : Mod (fun g => g = bl2) (wx.setCell ⟨sb, u, none⟩ (.bool true)) w6 := (Mod.alloc (Mod.refl _ _) _).grown hgr6 (fun k hk _ => (Option.some.inj hk).symm)
                    have h1 := hF.heap HSB2.out (fun e => by have := (HLVS.out.lt bl2 rfl).1; omega)
                    have h2 : Below sb wr w6 := (HBW.out.trans (HWM.out.toBelow (B := sb) (by omega) (fun g _ e => by omega))).trans (hF.toBelow (B := sb) (by omega) (fun g _ e => by have := (HLVS.out.lt bl2 rfl).1; omega))
                    have h3 : w6.ownsRow (sb + 1) 3 1 (.slice ao6 (ls.length + 1) cap6) (ls ++ [u]).length ((ls ++ [u]).map iN) := by rw [List.length_append, List.map_append]; exact hown6
                    have H1 := Lib.hid h1
                    have H2 := Lib.hid h2
                    have H3 := Lib.hid h3
                    clear hF h1 h2 h3 hown6 hgr6 hat6
                    first
                      | (refine ⟨⟨_, c + 1, _, ls ++ [u], rfl, by go_num, by omega, by simp; omega, by simp; omega, Lib.hid (by rw [List.getElem?_append_left hil]; exact EX.out), HBP, Lib.hid (Through.arc (HTH.out.more hil) (by rw [List.getElem?_append_left hil]; exact EX.out) ER.out EU.out (by simp)), Lib.hid (by rw [take_more hil]; exact HTK2.out), H1, H3, H2⟩, ?_⟩
                         simp [intOf]
                         omega)
                      | (go_roundw
                         case rel => exact ⟨_, c + 1, _, ls ++ [u], rfl, by go_num, by omega, by simp; omega, by simp; omega, Lib.hid (by rw [List.getElem?_append_left hil]; exact EX.out), HBP, Lib.hid (Through.arc (HTH.out.more hil) (by rw [List.getElem?_append_left hil]; exact EX.out) ER.out EU.out (by simp)), Lib.hid (by rw [take_more hil]; exact HTK2.out), H1, H3, H2⟩
                         case measure => simp [intOf]; omega)
                · obtain rfl : c = 5 := by omega
                  have rc2 := cell_regrown c2
                  have rcx := cell_regrown cx
                  have rcv := cell_regrown cv
                  go_wp2_with fail
                  refine wp_region_quiet_below (by kernel_rfl) (by kernel_rfl) ?_
                  repeat (first | go_big_quiet_step (fail) | quiet_step (fail))
                  refine wpQuiet_nil ?_
                  intro _ hw'
                  obtain ⟨⟨dq, osq⟩, hw''⟩ := hw'
                  subst hw''
                  go_wp2_with fail
                  clear rc2 rcx rcv
                  have hbq : Below wz.heap.size wz (Go.Sort.grow (redrawn wz dq) osq) := below_regrown _ _ _
                  replace c2 := keep_cell hbq c2
                  replace cx := keep_cell hbq cx
                  replace cv := keep_cell hbq cv
                  replace HSN := Lib.hid (block_below HSN.out hbq (block_lt HSN.out))
                  replace HLV := Lib.hid (ownsRow_below HLV.out hbq fun g hg => (HLV.out.lt g hg).2)
                  have hszk := HBW.out.size
                  have hszw := HBK.out.size
                  replace HBW := Lib.hid (HBW.out.trans (hbq.mono (by have := HSB.out; omega)))
                  replace HBK := Lib.hid (HBK.out.trans (hbq.mono (by omega)))
                  clear hbq hszk hszw
                  generalize (Go.Sort.grow (redrawn wz dq) osq) = wy at *
                  have hr5 : r.length = 5 := by have := HRR.out.len; simpa using this
                  have hth := HTH.out
                  rw [← hr5] at hth
                  have HTN := Lib.hid (hth.next EX.out ER.out)
                  clear hth hr5
                  first
                    | (refine ⟨⟨_, _, _, i + 1, sn, ls, rfl, rfl, rfl, by go_num, by omega, hls, HBS, HTN, Lib.hid (by rw [HTK2.out, HTK.out]; exact HB5.out), HSN, HLV, HBW⟩, ?_⟩
                       simp [intOf]
                       omega)
                    | (go_roundw
                       case rel =>
                         repeat apply Exists.intro
                         exact ⟨⟨_, _, _, i + 1, sn, ls, rfl, rfl, rfl, by go_num, by omega, hls, HBS, HTN, Lib.hid (by rw [HTK2.out, HTK.out]; exact HB5.out), HSN, HLV, HBW⟩, rfl⟩
                       case measure => simp [intOf]; omega)
        · obtain rfl : i = ls.length := by omega
          have hblk : wk.heap[B]? = some (.cells #[.int .i64 st, .slice co nc cc, .slice no n ncap, .slice mo n mc, CV, AV] 36 (0, 0)) := block_below HR0.out HBW.out (by omega)
          have c4 := block_cell (i := 4) hblk rfl
          have HBLK := Lib.hid hblk
          have hsw := HBW.out.size
          have hsk : sb ≤ wk.heap.size := by have := HSB.out; omega
          have HC2 := Lib.hid (ownsRow_below HC.out HBW.out fun g hg => by have := (HC.out.lt g hg).2; have := HSB.out; omega)
          have HA2 := Lib.hid (ownsRow_below HA.out HBW.out fun g hg => by have := (HA.out.lt g hg).2; have := HSB.out; omega)
          obtain ⟨lo2, lc2, rfl⟩ := ownsRow_form HLV.out
          clear hblk hil hi
          go_wp2_with (first
            | (at_builtin; refine wpList_append_one rfl (.tmp 94) (.tmp 96) 34 rfl (B + 2) 4 _ 1 1 Try.underlying34 Try.info4 rfl (by decide) (by decide) _ _ _ rfl HC2.out #[.bool b1] _ _ rfl (by simp) rfl (by simp [Value.oneCell']) (by omega) (by omega) ?_; intro ao6 cap6 w6 hown6 hgr6 hat6
               have hF6 : Mod (fun g => CV.ownBlock = some g) wk w6 := (Mod.alloc (Mod.refl _ _) _).grown hgr6 (fun k hk _ => hk)
               have hb6 := hF6.heap HBLK.out (fun e => by have := (HC2.out.lt B e).1; omega)
               have hb7 : (w6.setCell ⟨B, 4, none⟩ (.slice ao6 (k + 1) cap6)).heap[B]? = some (.cells #[.int .i64 st, .slice co nc cc, .slice no n ncap, .slice mo n mc, .slice ao6 (k + 1) cap6, AV] 36 (0, 0)) := block_set hb6
               have d4 := block_cell (i := 4) hb6 rfl
               have f4 := block_free (i := 4) hb6
               have d5 := block_cell (i := 5) hb7 rfl
               have HF6 := Lib.hid hF6
               have HB7 := Lib.hid hb7
               have HO6 := Lib.hid hown6
               have HT6 := Lib.hid hat6
               have HA6 := Lib.hid (ownsRow_mod HA2.out hF6 (fun g hg e => HNE.out g e hg))
               have HA7 := Lib.hid (ownsRow_setCell_ne HA6.out (a := ⟨B, 4, none⟩) (fun e => by have := (HA6.out.lt B e.symm).1; omega) (.slice ao6 (k + 1) cap6))
               have hs6 := hF6.size
               have hs7 : (w6.setCell ⟨B, 4, none⟩ (.slice ao6 (k + 1) cap6)).heap.size = w6.heap.size := by simp
               clear hF6 hb6 hb7 hown6 hgr6 hat6)
            | (at_builtin; refine wpList_append_one rfl (.tmp 100) (.tmp 102) 34 rfl (B + 2) 4 _ 1 1 Try.underlying34 Try.info4 rfl (by decide) (by decide) _ _ _ rfl HA7.out #[.bool b2] _ _ rfl (by simp) rfl (by simp [Value.oneCell']) (by omega) (by omega) ?_; intro ao8 cap8 w8 hown8 hgr8 hat8
               have hF8 : Mod (fun g => AV.ownBlock = some g) (w6.setCell ⟨B, 4, none⟩ (.slice ao6 (k + 1) cap6)) w8 := (Mod.alloc (Mod.refl _ _) _).grown hgr8 (fun k hk _ => hk)
               have hb8 := hF8.heap HB7.out (fun e => by have := (HA7.out.lt B e).1; omega)
               have e5 := block_cell (i := 5) hb8 rfl
               have f5 := block_free (i := 5) hb8
               have HF8 := Lib.hid hF8
               have HB8 := Lib.hid hb8
               clear hF8 hb8 hgr8)
            | go_in)
          have hm7 : Mod (fun g => g = B) w6 (w6.setCell ⟨B, 4, none⟩ (.slice ao6 (k + 1) cap6)) := (Mod.refl (fun g => g = B) w6).setCell (p := ⟨B, 4, none⟩) (fun _ => rfl) _
          have hm9 : Mod (fun g => g = B) w8 (w8.setCell ⟨B, 5, none⟩ (.slice ao8 (k + 1) cap8)) := (Mod.refl (fun g => g = B) w8).setCell (p := ⟨B, 5, none⟩) (fun _ => rfl) _
          have hne1 : ∀ g, (Value.slice ao6 (k + 1) cap6).ownBlock = some g → AV.ownBlock ≠ some g := fun g h1 h2 => by
            rcases HT6.out with e | e
            · exact HNE.out g (e ▸ h1) h2
            · rw [h1] at e
              have := (HA2.out.lt g h2).2
              have := Option.some.inj e
              omega
          have hne2 : ∀ g, (Value.slice ao6 (k + 1) cap6).ownBlock = some g → (Value.slice ao8 (k + 1) cap8).ownBlock ≠ some g := fun g h1 h2 => by
            rcases hat8 with e | e
            · exact hne1 g h1 (e ▸ h2)
            · rw [h2] at e
              have := (HO6.out.lt g h1).2
              have := Option.some.inj e
              omega
          have hc9 := ownsRow_mod (ownsRow_mod (ownsRow_mod HO6.out hm7 (fun g hg e => by have := (HO6.out.lt g hg).1; omega)) HF8.out (fun g hg e => hne1 g hg e)) hm9 (fun g hg e => by have := (HO6.out.lt g hg).1; omega)
          have ha9 := ownsRow_mod hown8 hm9 (fun g hg e => by have := (hown8.lt g hg).1; omega)
          have hb9 : (w8.setCell ⟨B, 5, none⟩ (.slice ao8 (k + 1) cap8)).heap[B]? = some (.cells #[.int .i64 st, .slice co nc cc, .slice no n ncap, .slice mo n mc, .slice ao6 (k + 1) cap6, .slice ao8 (k + 1) cap8] 36 (0, 0)) := block_set HB8.out
          have hk1 : wk.heap[B + 1]? = some (.cells #[.int .i64 0, .slice none 0 0, .slice none 0 0, .slice none 0 0, .slice none 0 0, .slice none 0 0] 36 (0, 0)) := block_below HR1.out HBW.out (by omega)
          have hk9 := hm9.heap (HF8.out.heap (hm7.heap (HF6.out.heap hk1 (fun e => by have := (HC2.out.lt _ e).1; omega)) (by omega)) (fun e => by have := (HA2.out.lt _ e).1; omega)) (by omega)
          have hw9 : Below B w (w8.setCell ⟨B, 5, none⟩ (.slice ao8 (k + 1) cap8)) := ((((HW.out.trans (HBW.out.mono (by omega))).trans (HF6.out.toBelow (B := B) (by omega) (fun g _ e => by have := (HC2.out.lt g e).1; omega))).trans (hm7.toBelow (B := B) (by omega) (fun g _ e => by omega))).trans (HF8.out.toBelow (B := B) (by omega) (fun g _ e => by have := (HA2.out.lt g e).1; omega))).trans (hm9.toBelow (B := B) (by have := block_lt HB8.out; omega) (fun g _ e => by omega))
          have hok : CanOk nxs mts (cans ++ [b1]) := canOk_snoc HOK.out (HL.out.1 ▸ HBS.out) HTH.out HSM.out
          have HC9 := Lib.hid hc9
          have HA9 := Lib.hid ha9
          have HB9 := Lib.hid hb9
          have HK9 := Lib.hid hk9
          have HW9 := Lib.hid hw9
          have HOK9 := Lib.hid hok
          have HNE9 := Lib.hid hne2
          clear hm7 hm9 hne1 hne2 hc9 ha9 hb9 hk1 hk9 hw9 hok hown8 hat8
          refine ⟨⟨k + 1, cans ++ [b1], als ++ [b2], _, _, by go_num, by omega, Lib.hid ⟨by simp [HL.out.1], by simp [HL.out.2]⟩, HB9, HK9, Lib.hid (by rw [List.map_append]; exact HC9.out), Lib.hid (by rw [List.map_append]; exact HA9.out), HNE9, HOK9, HW9⟩, ?_⟩
          simp [intOf]
          omega
    · obtain rfl : k = n := by omega
      obtain ⟨co2, cc2, rfl⟩ := ownsRow_form HC.out
      obtain ⟨ao2, ac2, rfl⟩ := ownsRow_form HA.out
      have c0 := block_cell (i := 0) HR0.out rfl
      have c1 := block_cell (i := 1) HR0.out rfl
      have c2 := block_cell (i := 2) HR0.out rfl
      have c3 := block_cell (i := 3) HR0.out rfl
      have c4 := block_cell (i := 4) HR0.out rfl
      have c5 := block_cell (i := 5) HR0.out rfl
      have e0 := block_cell (i := 0) HR1.out rfl
      have e1 := block_cell (i := 1) HR1.out rfl
      have e2 := block_cell (i := 2) HR1.out rfl
      have e3 := block_cell (i := 3) HR1.out rfl
      have e4 := block_cell (i := 4) HR1.out rfl
      have e5 := block_cell (i := 5) HR1.out rfl
      have f0 := block_free (i := 0) HR1.out
      have f1 := block_free (i := 1) HR1.out
      have f2 := block_free (i := 2) HR1.out
      have f3 := block_free (i := 3) HR1.out
      have f4 := block_free (i := 4) HR1.out
      have f5 := block_free (i := 5) HR1.out
      obtain ⟨W9, hW9⟩ : ∃ W9, W9 = ((((((wr.setCell ⟨B + 1, 0, none⟩ (.int .i64 st)).setCell ⟨B + 1, 1, none⟩ (.slice co nc cc)).setCell ⟨B + 1, 2, none⟩ (.slice no k ncap)).setCell ⟨B + 1, 3, none⟩ (.slice mo k mc)).setCell ⟨B + 1, 4, none⟩ (.slice co2 k cc2)).setCell ⟨B + 1, 5, none⟩ (.slice ao2 k ac2)) := ⟨_, rfl⟩
      have hst : W9.heap[B + 1]? = some (.cells #[.int .i64 st, .slice co nc cc, .slice no k ncap, .slice mo k mc, .slice co2 k cc2, .slice ao2 k ac2] 36 (0, 0)) := by
        rw [hW9]
        exact block_set (i := 5) (u := .slice ao2 k ac2) (block_set (i := 4) (u := .slice co2 k cc2) (block_set (i := 3) (u := .slice mo k mc) (block_set (i := 2) (u := .slice no k ncap) (block_set (i := 1) (u := .slice co nc cc) (block_set (i := 0) (u := .int .i64 st) HR1.out)))))
      have hm9 : Mod (fun g => g = B + 1) wr W9 := by
        rw [hW9]
        exact ((((((Mod.refl (fun g => g = B + 1) wr).setCell (p := ⟨B + 1, 0, none⟩) (fun _ => rfl) _).setCell (p := ⟨B + 1, 1, none⟩) (fun _ => rfl) _).setCell (p := ⟨B + 1, 2, none⟩) (fun _ => rfl) _).setCell (p := ⟨B + 1, 3, none⟩) (fun _ => rfl) _).setCell (p := ⟨B + 1, 4, none⟩) (fun _ => rfl) _).setCell (p := ⟨B + 1, 5, none⟩) (fun _ => rfl) _
      have hbl := block_lt HR1.out
      have hr1 := (reads_of_owns HC.out).mod hm9 (fun g hg e => by have := (HC.out.lt g hg).1; omega)
      have hr2 := (reads_of_owns HA.out).mod hm9 (fun g hg e => by have := (HA.out.lt g hg).1; omega)
      have hbf : Below B w W9 := HW.out.trans (hm9.toBelow (B := B) (by omega) (fun g _ e => by omega))
      have HST := Lib.hid hst
      have HR1' := Lib.hid hr1
      have HR2' := Lib.hid hr2
      have HBF' := Lib.hid (HBE.out ▸ hbf)
      have HW9 := Lib.hid hW9
      clear hst hm9 hr1 hr2 hbf hW9
      go_wp2_with fail
      try simp only [Exit.inBlock, Exit.then]
      rw [← HW9.out]
      refine bodyPost_ret (results_cell_row rfl _ _ (B + 1) 36 _ (0, 0) _ rfl HST.out Try.underlying36 rfl (by kernel_rfl)) rfl ?_
      exact ⟨_, _, cans, als, rfl, HR1'.out, HR2'.out, HOK.out, HBF'.out⟩
end Go.Proofs.Ytanimdajohpggaa.Table
