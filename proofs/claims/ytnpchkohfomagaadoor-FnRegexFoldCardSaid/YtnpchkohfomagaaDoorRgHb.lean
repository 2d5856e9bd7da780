/- spec.Encoded: the bytes of a rune as a text. (and what follows) -/
import Derived.Test.YtnpchkohfomagaaDoorRgY1
import Derived.Test.YtnpchkohfomagaaDoorBits32
import Derived.Laws.BytesArg
import Derived.Test.YtnpchkohfomagaaDoorRgX3
import Derived.Test.YtnpchkohfomagaaDoorRgPb
import Derived.Test.YtnpchkohfomagaaDoorRgH1
/-! spec.Encoded: the bytes of a rune as a text. -/
namespace Go.Proofs.YtnpchkohfomagaaDoor.Rgy
open Go.ChangeShapes Go.WideShapes Go.ChangeAt Go.RowKit Go.Trav Go.Utf
set_option linter.unusedVariables false
set_option linter.unusedSimpArgs false
set_option maxRecDepth 100000
theorem or_c0f : ∀ y : Fin 32, bits .or .u8 192 ((y.val : Nat) : Int) = 192 + ((y.val : Nat) : Int) := by decide
theorem or_80f : ∀ y : Fin 64, bits .or .u8 128 ((y.val : Nat) : Int) = 128 + ((y.val : Nat) : Int) := by decide
theorem or_e0f : ∀ y : Fin 16, bits .or .u8 224 ((y.val : Nat) : Int) = 224 + ((y.val : Nat) : Int) := by decide
theorem or_f0f : ∀ y : Fin 8, bits .or .u8 240 ((y.val : Nat) : Int) = 240 + ((y.val : Nat) : Int) := by decide
theorem or_c0 {y : Int} (h : 0 ≤ y) (h2 : y < 32) : bits .or .u8 192 y = 192 + y := by
  obtain ⟨k, rfl⟩ := Int.eq_ofNat_of_zero_le h
  exact or_c0f ⟨k, by omega⟩
theorem or_80 {y : Int} (h : 0 ≤ y) (h2 : y < 64) : bits .or .u8 128 y = 128 + y := by
  obtain ⟨k, rfl⟩ := Int.eq_ofNat_of_zero_le h
  exact or_80f ⟨k, by omega⟩
theorem or_e0 {y : Int} (h : 0 ≤ y) (h2 : y < 16) : bits .or .u8 224 y = 224 + y := by
  obtain ⟨k, rfl⟩ := Int.eq_ofNat_of_zero_le h
  exact or_e0f ⟨k, by omega⟩
theorem or_f0 {y : Int} (h : 0 ≤ y) (h2 : y < 8) : bits .or .u8 240 y = 240 + y := by
  obtain ⟨k, rfl⟩ := Int.eq_ofNat_of_zero_le h
  exact or_f0f ⟨k, by omega⟩
theorem conv_new (w : World) (xs : List Int) (T : TypeId) (n : Nat) (hn : xs.length = n) (c : Array Value) (hc : c = (xs.map (Value.int .u8)).toArray) :
    ∀ dst, Tryd.prog.underlying dst = some .string → (convert 49 dst (.slice (some ⟨w.heap.size, 0, none⟩) n n)).run Tryd.prog (w.alloc (.cells c T)) = .ok (.string (strOfNums xs)) (w.alloc (.cells c T)) := by
  refine run_convert_bytes_arg (P := Tryd.prog) (w.alloc (.cells c T)) 49 5 Tryd.underlying49 Tryd.underlying5 w.heap.size 0 n n xs hn fun i hi => ?_
  refine block_cell (heap_alloc_new w _) ?_
  rw [hc, Nat.zero_add]
  simp [List.getElem?_eq_getElem (show i < xs.length by omega), List.getD]
theorem str_ub (x : Int) (h : Let x) : (strOfNums (ubytes x)).data.toList.map UInt8.toNat = (ubytes x).map Int.toNat := by
  rw [strOfNums_data, List.map_map]
  refine List.map_congr_left fun y hy => ?_
  have hb : 0 ≤ y ∧ y ≤ 255 := by
    unfold Let at h
    unfold ubytes at hy
    split at hy
    · simp at hy; omega
    · split at hy
      · simp at hy; omega
      · split at hy
        · simp at hy; omega
        · simp at hy; omega
  simp [UInt8.toNat_ofNat']
  omega
set_option maxHeartbeats 4000000 in
theorem encoded_any (x : Int) (w : World) (h : Let x) : Calls Tryd.prog 52 #[.int .i32 x] w fun e w' => e = .returned (.string (strOfNums (ubytes x))) ∧ Below w.heap.size w w' := by
  have hv := valid_any x w
  rw [(letB_iff x).mpr h] at hv
  have HV := Lib.hid hv
  have hx0 : 0 ≤ x := h.1
  have hx1 : x ≤ 1114111 := by unfold Let at h; omega
  clear hv
  by_cases h1 : x < 128
  · have hu : ubytes x = [x] := by unfold ubytes; rw [if_pos (by omega)]
    have e1 : IntKind.u8.wrap x = x := by rw [IntKind.wrap_u8]; omega
    rw [hu]
    clear h hu
    go_enter Tryd.func52, Tryd.ntmps52
    go_wp2_with fail
    refine HV.out.mono ?_
    rintro e w1 ⟨rfl, hb⟩
    have hc := conv_new w1 [x] 5 1 rfl #[.int .u8 x] rfl 9 Tryd.underlying9
    have HB := Lib.hid hb
    clear hb
    go_wp2_with fail
    go_ret
    exact ⟨rfl, HB.out.alloc HB.out.size _⟩
  · have n1 : ¬ x ≤ 127 := by omega
    by_cases h2 : x < 2048
    · have hu : ubytes x = [192 + x / 64, 128 + x % 64] := by unfold ubytes; rw [if_neg (by omega), if_pos (by omega)]
      have e1 : IntKind.u8.wrap (x / 2 ^ 6) = x / 64 := by rw [IntKind.wrap_u8]; omega
      have e2 := or_c0 (y := x / 64) (by omega) (by omega)
      have e3 := i32_low6 hx0 hx1
      have e4 : IntKind.u8.wrap (x % 64) = x % 64 := by rw [IntKind.wrap_u8]; omega
      have e5 := or_80 (y := x % 64) (by omega) (by omega)
      rw [hu]
      clear h hu
      go_enter Tryd.func52, Tryd.ntmps52
      go_wp2_with fail
      refine HV.out.mono ?_
      rintro e w1 ⟨rfl, hb⟩
      have hc := conv_new w1 [192 + x / 64, 128 + x % 64] 5 2 rfl #[.int .u8 (192 + x / 64), .int .u8 (128 + x % 64)] rfl 9 Tryd.underlying9
      have HB := Lib.hid hb
      clear hb
      go_wp2_with fail
      go_ret
      exact ⟨rfl, HB.out.alloc HB.out.size _⟩
    · by_cases h3 : x < 65536
      · have hu : ubytes x = [224 + x / 4096, 128 + x / 64 % 64, 128 + x % 64] := by unfold ubytes; rw [if_neg (by omega), if_neg (by omega), if_pos (by omega)]
        have e1 : IntKind.u8.wrap (x / 2 ^ 12) = x / 4096 := by rw [IntKind.wrap_u8]; omega
        have e2 := or_e0 (y := x / 4096) (by omega) (by omega)
        have e3 := i32_low6 hx0 hx1
        have e4 : IntKind.u8.wrap (x % 64) = x % 64 := by rw [IntKind.wrap_u8]; omega
        have e5 := or_80 (y := x % 64) (by omega) (by omega)
        have e6 : bits .and .i32 (x / 64) 63 = x / 64 % 64 := i32_low6 (by omega) (by omega)
        have e7 : IntKind.u8.wrap (x / 64 % 64) = x / 64 % 64 := by rw [IntKind.wrap_u8]; omega
        have e8 := or_80 (y := x / 64 % 64) (by omega) (by omega)
        rw [hu]
        clear h hu
        go_enter Tryd.func52, Tryd.ntmps52
        go_wp2_with fail
        refine HV.out.mono ?_
        rintro e w1 ⟨rfl, hb⟩
        have hc := conv_new w1 [224 + x / 4096, 128 + x / 64 % 64, 128 + x % 64] 5 3 rfl #[.int .u8 (224 + x / 4096), .int .u8 (128 + x / 64 % 64), .int .u8 (128 + x % 64)] rfl 9 Tryd.underlying9
        have HB := Lib.hid hb
        clear hb
        go_wp2_with fail
        go_ret
        exact ⟨rfl, HB.out.alloc HB.out.size _⟩
      · have hu : ubytes x = [240 + x / 262144, 128 + x / 4096 % 64, 128 + x / 64 % 64, 128 + x % 64] := by unfold ubytes; rw [if_neg (by omega), if_neg (by omega), if_neg (by omega)]
        have e1 : IntKind.u8.wrap (x / 2 ^ 18) = x / 262144 := by rw [IntKind.wrap_u8]; omega
        have e2 := or_f0 (y := x / 262144) (by omega) (by omega)
        have e3 := i32_low6 hx0 hx1
        have e4 : IntKind.u8.wrap (x % 64) = x % 64 := by rw [IntKind.wrap_u8]; omega
        have e5 := or_80 (y := x % 64) (by omega) (by omega)
        have e6 : bits .and .i32 (x / 64) 63 = x / 64 % 64 := i32_low6 (by omega) (by omega)
        have e7 : IntKind.u8.wrap (x / 64 % 64) = x / 64 % 64 := by rw [IntKind.wrap_u8]; omega
        have e8 := or_80 (y := x / 64 % 64) (by omega) (by omega)
        have e9 : bits .and .i32 (x / 4096) 63 = x / 4096 % 64 := i32_low6 (by omega) (by omega)
        have ea : IntKind.u8.wrap (x / 4096 % 64) = x / 4096 % 64 := by rw [IntKind.wrap_u8]; omega
        have eb := or_80 (y := x / 4096 % 64) (by omega) (by omega)
        rw [hu]
        clear h hu
        go_enter Tryd.func52, Tryd.ntmps52
        go_wp2_with fail
        refine HV.out.mono ?_
        rintro e w1 ⟨rfl, hb⟩
        have hc := conv_new w1 [240 + x / 262144, 128 + x / 4096 % 64, 128 + x / 64 % 64, 128 + x % 64] 5 4 rfl #[.int .u8 (240 + x / 262144), .int .u8 (128 + x / 4096 % 64), .int .u8 (128 + x / 64 % 64), .int .u8 (128 + x % 64)] rfl 9 Tryd.underlying9
        have HB := Lib.hid hb
        clear hb
        go_wp2_with fail
        go_ret
        exact ⟨rfl, HB.out.alloc HB.out.size _⟩
end Go.Proofs.YtnpchkohfomagaaDoor.Rgy
/-! spec.places: its walk. -/
namespace Go.Proofs.YtnpchkohfomagaaDoor.Rgy
open Go.ChangeShapes Go.WideShapes Go.ChangeAt Go.RowKit Go.Trav Go.Rg Go.Utf Go.Proofs.YtnpchkohfomagaaDoor.Seq Go.Proofs.YtnpchkohfomagaaDoor.Sparse Go.Proofs.YtnpchkohfomagaaDoor.Rgw
set_option linter.unusedVariables false
set_option linter.unusedSimpArgs false
set_option maxRecDepth 100000
theorem keepZ {w w' : World} {a : Addr} {v : Value} (hb : Below w.heap.size w w') (h : w.cell? a = some v) : w'.cell? a = some v := (Mod.of_below (F := fun _ => False) hb).cell h (fun h => h)
theorem readsC (w : World) (l : List Int) (n : Nat) (hn : l.length = n) (h : n ≤ 1000) (c : Array Value) (hc : c = (l.map rV).toArray) (b : Nat) (hb : w.heap.size = b) : Reads (w.alloc (.cells c 21)) (.slice (some ⟨b, 0, none⟩) n n) n 1 (l.map rV) := by
  subst hb
  refine ⟨some ⟨w.heap.size, 0, none⟩, n, rfl, Nat.le_refl _, by unfold maxLen; omega, fun h => by simp at h, by simp [hn], fun _ => ⟨w.heap.size, 0, rfl, fun j u hj => ?_⟩⟩
  refine block_cell (heap_alloc_new w _) ?_
  rw [Nat.zero_add, hc]
  simpa using hj
set_option maxHeartbeats 2000000 in
theorem ranges_any (o : Nat) (rs : List Int) (rv : Value) (mn mx : Int) (lz : Bool) (sv : Value) (w : World) (hR : Reads w rv rs.length 1 (rs.map rV)) (hs : ∃ a b c, sv = .slice a b c) (ho : o = 4 ∨ o = 5 ∨ o = 6) :
    Calls Tryd.prog 53 #[.agg #[.int .i64 (o : Int), rv, .int .i64 mn, .int .i64 mx, .bool lz, .bool false, sv]] w fun e w' => ∃ v, e = .returned v ∧ Reads w' v (if o = 6 then [0, 1114111] else if o = 5 then [0, 9, 11, 1114111] else rs).length 1 ((if o = 6 then [0, 1114111] else if o = 5 then [0, 9, 11, 1114111] else rs).map rV) ∧ Below w.heap.size w w' := by
  obtain ⟨ra, rc, rfl⟩ := hR.form
  obtain ⟨sa, sb, sc, rfl⟩ := hs
  obtain ⟨W1, hW1⟩ : ∃ W1, W1 = w.alloc (.cells #[.int .i64 (o : Int), .slice ra rs.length rc, .int .i64 mn, .int .i64 mx, .bool lz, .bool false, .slice sa sb sc] 35) := ⟨_, rfl⟩
  have hb1 : Below w.heap.size w W1 := by rw [hW1]; exact (Below.refl _ _).alloc (Nat.le_refl _) _
  have HR := Lib.hid (hR.below hb1)
  have HB := Lib.hid hb1
  clear hR hb1
  rcases ho with rfl | rfl | rfl
  · go_enter Tryd.func53, Tryd.ntmps53
    go_wp2_with fail
    go_ret
    subst hW1
    exact ⟨_, rfl, HR.out, HB.out⟩
  · go_enter Tryd.func53, Tryd.ntmps53
    go_wp2_with fail
    go_ret
    have hs : W1.heap.size = w.heap.size + 1 := by rw [hW1]; simp
    subst hW1
    exact ⟨_, rfl, readsC _ [0, 9, 11, 1114111] 4 rfl (by omega) _ rfl _ hs, HB.out.alloc HB.out.size _⟩
  · go_enter Tryd.func53, Tryd.ntmps53
    go_wp2_with fail
    go_ret
    have hs : W1.heap.size = w.heap.size + 1 := by rw [hW1]; simp
    subst hW1
    exact ⟨_, rfl, readsC _ [0, 1114111] 2 rfl (by omega) _ rfl _ hs, HB.out.alloc HB.out.size _⟩
theorem prs_at : ∀ (l : List Int) (k : Nat), (prs l).length = l.length / 2 ∧ ∀ a b, l[2 * k]? = some a → l[2 * k + 1]? = some b → (prs l)[k]? = some (a, b) := by
  intro l
  induction l using prs.induct with
  | case1 x y r ih =>
    intro k
    refine ⟨by simp only [prs, List.length_cons]; rw [(ih 0).1]; omega, fun a b ha hb => ?_⟩
    cases k with
    | zero => simp at ha hb; subst ha hb; rfl
    | succ k =>
      have e1 : 2 * (k + 1) = 2 * k + 1 + 1 := by omega
      rw [e1] at ha hb
      simp only [List.getElem?_cons_succ] at ha hb
      simp only [prs, List.getElem?_cons_succ]
      exact (ih k).2 a b ha hb
  | case2 l h =>
    intro k
    match l, h with
    | [], _ => exact ⟨by simp [prs], fun a b ha => by simp at ha⟩
    | [x], _ =>
      refine ⟨by simp [prs], fun a b ha hb => ?_⟩
      have := (List.getElem?_eq_some_iff.1 hb).1
      simp at this
    | x :: y :: r, h => exact absurd rfl (h x y r)
theorem sum_take_succ {α : Type} (f : α → Nat) (l : List α) (k : Nat) (x : α) (h : l[k]? = some x) : ((l.take (k + 1)).map f).sum = ((l.take k).map f).sum + f x := by
  rw [List.take_add_one, h]
  simp
theorem sum_take_le {α : Type} (f : α → Nat) : ∀ (l : List α) (k : Nat), ((l.take k).map f).sum ≤ (l.map f).sum := by
  intro l
  induction l with
  | nil => intro k; simp
  | cons a r ih =>
    intro k
    cases k with
    | zero => simp
    | succ k => simp only [List.take_succ_cons, List.map_cons, List.sum_cons]; have := ih k; omega
theorem wid_nn (x : Int) : 1 ≤ wid x ∧ wid x ≤ 4 := by
  unfold wid
  repeat' split
  all_goals omega
theorem rngN_le (x : Int) : rngN x ≤ 31 := by unfold rngN; split <;> omega
/-- Behind k pairs: so many places. -/
def cSum (l : List Int) (k : Nat) : Nat := (((prs l).take k).map fun q => rngN q.2).sum
theorem cSum_succ (l : List Int) (k : Nat) (x y : Int) (h : (prs l)[k]? = some (x, y)) : cSum l (k + 1) = cSum l k + rngN y := sum_take_succ (fun q : Int × Int => rngN q.2) (prs l) k (x, y) h
/-- Behind k parts: so many places. -/
def pSum (d : Nat) (l : List Tr) (k : Nat) : Nat := ((l.take k).map (places d)).sum
set_option maxHeartbeats 8000000 in
theorem places_step (d : Nat) (ih : ∀ (t : Tr) (cs : List Value) (w : World), RxV w d t cs → WF d t → Lf d t → places d t ≤ 1000000000 → Calls Tryd.prog 41 #[.agg cs.toArray] w fun e w' => e = .returned (.int .i64 (places d t : Int)) ∧ Below w.heap.size w w')
    (t : Tr) (cs : List Value) (w : World) (hX : RxV w (d + 1) t cs) (hW : WF (d + 1) t) (hL : Lf (d + 1) t) (hP : places (d + 1) t ≤ 1000000000) : Calls Tryd.prog 41 #[.agg cs.toArray] w fun e w' => e = .returned (.int .i64 (places (d + 1) t : Int)) ∧ Below w.heap.size w w' := by
  obtain ⟨rv, sv, css, rfl, ⟨hop, hrl, hsl⟩, hR, hcl, hS, h7, hsub⟩ := hX
  obtain ⟨hW1, hW2, hW3, hW4, hW5, hW6, hW7, hW8⟩ := hW
  have hR0 := hR
  obtain ⟨ra, rc, rfl⟩ := hR.form
  obtain ⟨sa, sc, rfl⟩ := hS.form
  obtain ⟨W1, hW⟩ : ∃ W1, W1 = w.alloc (.cells #[.int .i64 (t.op : Int), .slice ra t.runes.length rc, .int .i64 t.mn, .int .i64 t.mx, .bool t.lazy, .bool false, .slice sa css.length sc] 35) := ⟨_, rfl⟩
  have hblk : W1.heap[w.heap.size]? = some (.cells #[.int .i64 (t.op : Int), .slice ra t.runes.length rc, .int .i64 t.mn, .int .i64 t.mx, .bool t.lazy, .bool false, .slice sa css.length sc] 35 (0, 0)) := by rw [hW]; exact heap_alloc_new w _
  have hb1 : Below w.heap.size w W1 := by rw [hW]; exact (Below.refl _ _).alloc (Nat.le_refl _) _
  have hsz : w.heap.size < W1.heap.size := block_lt hblk
  have HBK := Lib.hid hblk
  have HB1 := Lib.hid hb1
  have HR := Lib.hid (hR.below hb1)
  have HS := Lib.hid (hS.below hb1)
  have k0 : W1.cell? ⟨w.heap.size, 0, none⟩ = some (.int .i64 (t.op : Int)) := block_cell hblk rfl
  have k1 : W1.cell? ⟨w.heap.size, 1, none⟩ = some (.slice ra t.runes.length rc) := block_cell hblk rfl
  have k2 : W1.cell? ⟨w.heap.size, 2, none⟩ = some (.int .i64 t.mn) := block_cell hblk rfl
  have k3 : W1.cell? ⟨w.heap.size, 3, none⟩ = some (.int .i64 t.mx) := block_cell hblk rfl
  have k4 : W1.cell? ⟨w.heap.size, 4, none⟩ = some (.bool t.lazy) := block_cell hblk rfl
  have k5 : W1.cell? ⟨w.heap.size, 5, none⟩ = some (.bool false) := block_cell hblk rfl
  have k6 : W1.cell? ⟨w.heap.size, 6, none⟩ = some (.slice sa css.length sc) := block_cell hblk rfl
  have HK := Lib.hid (And.intro k0 (And.intro k1 (And.intro k2 (And.intro k3 (And.intro k4 (And.intro k5 k6))))))
  clear hblk hb1 hR hS
  by_cases o2 : t.op = 2
  · have hp : places (d + 1) t = 0 := by rw [places_succ, if_pos o2]
    rw [hp]
    have o2' : (t.op : Int) = 2 := by omega
    clear hp hP hW4 hW5 hW6 hW7 hW8 hsub h7 hL hR0
    go_enter Tryd.func41, Tryd.ntmps41
    go_wp2_with fail
    go_ret
    exact ⟨rfl, (Below.refl _ _).alloc (Nat.le_refl _) _⟩
  by_cases o3 : t.op = 3
  · have hp : places (d + 1) t = (t.runes.map wid).sum := by rw [places_succ, if_neg o2, if_pos o3]
    rw [hp]
    have o3' : (t.op : Int) = 3 := by omega
    have o2' : ¬ (t.op : Int) = 2 := by omega
    have HLE := Lib.hid (hW4 o3)
    obtain ⟨L, hLe⟩ : ∃ n, n = t.runes.length := ⟨_, rfl⟩
    have hLE := Lib.hid hLe
    have hL9 : L ≤ 1000 := by omega
    rw [← hLe] at k1 hW ⊢
    rw [o3'] at hW k0 ⊢
    clear o3' hcl hLe
    clear hp hP hW4 hW5 hW6 hW7 hW8 hsub h7 hL hR0
    go_enter Tryd.func41, Tryd.ntmps41
    go_wp2_with fail
    rw [← hW]
    go_wp2_with fail
    go_loopw [3, 4] (fun nv iv wr => ∃ k : Nat, iv = .int .i64 k ∧ k ≤ L ∧ nv = .int .i64 ((((t.runes.take k).map wid).sum : Nat) : Int) ∧ Hid (Below W1.heap.size W1 wr)) (fun _ iv _ => L - (intOf iv).toNat)
    case atStart => exact ⟨0, rfl, Nat.zero_le _, by simp, Lib.hid (Below.refl _ _)⟩
    case round =>
      obtain ⟨k, rfl, hk, rfl, HBW⟩ := hrel
      have j1 := keepZ HBW.out k1
      have hs4 := sum_cap wid 4 (t.runes.take k) fun x _ => (wid_nn x).2
      have hs5 : (t.runes.take k).length ≤ 1000 := by simp; omega
      obtain ⟨S, hSe⟩ : ∃ S, S = ((t.runes.take k).map wid).sum := ⟨_, rfl⟩
      rw [← hSe] at hs4 ⊢
      have hs6 : S ≤ 4000 := by omega
      by_cases hlt : k < L
      · obtain ⟨sb, so, cp, x, e1, hx, hc⟩ := (HR.out.below HBW.out).one rV (k := k) (by have := hLE.out; omega)
        obtain rfl : ra = some ⟨sb, so, none⟩ := by injection e1
        have hLx := HLE.out x (List.mem_of_getElem? hx)
        have henc := fun W => encoded_any x W hLx
        have hsz1 : (strOfNums (ubytes x)).size = wid x := by rw [strOfNums_size, wid_len]
        have hc' : wr.cell? ⟨sb, so + k, none⟩ = some (.int .i32 x) := hc
        have hw4 := wid_nn x
        have hwr : IntKind.i64.wrap ((S : Int) + (wid x : Int)) = (((S + wid x : Nat)) : Int) := by rw [IntWalk.i64_in _ (by omega)]; omega
        have HN := Lib.hid (show S + wid x = ((t.runes.take (k + 1)).map wid).sum by rw [sum_take_succ wid t.runes k x hx, hSe])
        have hl1 : (k : Int) < (L : Int) := by omega
        clear hs4 hs5 hSe hx hc hLx e1
        go_wp2_with fail
        refine (henc wr).mono ?_
        rintro e w2 ⟨rfl, hb2⟩
        have HB2 := Lib.hid hb2
        clear hb2
        go_wp2_with fail
        go_roundw
        case rel => exact ⟨k + 1, by go_num, by omega, by rw [← HN.out]; go_num, Lib.hid (HBW.out.trans (HB2.out.mono HBW.out.size))⟩
        case measure => simp [intOf]; omega
      · obtain rfl : k = L := by omega
        have HF := Lib.hid (show S = (t.runes.map wid).sum by rw [hSe, List.take_of_length_le (by have := hLE.out; omega)])
        clear hSe hs4 hs5
        go_wp2_with fail
        go_ret
        exact ⟨by rw [HF.out]; rfl, HB1.out.trans (HBW.out.mono (by omega))⟩
  by_cases o4 : t.op = 4 ∨ t.op = 5 ∨ t.op = 6
  · have hp : places (d + 1) t = ((prs (rsOf t)).map fun q => rngN q.2).sum := by rw [places_succ, if_neg o2, if_neg o3, if_pos o4]
    rw [hp]
    have o2' : ¬ (t.op : Int) = 2 := by omega
    have o3' : ¬ (t.op : Int) = 3 := by omega
    have hrg := fun W h => ranges_any t.op t.runes (.slice ra t.runes.length rc) t.mn t.mx t.lazy (.slice sa css.length sc) W h ⟨_, _, _, rfl⟩ o4
    rw [show (if t.op = 6 then [0, 1114111] else if t.op = 5 then [0, 9, 11, 1114111] else t.runes) = rsOf t from rfl] at hrg
    have hgl : (rsOf t).length ≤ 1000 := by
      unfold rsOf; repeat' split
      all_goals (first | exact hrl | simp)
    obtain ⟨l, hl⟩ : ∃ l, l = rsOf t := ⟨_, rfl⟩
    rw [← hl] at hrg hgl ⊢
    clear hp hP hW4 hW5 hW6 hW7 hW8 hsub h7 hL hR0 hl hcl
    rcases o4 with o4 | o4 | o4
    case' inl => have o4' : (t.op : Int) = 4 := by omega
    case' inr.inl => have o4' : (t.op : Int) = 5 := by omega
    case' inr.inr => have o4' : (t.op : Int) = 6 := by omega
    all_goals
      rw [o4'] at hW k0 hrg ⊢
      have HRG := Lib.hid hrg
      clear o4' o4 hrg o2' o3' o2 o3
      go_enter Tryd.func41, Tryd.ntmps41
      go_wp2_with fail
      rw [← hW]
      go_wp2_with fail
      refine (HRG.out W1 HR.out).mono ?_
      rintro e w2 ⟨v, rfl, hv, hb2⟩
      obtain ⟨va, vc, rfl⟩ := hv.form
      have HV := Lib.hid hv
      have HB2 := Lib.hid hb2
      clear hv hb2
      go_wp2_with fail
      go_loopw [3, 6] (fun nv iv wr => ∃ k i : Nat, iv = .int .i64 i ∧ i ≤ l.length ∧ Hid (i = 2 * k) ∧ nv = .int .i64 ((cSum l k : Nat) : Int) ∧ w2 = wr) (fun _ iv _ => l.length - (intOf iv).toNat)
      case atStart => exact ⟨0, 0, rfl, Nat.zero_le _, Lib.hid rfl, by simp [cSum], rfl⟩
      case round =>
        obtain ⟨k, i, rfl, hi, HI, rfl, rfl⟩ := hrel
        have hs4 := sum_cap (fun q : Int × Int => rngN q.2) 31 ((prs l).take k) fun x _ => rngN_le _
        have hs5 : ((prs l).take k).length ≤ 1000 := by have := (prs_at l 0).1; simp; omega
        change cSum l k ≤ _ at hs4
        obtain ⟨S, hSe⟩ : ∃ S, S = cSum l k := ⟨_, rfl⟩
        rw [← hSe] at hs4 ⊢
        have hs6 : S ≤ 31000 := by omega
        have hw0 : IntKind.i64.wrap ((i : Int) + 1) = (i : Int) + 1 := IntWalk.i64_in _ (by omega)
        by_cases hlt : i + 1 < l.length
        · obtain ⟨sb, so, cp, x, e1, hx, hc⟩ := HV.out.one rV (k := i) (by omega)
          obtain ⟨sb', so', cp', y, e2, hy, hc2⟩ := HV.out.one rV (k := i + 1) hlt
          obtain rfl : va = some ⟨sb, so, none⟩ := by injection e1
          have c1 : w2.cell? ⟨sb, so + (i + 1), none⟩ = some (.int .i32 y) := by
            have : (⟨sb', so', none⟩ : Addr) = ⟨sb, so, none⟩ := by injection e2 with e3; injection e3 with e3; exact e3.symm
            injection this with q1 q2
            rw [← q1, ← q2]; exact hc2
          have hpk : (prs l)[k]? = some (x, y) := (prs_at l k).2 x y (by rw [← HI.out]; exact hx) (by rw [← HI.out]; exact hy)
          have hS1 := cSum_succ l k x y hpk
          rw [← hSe] at hS1
          have hw1 : IntKind.i64.wrap ((S : Int) + 1) = (S : Int) + 1 := IntWalk.i64_in _ (by omega)
          have hw2 : IntKind.i64.wrap ((S : Int) + 1 + 30) = (S : Int) + 1 + 30 := IntWalk.i64_in _ (by omega)
          have hw3 : IntKind.i64.wrap ((i : Int) + 2) = (i : Int) + 2 := IntWalk.i64_in _ (by omega)
          have ht1 : ((i : Int) + 1).toNat = i + 1 := by omega
          have hg1 : (0 : Int) ≤ (i : Int) + 1 := by omega
          have hl1 : ((i : Int) + 1) < (l.length : Int) := by omega
          have HS1 := Lib.hid hS1
          clear hs4 hs5 hSe hx hc hy hc2 e1 e2 hpk hS1
          by_cases h128 : y ≥ 128
          · have HN := Lib.hid (show rngN y = 31 by unfold rngN; rw [if_neg (by omega)])
            go_wp2_with fail
            go_roundw
            case rel => exact ⟨k + 1, i + 2, by go_num, by omega, Lib.hid (by have := HI.out; omega), by have h1 := HS1.out; have h2 := HN.out; go_num, by first | rfl | trivial⟩
            case measure => simp [intOf]; omega
          · have HN := Lib.hid (show rngN y = 1 by unfold rngN; rw [if_pos (by omega)])
            go_wp2_with fail
            go_roundw
            case rel => exact ⟨k + 1, i + 2, by go_num, by omega, Lib.hid (by have := HI.out; omega), by have h1 := HS1.out; have h2 := HN.out; go_num, by first | rfl | trivial⟩
            case measure => simp [intOf]; omega
        · have HF := Lib.hid (show S = ((prs l).map fun q => rngN q.2).sum by rw [hSe, cSum, List.take_of_length_le (by have := (prs_at l 0).1; have := HI.out; omega)])
          have hl1 : ¬ ((i : Int) + 1) < (l.length : Int) := by omega
          clear hSe hs4 hs5
          go_wp2_with fail
          go_ret
          exact ⟨by rw [HF.out]; rfl, HB1.out.trans (HB2.out.mono (by omega))⟩
  · have hsub2 : places (d + 1) t = (if t.op = 17 then (t.subs.map (places d)).sum * ((max t.mn t.mx).toNat + 1) else if t.op = 15 then (t.subs.map (places d)).sum * 2 else (t.subs.map (places d)).sum) := by rw [places_succ, if_neg o2, if_neg o3, if_neg o4]
    have o2' : ((t.op : Int) == 2) = false := beq_eq_false_iff_ne.2 (by omega)
    have o3' : ((t.op : Int) == 3) = false := beq_eq_false_iff_ne.2 (by omega)
    have o4' : ((t.op : Int) == 4) = false := beq_eq_false_iff_ne.2 (by omega)
    have o5' : ((t.op : Int) == 5) = false := beq_eq_false_iff_ne.2 (by omega)
    have o6' : ((t.op : Int) == 6) = false := beq_eq_false_iff_ne.2 (by omega)
    have hsm : (t.subs.map (places d)).sum ≤ 1000000000 := by
      rw [hsub2] at hP
      refine Nat.le_trans ?_ hP
      split
      · exact Nat.le_mul_of_pos_right _ (by omega)
      · split
        · omega
        · exact Nat.le_refl _
    have hsw : ∀ (i : Nat) s, t.subs[i]? = some s → WF d s ∧ Lf d s ∧ places d s ≤ 1000000000 := fun i s hs => by
      have hm := List.mem_of_getElem? hs
      have h13 : 13 ≤ t.op := by
        rcases Nat.lt_or_ge t.op 13 with h | h
        · rw [hL.1 h] at hm; simp at hm
        · exact h
      refine ⟨?_, hL.2 s hm, ?_⟩
      · rcases Nat.lt_or_ge 17 t.op with h | h
        · exact (hW8 h).2.1 s hm
        · obtain ⟨x, e, hx⟩ := hW6 h13 h
          rw [e] at hm
          have : s = x := by simpa using hm
          subst this; exact hx
      · have h1 := sum_take_succ (places d) t.subs i s hs
        have h2 := sum_take_le (places d) t.subs (i + 1)
        omega
    have HSW := Lib.hid hsw
    have HSUB := Lib.hid (And.intro h7 hsub)
    have HIH := Lib.hid ih
    have HP2 := Lib.hid hsub2
    have HSM := Lib.hid (And.intro hsm hP)
    have HW7 := Lib.hid hW7
    have HCL := Lib.hid hcl
    obtain ⟨L, hLe⟩ : ∃ n, n = css.length := ⟨_, rfl⟩
    have hLE := Lib.hid hLe
    have hL9 : L ≤ 1000 := by omega
    rw [← hLe] at k6 hW ⊢
    clear hLe
    clear hP hW4 hW5 hW6 hW7 hW8 hsub h7 hL hR0 hsub2 hsm hsw ih hcl
    go_enter Tryd.func41, Tryd.ntmps41
    go_wp2_with fail
    rw [← hW]
    go_wp2_with fail
    go_loopw [3, 7] (fun nv iv wr => ∃ k : Nat, iv = .int .i64 k ∧ k ≤ L ∧ nv = .int .i64 ((pSum d t.subs k : Nat) : Int) ∧ Hid (Below W1.heap.size W1 wr)) (fun _ iv _ => L - (intOf iv).toNat)
    case atStart => exact ⟨0, rfl, Nat.zero_le _, by simp [pSum], Lib.hid (Below.refl _ _)⟩
    case round =>
      obtain ⟨k, rfl, hk, rfl, HBW⟩ := hrel
      have j6 := keepZ HBW.out k6
      have hs4 : pSum d t.subs k ≤ 1000000000 := Nat.le_trans (sum_take_le (places d) t.subs k) HSM.out.1
      obtain ⟨S, hSe⟩ : ∃ S, S = pSum d t.subs k := ⟨_, rfl⟩
      rw [← hSe] at hs4 ⊢
      by_cases hlt : k < L
      · obtain ⟨c, hc⟩ : ∃ c, css[k]? = some c := ⟨_, List.getElem?_eq_getElem (by have := hLE.out; omega)⟩
        obtain ⟨s, hs⟩ : ∃ s, t.subs[k]? = some s := ⟨_, List.getElem?_eq_getElem (by have := hLE.out; have := HCL.out; omega)⟩
        have hxw : RxV w d s c := HSUB.out.2 k c s hc hs
        obtain ⟨o1, rv1, mn1, mx1, lz1, sv2, rfl, ⟨ra1, rb1, rc1, rfl⟩, sa1, sb1, sc1, rfl⟩ := hxw.form
        obtain ⟨sb, so, rfl, hcells⟩ := row7 (HS.out.below HBW.out) HSUB.out.1 hc
        have q0 := hcells 0 _ rfl
        rw [Nat.add_zero] at q0
        have q1 := hcells 1 _ rfl
        have q2 := hcells 2 _ rfl
        have q3 := hcells 3 _ rfl
        have q4 := hcells 4 _ rfl
        have q5 := hcells 5 _ rfl
        have q6 := hcells 6 _ rfl
        have hxr : RxV wr d s _ := RxV.below (HB1.out.trans (HBW.out.mono (by omega))) d s _ hxw
        have hsw := HSW.out k s hs
        have hcall := HIH.out s _ wr hxr hsw.1 hsw.2.1 hsw.2.2
        have hS1 : pSum d t.subs (k + 1) = S + places d s := by rw [hSe]; exact sum_take_succ (places d) t.subs k s hs
        obtain ⟨p, hpp⟩ : ∃ p, p = places d s := ⟨_, rfl⟩
        have hp9 : p ≤ 1000000000 := by rw [hpp]; exact hsw.2.2
        rw [← hpp] at hcall hS1
        have hw1 : IntKind.i64.wrap ((S : Int) + (p : Int)) = ((S + p : Nat) : Int) := by rw [IntWalk.i64_in _ (by omega)]; omega
        have HC := Lib.hid hcall
        have HS1 := Lib.hid hS1
        have hl1 : (k : Int) < (L : Int) := by omega
        clear hxw hcells hxr hsw hcall hS1 hpp hSe hs hc
        go_wp2_with fail
        refine HC.out.mono ?_
        rintro e w2 ⟨rfl, hb2⟩
        have HB2 := Lib.hid hb2
        clear hb2
        go_wp2_with fail
        go_roundw
        case rel => exact ⟨k + 1, by go_num, by omega, by rw [HS1.out]; go_num, Lib.hid (HBW.out.trans (HB2.out.mono HBW.out.size))⟩
        case measure => simp [intOf]; omega
      · obtain rfl : k = L := by omega
        have hF : S = (t.subs.map (places d)).sum := by rw [hSe, pSum, List.take_of_length_le (by have := hLE.out; have := HCL.out; omega)]
        have j0 := keepZ HBW.out k0
        have j2 := keepZ HBW.out k2
        have j3 := keepZ HBW.out k3
        have hP2 := HP2.out
        rw [← hF] at hP2
        have hbel := HB1.out.trans (HBW.out.mono (by omega))
        have HBF := Lib.hid hbel
        by_cases o17 : t.op = 17
        · have o17' : ((t.op : Int) == 17) = true := by rw [beq_iff_eq]; omega
          have o15' : ((t.op : Int) == 15) = false := beq_eq_false_iff_ne.2 (by omega)
          have hw := HW7.out o17
          rw [if_pos o17] at hP2
          obtain ⟨m, hm⟩ := Int.eq_ofNat_of_zero_le hw.1
          by_cases hx : t.mx = -1
          · have e1 : (max t.mn t.mx).toNat = m := by omega
            rw [e1] at hP2
            have hPb := HSM.out.2
            rw [hP2] at hPb
            have hwm1 : IntKind.i64.wrap ((m : Int) + 1) = (m : Int) + 1 := by rw [IntWalk.i64_in _ (by omega)]
            obtain ⟨PP, hPP⟩ : ∃ PP, PP = S * (m + 1) := ⟨_, rfl⟩
            rw [← hPP] at hP2 hPb
            have hmul : (S : Int) * ((m : Int) + 1) = (PP : Int) := by rw [hPP, Int.natCast_mul]; rfl
            have hwm : IntKind.i64.wrap (PP : Int) = (PP : Int) := IntWalk.i64_in _ (by omega)
            have hc1 : ¬ ((m : Int) < -1) := by omega
            have hc2 : (-1 : Int) ≤ (m : Int) := by omega
            have hc3 : ¬ ((m : Int) ≤ -1) := by omega
            have hmax : max (m : Int) (-1) = (m : Int) := by omega
            rw [hm] at j2
            rw [hx] at j3
            have HP3 := Lib.hid hP2
            clear hSe hF hP2 hw hPb e1 hbel hPP o17
            go_wp2_with fail
            go_ret
            exact ⟨by rw [HP3.out]; rfl, HBF.out⟩
          · obtain ⟨x, hxe⟩ := Int.eq_ofNat_of_zero_le (show (0 : Int) ≤ t.mx by omega)
            have e1 : (max t.mn t.mx).toNat = x := by omega
            rw [e1] at hP2
            have hPb := HSM.out.2
            rw [hP2] at hPb
            have hwm1 : IntKind.i64.wrap ((x : Int) + 1) = (x : Int) + 1 := by rw [IntWalk.i64_in _ (by omega)]
            obtain ⟨PP, hPP⟩ : ∃ PP, PP = S * (x + 1) := ⟨_, rfl⟩
            rw [← hPP] at hP2 hPb
            have hmul : (S : Int) * ((x : Int) + 1) = (PP : Int) := by rw [hPP, Int.natCast_mul]; rfl
            have hwm : IntKind.i64.wrap (PP : Int) = (PP : Int) := IntWalk.i64_in _ (by omega)
            have hmax : max (m : Int) (x : Int) = (x : Int) := by omega
            have hc1 : (m : Int) ≤ (x : Int) := by omega
            rw [hm] at j2
            rw [hxe] at j3
            have HP3 := Lib.hid hP2
            clear hSe hF hP2 hw hPb e1 hbel hPP o17
            go_wp2_with fail
            go_ret
            exact ⟨by rw [HP3.out]; rfl, HBF.out⟩
        · have o17' : ((t.op : Int) == 17) = false := beq_eq_false_iff_ne.2 (by omega)
          rw [if_neg o17] at hP2
          by_cases o15 : t.op = 15
          · have o15' : ((t.op : Int) == 15) = true := by rw [beq_iff_eq]; omega
            rw [if_pos o15] at hP2
            have hwm : IntKind.i64.wrap ((S : Int) * 2) = (S : Int) * 2 := IntWalk.i64_in _ (by omega)
            have HP3 := Lib.hid hP2
            clear hSe hF hP2 hbel
            go_wp2_with fail
            go_ret
            exact ⟨by rw [HP3.out]; rfl, HBF.out⟩
          · have o15' : ((t.op : Int) == 15) = false := beq_eq_false_iff_ne.2 (by omega)
            rw [if_neg o15] at hP2
            have HP3 := Lib.hid hP2
            clear hSe hF hP2 hbel
            go_wp2_with fail
            go_ret
            exact ⟨by rw [HP3.out]; rfl, HBF.out⟩
theorem places_any : ∀ (d : Nat) (t : Tr) (cs : List Value) (w : World), RxV w d t cs → WF d t → Lf d t → places d t ≤ 1000000000 → Calls Tryd.prog 41 #[.agg cs.toArray] w fun e w' => e = .returned (.int .i64 (places d t : Int)) ∧ Below w.heap.size w w' := by
  intro d
  induction d with
  | zero => intro t cs w h; exact h.elim
  | succ d ih => intro t cs w hX hW hL hP; exact places_step d ih t cs w hX hW hL hP
end Go.Proofs.YtnpchkohfomagaaDoor.Rgy
/-! The statements' small functions over expressions: zzFits10, wideTree, fewBytes, Modest, Small, regexNode. -/
namespace Go.Proofs.YtnpchkohfomagaaDoor.Rgy
open Go.ChangeShapes Go.WideShapes Go.ChangeAt Go.RowKit Go.Trav Go.Rg Go.Utf Go.Proofs.YtnpchkohfomagaaDoor.Seq Go.Proofs.YtnpchkohfomagaaDoor.Sparse Go.Proofs.YtnpchkohfomagaaDoor.Rgw
set_option linter.unusedVariables false
set_option linter.unusedSimpArgs false
set_option maxRecDepth 100000
theorem fits_any (o : Int) (ra : Option Addr) (rl rc : Nat) (mn mx : Int) (lz fo : Bool) (sa : Option Addr) (sl sc : Nat) (w : World) :
    Calls Tryd.prog 14 #[.agg #[.int .i64 o, .slice ra rl rc, .int .i64 mn, .int .i64 mx, .bool lz, .bool fo, .slice sa sl sc]] w fun e w' => e = .returned (.bool (decide (rl ≤ 2147483647) && decide (sl ≤ 2147483647))) ∧ Below w.heap.size w w' := by
  by_cases h1 : rl ≤ 2147483647
  · by_cases h2 : sl ≤ 2147483647
    · go_enter Tryd.func14, Tryd.ntmps14
      go_wp2_with fail
      go_ret
      exact ⟨by simp [h1, h2], (Below.refl _ _).alloc (Nat.le_refl _) _⟩
    · go_enter Tryd.func14, Tryd.ntmps14
      go_wp2_with fail
      go_ret
      exact ⟨by simp [h1, h2], (Below.refl _ _).alloc (Nat.le_refl _) _⟩
  · go_enter Tryd.func14, Tryd.ntmps14
    go_wp2_with fail
    go_ret
    exact ⟨by simp [h1], (Below.refl _ _).alloc (Nat.le_refl _) _⟩
theorem wide_any (o : Int) (ra : Option Addr) (rl rc : Nat) (mn mx : Int) (lz fo : Bool) (sa : Option Addr) (sl sc : Nat) (w : World) :
    Calls Tryd.prog 15 #[.agg #[.int .i64 o, .slice ra rl rc, .int .i64 mn, .int .i64 mx, .bool lz, .bool fo, .slice sa sl sc]] w fun e w' => e = .returned (.bool (decide (rl ≤ 65536) && decide (sl ≤ 65536))) ∧ Below w.heap.size w w' := by
  by_cases h1 : rl ≤ 65536
  · by_cases h2 : sl ≤ 65536
    · go_enter Tryd.func15, Tryd.ntmps15
      go_wp2_with fail
      go_ret
      exact ⟨by simp [h1, h2]; try omega, (Below.refl _ _).alloc (Nat.le_refl _) _⟩
    · go_enter Tryd.func15, Tryd.ntmps15
      go_wp2_with fail
      go_ret
      exact ⟨by simp [h1, h2]; try omega, (Below.refl _ _).alloc (Nat.le_refl _) _⟩
  · go_enter Tryd.func15, Tryd.ntmps15
    go_wp2_with fail
    go_ret
    exact ⟨by simp [h1] <;> omega, (Below.refl _ _).alloc (Nat.le_refl _) _⟩
theorem fewb_any (s : ByteArray) (n : Nat) (w : World) (hs : s.size ≤ 4294967296) (hn : n ≤ 1000) :
    Calls Tryd.prog 10 #[.string s, .int .i64 (n : Int)] w fun e w' => (∃ r : ByteArray, e = .returned (.string r) ∧ r.size ≤ n) ∧ w = w' := by
  by_cases h : s.size ≤ n
  · go_enter Tryd.func10, Tryd.ntmps10
    go_wp2_with fail
    go_ret
    exact ⟨⟨_, rfl, by simp; omega⟩, rfl⟩
  · go_enter Tryd.func10, Tryd.ntmps10
    go_wp2_with fail
    go_ret
    exact ⟨⟨_, rfl, by simp; omega⟩, rfl⟩
theorem modest_any (d : Nat) (t : Tr) (cs : List Value) (m : Nat) (w : World) (hX : RxV w d t cs) (hW : WF d t) (hL : Lf d t) (hP : places d t ≤ 1000000000) (hm : m ≤ 10) :
    Calls Tryd.prog 17 #[.agg cs.toArray, .int .i64 (m : Int)] w fun e w' => e = .returned (.bool (decide (places d t * m ≤ 160))) ∧ Below w.heap.size w w' := by
  obtain ⟨o1, rv1, mn1, mx1, lz1, sv1, rfl, ⟨ra, rb, rc, rfl⟩, sa, sb, sc, rfl⟩ := hX.form
  obtain ⟨W1, hW1⟩ : ∃ W1, W1 = w.alloc (.cells #[.int .i64 o1, .slice ra rb rc, .int .i64 mn1, .int .i64 mx1, .bool lz1, .bool false, .slice sa sb sc] 35) := ⟨_, rfl⟩
  have hb1 : Below w.heap.size w W1 := by rw [hW1]; exact (Below.refl _ _).alloc (Nat.le_refl _) _
  have hp := places_any d t _ W1 (RxV.below hb1 d t _ hX) hW hL hP
  have HP := Lib.hid hp
  have HB := Lib.hid hb1
  obtain ⟨p, hpe⟩ : ∃ p, p = places d t := ⟨_, rfl⟩
  have hpm : p * m ≤ 1000000000 * 10 := Nat.mul_le_mul (by omega) hm
  have hw1 : IntKind.i64.wrap ((p : Int) * (m : Int)) = ((p * m : Nat) : Int) := by rw [IntWalk.i64_in _ (by rw [← Int.natCast_mul]; omega)]; exact (Int.natCast_mul p m).symm
  have HPE := Lib.hid hpe
  clear hp hb1 hX hpe
  go_enter Tryd.func17, Tryd.ntmps17
  go_wp2_with fail
  rw [← hW1]
  refine HP.out.mono ?_
  rintro e w2 ⟨rfl, hb2⟩
  rw [← HPE.out]
  have HB2 := Lib.hid hb2
  clear hb2
  have key : decide ((p : Int) * (m : Int) ≤ 160) = decide (p * m ≤ 160) := by rw [← Int.natCast_mul]; exact decide_eq_decide.2 (by omega)
  have HKEY := Lib.hid key
  clear key
  go_wp2_with fail
  go_ret
  refine ⟨?_, HB.out.trans (HB2.out.mono HB.out.size)⟩
  show Ending.returned (.bool (decide ((p : Int) * (m : Int) ≤ 160))) = _
  rw [HKEY.out, HPE.out]
theorem small_any (d : Nat) (t : Tr) (cs : List Value) (w : World) (hX : RxV w d t cs) (hW : WF d t) (hL : Lf d t) (hP : places d t ≤ 1000000000) :
    Calls Tryd.prog 23 #[.agg cs.toArray] w fun e w' => e = .returned (.bool (decide (places d t ≤ 5))) ∧ Below w.heap.size w w' := by
  obtain ⟨o1, rv1, mn1, mx1, lz1, sv1, rfl, ⟨ra, rb, rc, rfl⟩, sa, sb, sc, rfl⟩ := hX.form
  obtain ⟨W1, hW1⟩ : ∃ W1, W1 = w.alloc (.cells #[.int .i64 o1, .slice ra rb rc, .int .i64 mn1, .int .i64 mx1, .bool lz1, .bool false, .slice sa sb sc] 35) := ⟨_, rfl⟩
  have hb1 : Below w.heap.size w W1 := by rw [hW1]; exact (Below.refl _ _).alloc (Nat.le_refl _) _
  have hp := places_any d t _ W1 (RxV.below hb1 d t _ hX) hW hL hP
  have HP := Lib.hid hp
  have HB := Lib.hid hb1
  obtain ⟨p, hpe⟩ : ∃ p, p = places d t := ⟨_, rfl⟩
  have HPE := Lib.hid hpe
  clear hp hb1 hX hpe
  go_enter Tryd.func23, Tryd.ntmps23
  go_wp2_with fail
  rw [← hW1]
  refine HP.out.mono ?_
  rintro e w2 ⟨rfl, hb2⟩
  rw [← HPE.out]
  have HB2 := Lib.hid hb2
  clear hb2
  have key : decide ((p : Int) ≤ 5) = decide (p ≤ 5) := decide_eq_decide.2 (by omega)
  have HKEY := Lib.hid key
  clear key
  go_wp2_with fail
  go_ret
  refine ⟨?_, HB.out.trans (HB2.out.mono HB.out.size)⟩
  show Ending.returned (.bool (decide ((p : Int) ≤ 5))) = _
  rw [HKEY.out, HPE.out]
/-- What regexNode answers: a node over a row of parts. -/
theorem node_any (o : Nat) (l : List Tr) (css : List (List Value)) (sv : Value) (d : Nat) (R : Nat → Prop) (w : World) (ho : o < 256) (hl : css.length = l.length) (hs : Reads w sv css.length 7 css.flatten) (hR : ∀ g, sv.ownBlock = some g → R g) (h7 : ∀ c ∈ css, c.length = 7) (hc : css.length ≤ 1000)
    (hsub : ∀ (i : Nat) c s, css[i]? = some c → l[i]? = some s → RxI w R d s c) :
    Calls Tryd.prog 21 #[.int .i64 (o : Int), sv] w fun e w' => ∃ cs : List Value, e = .returned (.agg cs.toArray) ∧ cs.length = 7 ∧ Below w.heap.size w w' ∧ RxI w' R (d + 1) (nod o l) cs := by
  obtain ⟨sa, sc, rfl⟩ := hs.form
  obtain ⟨W9, hW9⟩ : ∃ W9, W9 = w.alloc (.cells #[.int .i64 (o : Int), .slice none 0 0, .int .i64 0, .int .i64 0, .bool false, .bool false, .slice sa css.length sc] 35) := ⟨_, rfl⟩
  have hst : W9.heap[w.heap.size]? = some (.cells #[.int .i64 (o : Int), .slice none 0 0, .int .i64 0, .int .i64 0, .bool false, .bool false, .slice sa css.length sc] 35 (0, 0)) := by rw [hW9]; exact heap_alloc_new w _
  have hbf : Below w.heap.size w W9 := by rw [hW9]; exact (Below.refl _ _).alloc (Nat.le_refl _) _
  have hres : RxI W9 R (d + 1) (nod o l) [.int .i64 (o : Int), .slice none 0 0, .int .i64 0, .int .i64 0, .bool false, .bool false, .slice sa css.length sc] := by
    refine ⟨.slice none 0 0, .slice sa css.length sc, css, rfl, ⟨ho, by simp [nod, Tr.runes], hc⟩, ⟨reads_of_owns (World.ownsRow_nil W9 0 35 1), fun g hg => by simp [Value.ownBlock] at hg⟩, hl, ⟨hs.below hbf, hR⟩, h7, fun i c s h1 h2 => RxI.below hbf d s c (hsub i c s h1 h2)⟩
  have HST := Lib.hid hst
  have HRES := Lib.hid hres
  have HBF := Lib.hid hbf
  have HL := Lib.hid hl
  clear hst hres hbf hs hsub h7 hl hR
  go_enter Tryd.func21, Tryd.ntmps21
  go_wp2_with fail
  try simp only [Exit.inBlock, Exit.then]
  rw [← hW9]
  refine bodyPost_ret (results_cell_row rfl _ _ w.heap.size 35 _ (0, 0) _ rfl HST.out Tryd.underlying35 rfl (by kernel_rfl)) rfl ?_
  exact ⟨_, rfl, rfl, HBF.out, HRES.out⟩
end Go.Proofs.YtnpchkohfomagaaDoor.Rgy
