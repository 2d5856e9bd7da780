/- levenshtein.queryChars: the letters of a query, rising, each with the bits of its places. -/
import Derived.Test.YtanimdajohpggaaDoorAlpha3
import Derived.Test.YtanimdajohpggaaDoorAlpha4
import Derived.Test.YtanimdajohpggaaDoorAlpha5
namespace Go.Proofs.YtanimdajohpggaaDoor.Utf0
open Go.ChangeShapes Go.WideShapes Go.ChangeAt Go.RowKit Go.Trav Go.Utf
set_option linter.unusedVariables false
set_option maxRecDepth 100000
theorem Tryd.info151 : (Tryd.prog.info? 151).map (fun i => (i.zero, i.size, i.bytes)) = some (some (.agg #[.int .i32 0, .slice none 0 0]), 2, 32) := by kernel_rfl
theorem Tryd.info59 : (Tryd.prog.info? 59).map (fun i => (i.zero, i.size, i.bytes)) = some (some (.int .u32 0), 1, 4) := by kernel_rfl
def uV (x : Int) : Value := .int .u32 x
/-- The cells of the sets of letters. -/
def setCells (L : List Int) (fvs : List Value) : List Value := (L.zip fvs).flatMap fun p => [rV p.1, p.2]
/-- The sets made so far. -/
structure Sets (w : World) (base : Nat) (O : Value) (qs L : List Int) (fvs : List Value) : Prop where
  own : w.ownsRow base 151 2 O fvs.length (setCells L fvs)
  fv : ∀ (j : Nat) f x, fvs[j]? = some f → L[j]? = some x → (∃ m, (qs.length ≤ 32 * m ∧ m ≤ 1000000) ∧ Reads w f (m + 1) 1 ((wordsTo qs x (m + 1)).map uV)) ∧ ∀ g, f.ownBlock = some g → O.ownBlock ≠ some g ∧ base ≤ g ∧ g < w.heap.size
theorem Holds.grown {w w' : World} {b : Nat} {l : List Int} (h : Go.Sort.Holds rV w b 0 l.toArray) (hb : Below w.heap.size w w') : ∀ (j : Nat) x, l[j]? = some x → w'.cell? ⟨b, j, none⟩ = some (rV x) := by
  intro j x hx
  have hl := (List.getElem?_eq_some_iff.1 hx).1
  obtain ⟨h1, _⟩ := h j (by simpa using hl)
  rw [Nat.zero_add] at h1
  rw [getElem!_pos l.toArray j (by simpa using hl)] at h1
  simp only [List.getElem_toArray] at h1
  rw [(List.getElem?_eq_some_iff.1 hx).2] at h1
  exact (Mod.of_below (F := fun _ => False) hb).cell h1 (fun h => h)
theorem holds_new (w : World) (l : List Int) (extra : Array Value) (T : TypeId) : Go.Sort.Holds rV (w.alloc (.cells ((l.map rV).toArray ++ extra) T)) w.heap.size 0 l.toArray := by
  intro j hj
  have hj' : j < l.length := by simpa using hj
  refine ⟨?_, block_free (heap_alloc_new w _)⟩
  rw [Nat.zero_add]
  refine block_cell (heap_alloc_new w _) ?_
  rw [Array.getElem?_append_left (by simpa using hj'), getElem!_pos l.toArray j hj]
  simp [hj']
theorem setCells_snoc {L : List Int} {fvs : List Value} {x : Int} {f : Value} (h : L[fvs.length]? = some x) : setCells L (fvs ++ [f]) = setCells L fvs ++ [rV x, f] := by
  have hl := (List.getElem?_eq_some_iff.1 h).1
  unfold setCells
  have e : L.zip (fvs ++ [f]) = L.zip fvs ++ [(x, f)] := by
    conv => lhs; rw [← List.take_append_drop fvs.length L]
    rw [List.zip_append (by rw [List.length_take]; omega), List.drop_eq_getElem_cons hl]
    congr 1
    · conv => rhs; rw [← List.take_append_drop fvs.length L]
      rw [← List.append_nil fvs, List.zip_append (by rw [List.length_take]; simp; omega)]
      simp
    · rw [List.getElem?_eq_getElem hl] at h
      simp [Option.some.inj h]
  rw [e, List.flatMap_append]
  simp
theorem Sets.snoc {wr w5 w6 : World} {base k : Nat} {O O' : Value} {qs L : List Int} {fvs : List Value} {x : Int} {ao5 : Option Addr} {cap5 : Nat} {e' : TypeId} (h : Sets wr base O qs L fvs) (hx : L[fvs.length]? = some x) (hb : Below wr.heap.size wr w5) (hbase : base ≤ wr.heap.size)
    (h5 : w5.ownsRow wr.heap.size 59 1 (.slice ao5 (k + 1) cap5) (k + 1) ((wordsTo qs x (k + 1)).map uV)) (hk : qs.length ≤ 32 * k ∧ k ≤ 1000000)
    (h6 : w6.ownsRow base 151 2 O' (fvs.length + 1) (setCells L fvs ++ [.int .i32 x, .slice ao5 (k + 1) cap5])) (hg : (w5.alloc (.cells #[.int .i32 x, .slice ao5 (k + 1) cap5] e')).grownBy w6 O.ownBlock)
    (hat : O'.ownBlock = O.ownBlock ∨ O'.ownBlock = some (w5.heap.size + 1)) : Sets w6 base O' qs L (fvs ++ [.slice ao5 (k + 1) cap5]) := by
  have hm5 : Mod (fun g => O.ownBlock = some g) w5 w6 := (Mod.alloc (Mod.refl _ _) _).grown hg (fun k hk _ => hk)
  have hm : Mod (fun g => O.ownBlock = some g) wr w6 := (Mod.of_below hb).trans hm5
  have s1 := hb.size
  have s2 := hm5.size
  have hne : ∀ g, g < w5.heap.size → O.ownBlock ≠ some g → O'.ownBlock ≠ some g := fun g h1 h2 => by
    rcases hat with e | e
    · rw [e]; exact h2
    · rw [e]
      intro e2
      cases e2
      omega
  refine ⟨by rw [setCells_snoc hx, List.length_append]; exact h6, fun j f y hf hy => ?_⟩
  by_cases hj : j < fvs.length
  · rw [List.getElem?_append_left hj] at hf
    obtain ⟨⟨m, e1, e2⟩, e3⟩ := h.fv j f y hf hy
    exact ⟨⟨m, e1, e2.mod hm fun g hg => (e3 g hg).1⟩, fun g hg => ⟨hne g (by have := (e3 g hg).2.2; omega) (e3 g hg).1, (e3 g hg).2.1, by have := (e3 g hg).2.2; omega⟩⟩
  · obtain rfl : j = fvs.length := by have := (List.getElem?_eq_some_iff.1 hf).1; simp at this; omega
    rw [List.getElem?_append_right (Nat.le_refl _), Nat.sub_self] at hf
    obtain rfl := Option.some.inj hf
    obtain rfl := Option.some.inj (hx.symm.trans hy)
    have hO : ∀ g, (Value.slice ao5 (k + 1) cap5).ownBlock = some g → O.ownBlock ≠ some g := fun g h1 h2 => by
      have := (h5.lt g h1).1
      have := (h.own.lt g h2).2
      omega
    exact ⟨⟨k, hk, (reads_of_owns h5).mod hm5 hO⟩, fun g hg => ⟨hne g (h5.lt g hg).2 (hO g hg), by have := (h5.lt g hg).1; omega, by have := (h5.lt g hg).2; omega⟩⟩
theorem Sets.mod {F : Nat → Prop} {w w' : World} {base base' : Nat} {O : Value} {qs L : List Int} {fvs : List Value} (h : Sets w base O qs L fvs) (hm : Mod F w w') (hF : ∀ g, F g → g < base) (hb : base' ≤ base) : Sets w' base' O qs L fvs := by
  have hs := hm.size
  refine ⟨ownsRow_mono (ownsRow_mod h.own hm fun g hg hf => by have := (h.own.lt g hg).1; have := hF g hf; omega) hb, fun j f x hf hx => ?_⟩
  obtain ⟨⟨m, e1, e2⟩, e3⟩ := h.fv j f x hf hx
  exact ⟨⟨m, e1, e2.mod hm fun g hg hf2 => by have := (e3 g hg).2.1; have := hF g hf2; omega⟩, fun g hg => ⟨(e3 g hg).1, by have := (e3 g hg).2.1; omega, by have := (e3 g hg).2.2; omega⟩⟩
set_option maxHeartbeats 4000000 in
theorem query_any (s : ByteArray) (qs : List Int) (w : World) (h : IsText (bytesL s) qs) (hs : s.size ≤ 1000000) (hN : Narrow qs.length s.size) (hT : Tabs w) :
    Calls Tryd.prog 60 #[.string s] w fun e w' => ∃ (L : List Int) (O : Value) (fvs : List Value), e = .returned (.agg #[O, .int .u32 0]) ∧ L.Perm (once qs) ∧ L.Pairwise (· ≤ ·) ∧ fvs.length = L.length ∧ Sets w' w.heap.size O qs L fvs ∧ Below w.heap.size w w' := by
  have hd := fun (w : World) (hT : Tabs w) => dedupe_any s qs w h hs hT
  have H := Lib.hid h
  have HT := Lib.hid hT
  have HD := Lib.hid hd
  clear h hT hd
  go_enter Tryd.func60, Tryd.ntmps60
  go_wp2_with fail
  obtain ⟨W1, hW1⟩ : ∃ W1, W1 = w.alloc (.cells #[.slice none 0 0, .int .u32 0] 93) := ⟨_, rfl⟩
  rw [← hW1]
  have hW0 : Below w.heap.size w W1 := by rw [hW1]; exact (Below.refl _ _).alloc (Nat.le_refl _) _
  have hWb : W1.heap[w.heap.size]? = some (.cells #[.slice none 0 0, .int .u32 0] 93 (0, 0)) := by rw [hW1]; exact heap_alloc_new w _
  have hWs : W1.heap.size = w.heap.size + 1 := by rw [hW1]; simp
  clear hW1
  refine (HD.out _ (Tabs.below HT.out hW0)).mono ?_
  rintro e w1 ⟨r, rfl, hr, hb1⟩
  have hrl : r.size ≤ 4000000 := by
    have h1 := text_size (once qs)
    rw [← hr.2, bytesL_size] at h1
    have h2 := once_len qs qs.length
    rw [List.take_of_length_le (Nat.le_refl _)] at h2
    have h3 := text_len H.out
    omega
  have hol : (once qs).length ≤ 1000000 := by
    have h2 := once_len qs qs.length
    rw [List.take_of_length_le (Nat.le_refl _)] at h2
    have h3 := text_len H.out
    omega
  have kc := fun (w : World) => run_runes_of_string (P := Tryd.prog) w 9 53 21 r Tryd.underlying9 Tryd.underlying53 Tryd.underlying21 (by rw [runes_text hr]; simp; omega)
  rw [runes_text hr] at kc
  have HB1 := Lib.hid hb1
  have HR := Lib.hid hr
  clear hb1 hr HD
  go_wp2_with fail
  have hsz0 : ∀ o, (w1.drew.alloc o).heap.size = w1.heap.size + 1 := fun o => by rw [show (w1.drew.alloc o).heap = w1.heap.push o from rfl]; simp
  have hsz1 : W1.heap.size ≤ w1.heap.size := HB1.out.size
  refine (sortRune_any w1.heap.size (once qs).length _ (once qs) _ hol (by rw [hsz0]; omega) rfl (holds_new w1.drew (once qs) _ 21)).mono ?_
  rintro e w2 ⟨rfl, L, hP, hS, hH, hm⟩
  have hLn : L.length = (once qs).length := hP.length_eq
  have hb12 := hm.toBelow (B := W1.heap.size) (by rw [hsz0]; omega) (fun k _ e => by omega)
  have hb02 : Below W1.heap.size W1 w2 := (HB1.out.drew.alloc (by show W1.heap.size ≤ w1.heap.size; omega) _).trans hb12
  have hsz2 : w1.heap.size + 1 ≤ w2.heap.size := by have := hm.size; rwa [hsz0] at this
  have HP := Lib.hid hP
  have HSo := Lib.hid hS
  have HH := Lib.hid hH
  have HB2 := Lib.hid hb02
  clear hP hS hH hm hb12 hb02 hsz0 kc HB1
  generalize (once qs).length = n at *
  have hLx : ∀ (i : Nat) x, L[i]? = some x → w2.cell? ⟨w1.heap.size, i, none⟩ = some (rV x) := Holds.grown HH.out (Below.refl _ _)
  have HLX := Lib.hid hLx
  clear hLx
  generalize w1.heap.size = b at *
  generalize grownCap w1 n 0 21 = cap at *
  obtain ⟨i0, hi, hz0, hz1, hz2⟩ := info_parts Tryd.info151
  go_wp2_with (at_make; refine wpList_make_own _ rfl _ _ 91 rfl w2.heap.size 151 i0 _ 2 Tryd.underlying91 hi hz0 hz1 .i64 .i64 _ n rfl rfl rfl (by rw [hz2]; omega) (by unfold maxLen; omega) (Nat.le_refl _) ?_; intro w3 hown3 hgr3)
  have hb23 : Below w2.heap.size w2 w3 := below_grown (Below.refl _ _) hgr3 (Nat.le_refl _) (fun k h => by cases h)
  have HOW := Lib.hid hown3
  clear hgr3 hown3 hz0 hz1 hz2 hi
  go_loopw [5, 25] (fun ov iv wr => ∃ (O : Value) (i : Nat) (fvs : List Value), O = ov ∧ iv = .int .i64 i ∧ i ≤ n ∧ fvs.length = i ∧ Hid (Sets wr w2.heap.size O qs L fvs) ∧ Below w2.heap.size w2 wr) (fun _ iv _ => n - (intOf iv).toNat)
  case atStart => exact ⟨_, 0, [], rfl, rfl, Nat.zero_le _, rfl, Lib.hid ⟨by simpa [setCells] using HOW.out, fun j f x h => by simp at h⟩, hb23⟩
  case round =>
    obtain ⟨O, i, fvs, e1, rfl, hi, hfl, HS, hb3⟩ := hrel
    subst e1
    by_cases hlt : i < n
    · obtain ⟨x, ex⟩ : ∃ x, L[i]? = some x := ⟨_, List.getElem?_eq_getElem (by omega)⟩
      have cx : wr.cell? ⟨b, i, none⟩ = some (.int .i32 x) := (Mod.of_below (F := fun _ => False) hb3).cell (HLX.out i x ex) (fun h => h)
      have EX := Lib.hid ex
      have HFL := Lib.hid hfl
      clear ex hfl
      go_wp2_with fail
      have hsN := text_len H.out
      go_loopw [8, 9] (fun tv bv w' => ∃ (k : Nat) (t : ByteArray) (B : Value), tv = .string t ∧ B = bv ∧ k + t.size ≤ s.size ∧ Hid (IsText (bytesL t) (qs.drop (32 * k))) ∧ Hid (Narrow (qs.drop (32 * k)).length t.size) ∧ Hid (w'.ownsRow wr.heap.size 59 1 B k ((wordsTo qs x k).map uV)) ∧ Below wr.heap.size wr w') (fun tv _ _ => strLen tv)
      case atStart => exact ⟨0, s, _, rfl, rfl, by omega, Lib.hid (by simpa using H.out), Lib.hid (by simpa using hN), Lib.hid (World.ownsRow_nil _ _ _ _), Below.refl _ _⟩
      case round =>
        obtain ⟨k, t, B, rfl, e2, hkt, H1, H2, H3, hb4⟩ := hrel
        subst e2
        rename World => wk
        by_cases h0 : 0 < t.size
        · have hi1 : (0 : Int) < (t.size : Int) := by omega
          by_cases hz : 32 < t.size
          case' pos =>
            have hi2 : (32 : Int) < (t.size : Int) := by omega
            obtain ⟨g1, g2, g3⟩ := chunk_one H1.out H2.out hz
            have hsz' : (t.extract 32 t.size).size + 32 = t.size := by rw [ByteArray.size_extract]; omega
            rw [List.drop_drop, show 32 * k + 32 = 32 * (k + 1) by omega] at g2 g3
            have G1 := Lib.hid g1
            have G2 := Lib.hid g2
            have G3 := Lib.hid g3
            have hms : (t.extract 32 t.size).size < t.size := by omega
            clear g1 g2 g3 H1 H2 hsz'
            go_wp2_with fail
            generalize t.extract 0 32 = C at *
            generalize t.extract 32 t.size = t' at *
          case' neg =>
            have hi2 : ¬ (32 : Int) < (t.size : Int) := by omega
            obtain ⟨g1, g2, g3⟩ := chunk_all H1.out (by omega)
            have hsz' : ByteArray.empty.size = 0 := rfl
            rw [List.drop_drop, show 32 * k + 32 = 32 * (k + 1) by omega] at g2 g3
            have G1 := Lib.hid g1
            have G2 := Lib.hid g2
            have G3 := Lib.hid g3
            have hms : ByteArray.empty.size < t.size := by omega
            clear g1 g2 g3 H1 H2 hsz'
            go_wp2_with fail
            generalize ByteArray.empty = t' at *
            obtain ⟨C, hC⟩ : ∃ C, C = t := ⟨_, rfl⟩
            subst hC
          all_goals
            have hcl : ((qs.drop (32 * k)).take 32).length ≤ 32 := by rw [List.length_take]; omega
            obtain ⟨cl, hcl0⟩ : ∃ cl, (qs.drop (32 * k)).take 32 = cl := ⟨_, rfl⟩
            have HCL := Lib.hid hcl0
            rw [hcl0] at G1 hcl
            clear hcl0
            go_loopw [11, 12] (fun cv pv wi => ∃ (j a p : Nat), j ≤ cl.length ∧ cv = .int .u32 (a : Int) ∧ pv = .int .u32 (p : Int) ∧ Hid (a = bitsOf x (cl.take j)) ∧ Hid (p = 2 ^ j % 4294967296) ∧ wi = wk.iter C (place cl j)) (fun _ _ wi => C.size - wi.iterPos wk.heap.size)
            case atStart => exact ⟨0, 0, 1, Nat.zero_le _, rfl, rfl, Lib.hid (by simp [bitsOf]), Lib.hid (by simp), rfl⟩
            case round =>
              obtain ⟨j, a, p, hj, rfl, rfl, HA, HPW, rfl⟩ := hrel
              by_cases hjl : j < cl.length
              · obtain ⟨y, ey⟩ : ∃ y, cl[j]? = some y := ⟨_, List.getElem?_eq_getElem hjl⟩
                obtain ⟨d1, d2⟩ := decode_at G1.out ey
                have hly := G1.out.1 y (List.mem_of_getElem? ey)
                have hy0 : ((y.toNat : Nat) : Int) = y := by have := hly.1; omega
                have hnx := fun ty => run_next_any (P := Tryd.prog) wk C (place cl j) ty d2
                rw [d1] at hnx
                simp only [hy0] at hnx
                have hps := place_succ ey
                have hj32 : j < 32 := by omega
                have hA0 : a < 4294967296 := by
                  rw [HA.out]
                  refine Nat.lt_of_lt_of_le (bitsOf_lt x _) ?_
                  calc 2 ^ (cl.take j).length ≤ 2 ^ 32 := Nat.pow_le_pow_right (by omega) (by rw [List.length_take]; omega)
                    _ = 4294967296 := by decide
                have hP0 : p = 2 ^ j := by
                  rw [HPW.out, Nat.mod_eq_of_lt]
                  calc 2 ^ j < 2 ^ 32 := Nat.pow_lt_pow_right (by omega) hj32
                    _ = 4294967296 := by decide
                have hP1 : p < 4294967296 := by rw [HPW.out]; exact Nat.mod_lt _ (by omega)
                have hsn := bitsOf_or x (cl.take j) y
                rw [← take_snoc' _ _ _ ey, List.length_take, Nat.min_eq_left hj, ← HA.out, ← hP0] at hsn
                have hor := u32_or a p hA0 hP1
                have HP0 := Lib.hid hP0
                have HHY := Lib.hid hly
                clear ey hP0 hly HA HPW d1
                by_cases hyx : y = x
                · have hb : (y == x) = true := by simpa using hyx
                  rw [if_pos hyx] at hsn
                  have HSN := Lib.hid hsn
                  clear hyx hsn
                  go_wp2_with fail
                  refine ⟨⟨j + 1, a ||| p, p * 2 % 4294967296, hjl, rfl, congrArg (Value.int .u32) (by omega), Lib.hid HSN.out.symm, Lib.hid (by rw [HP0.out, Nat.pow_succ]), by rw [hps]⟩, ?_⟩
                  rw [World.iterPos_iter, World.iterPos_iter]
                  have := wid_pos y
                  omega
                · have hb : (y == x) = false := by simpa using hyx
                  rw [if_neg hyx] at hsn
                  have HSN := Lib.hid hsn
                  clear hyx hsn
                  go_wp2_with fail
                  refine ⟨⟨j + 1, a, p * 2 % 4294967296, hjl, rfl, congrArg (Value.int .u32) (by omega), Lib.hid HSN.out.symm, Lib.hid (by rw [HP0.out, Nat.pow_succ]), by rw [hps]⟩, ?_⟩
                  rw [World.iterPos_iter, World.iterPos_iter]
                  have := wid_pos y
                  omega
              · obtain rfl : j = cl.length := by omega
                have hpe := place_end G1.out
                have hnx := fun ty => run_next_end (P := Tryd.prog) wk C C.size ty (by omega)
                rw [← hpe] at hnx
                have HAE : Hid ((wordsTo qs x (k + 1)).map uV = (wordsTo qs x k).map uV ++ (#[.int .u32 (a : Int)] : Array Value).toList) := Lib.hid (by
                  rw [wordsTo_succ, HCL.out, List.map_append, HA.out, List.take_length]
                  rfl)
                have hsk := hb4.size
                have HO5 : Hid ((wk.iter C (place cl cl.length)).ownsRow wr.heap.size 59 1 B k ((wordsTo qs x k).map uV)) := Lib.hid (H3.out.alloc _)
                have hb5 : Below wr.heap.size wr (wk.iter C (place cl cl.length)) := hb4.alloc hsk _
                have hsk2 := hb5.size
                clear HA HPW
                generalize wk.iter C (place cl cl.length) = wi at *
                go_wp2_with (at_builtin; refine wpList_append_one rfl (.tmp 56) (.tmp 58) 58 rfl wr.heap.size 59 _ 1 4 Tryd.underlying58 Tryd.info59 rfl (by decide) (by decide) _ _ _ rfl HO5.out #[.int .u32 (a : Int)] _ _ rfl (by simp) rfl (by simp [Value.oneCell']) (by omega) hsk2 ?_; intro ao5 cap5 w5 hown5 hgr5 hat5; have HX := Lib.hid hown5; have hbl5 := below_own hb5 HO5.out _ hgr5 hsk2; clear hown5 hgr5 hat5)
                exact ⟨⟨k + 1, t', _, rfl, rfl, by omega, G2, G3, Lib.hid (by rw [HAE.out]; exact HX.out), hbl5⟩, hms⟩
        · have hz : t.size = 0 := by omega
          have hq0 : qs.length ≤ 32 * k := by
            have := text_len H1.out
            rw [List.length_drop] at this
            omega
          have hi1 : ¬ (0 : Int) < (t.size : Int) := by omega
          have hsk := hb4.size
          have hs23 := hb3.size
          have hkz : k ≤ 1000000 := by omega
          have HAE : Hid ((wordsTo qs x (k + 1)).map uV = (wordsTo qs x k).map uV ++ (#[.int .u32 0] : Array Value).toList) := Lib.hid (by
            rw [wordsTo_end x hq0, List.map_append]
            rfl)
          have HQ0 := Lib.hid (And.intro hq0 hkz)
          clear h0 hz hq0 H1 H2
          go_wp2_with (first
            | (at_builtin; refine wpList_append_one rfl (.tmp 60) (.tmp 61) 58 rfl wr.heap.size 59 _ 1 4 Tryd.underlying58 Tryd.info59 rfl (by decide) (by decide) _ _ _ rfl H3.out #[.int .u32 0] _ _ rfl (by simp) rfl (by simp [Value.oneCell']) (by omega) hsk ?_; intro ao5 cap5 w5 hown5 hgr5 hat5; have HX := Lib.hid hown5; have hbl5 := below_own hb4 H3.out _ hgr5 hsk; clear hown5 hgr5 hat5; have hs5 := hbl5.size; have HO5 := Lib.hid (ownsRow_below HS.out.own hbl5 fun g hg => (HS.out.own.lt g hg).2))
            | (at_builtin; refine wpList_append_one rfl (.tmp 63) (.tmp 67) 91 rfl w2.heap.size 151 _ 2 32 Tryd.underlying91 Tryd.info151 rfl (by decide) (by decide) _ _ _ rfl HO5.out #[.int .i32 x, .slice ao5 (k + 1) cap5] _ _ rfl (by simp) rfl (by simp [Value.oneCell']) (by have := HFL.out; omega) (by omega) ?_; intro ao6 cap6 w6 hown6 hgr6 hat6)
            | go_in)
          have hset := Sets.snoc HS.out (by rw [HFL.out]; exact EX.out) hbl5 hs23 (by rw [HAE.out]; exact HX.out) HQ0.out hown6 hgr6 hat6
          have hb6 := below_own (hb3.trans (hbl5.mono hs23)) HO5.out _ hgr6 (by omega)
          refine ⟨⟨_, i + 1, _, rfl, by go_num, by omega, by rw [List.length_append, HFL.out]; rfl, Lib.hid hset, hb6⟩, ?_⟩
          simp [intOf]
          omega
    · obtain rfl : i = n := by omega
      have hblk : wr.heap[w.heap.size]? = some (.cells #[.slice none 0 0, .int .u32 0] 93 (0, 0)) := block_below (block_below hWb HB2.out (by omega)) hb3 (by omega)
      have c0 := block_cell (i := 0) hblk rfl
      have c1 := block_cell (i := 1) hblk rfl
      have f0 := block_free (i := 0) hblk
      have f1 := block_free (i := 1) hblk
      have HBK := Lib.hid hblk
      obtain ⟨oo, ocap, e9⟩ := ownsRow_form HS.out.own
      have hs1 : ∀ u v, ((wr.setCell ⟨w.heap.size, 0, none⟩ u).setCell ⟨w.heap.size, 1, none⟩ v).heap[w.heap.size]? = some (.cells #[u, v] 93 (0, 0)) := fun u v => by
        have h1 := block_set (i := 1) (u := v) (block_set (i := 0) (u := u) HBK.out)
        exact h1
      have HS1 := Lib.hid (hs1 (.slice oo fvs.length ocap) (.int .u32 0))
      clear hs1 hblk
      have hmm : Mod (fun k => k = w.heap.size) wr ((wr.setCell ⟨w.heap.size, 0, none⟩ (.slice oo fvs.length ocap)).setCell ⟨w.heap.size, 1, none⟩ (.int .u32 0)) := ((Mod.refl (fun k => k = w.heap.size) wr).setCell (p := ⟨w.heap.size, 0, none⟩) (fun _ => rfl) _).setCell (p := ⟨w.heap.size, 1, none⟩) (fun _ => rfl) _
      have hss := hb3.size
      have hset := HS.out.mod hmm (fun g hg => by omega) (base' := w.heap.size) (by omega)
      have hbf : Below w.heap.size w ((wr.setCell ⟨w.heap.size, 0, none⟩ (.slice oo fvs.length ocap)).setCell ⟨w.heap.size, 1, none⟩ (.int .u32 0)) := ((hW0.trans (HB2.out.mono (by omega))).trans (hb3.mono (by omega))).trans (hmm.toBelow (by omega) (fun k _ e => by omega))
      have HSET := Lib.hid hset
      have HBF := Lib.hid hbf
      clear hset hbf hmm
      subst e9
      go_wp2_with fail
      try simp only [Exit.inBlock, Exit.then]
      subst hfl
      refine bodyPost_ret (results_cell_row rfl _ _ w.heap.size 93 _ (0, 0) _ rfl HS1.out Tryd.underlying93 rfl (by kernel_rfl)) rfl ?_
      exact ⟨L, _, fvs, rfl, HP.out, HSo.out, hLn.symm, HSET.out, HBF.out⟩
end Go.Proofs.YtanimdajohpggaaDoor.Utf0
