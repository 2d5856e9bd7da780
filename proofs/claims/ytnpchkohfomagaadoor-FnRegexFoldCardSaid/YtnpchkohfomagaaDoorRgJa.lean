/- Places of the trees of FnRegexTimes: plain. (and what follows) -/
import Derived.Test.YtnpchkohfomagaaDoorRgPb
import Derived.Test.YtnpchkohfomagaaDoorRgHb
import Derived.Test.YtnpchkohfomagaaDoorRgJ5
import Derived.Deep.QuietTactic
import Derived.BigQuiet
import Derived.Test.YtnpchkohfomagaaDoorRgEa
/-! Places of the trees of FnRegexTimes: plain. -/
namespace Go.Rg
open Go.Utf
set_option linter.unusedVariables false
set_option linter.unusedSimpArgs false
theorem places_node (d o : Nat) (mn mx : Int) (l : List Tr) (h : 13 ≤ o) : places (d + 1) (.mk o false false [] mn mx l) = (if o = 17 then (l.map (places d)).sum * ((max mn mx).toNat + 1) else if o = 15 then (l.map (places d)).sum * 2 else (l.map (places d)).sum) := by
  have e : places (d + 1) (.mk o false false [] mn mx l) = (if o = 2 then 0 else if o = 3 then (List.map wid ([] : List Int)).sum else if o = 4 ∨ o = 5 ∨ o = 6 then ((prs (rsOf (.mk o false false [] mn mx l))).map fun q => rngN q.2).sum
    else if o = 17 then (l.map (places d)).sum * ((max mn mx).toNat + 1) else if o = 15 then (l.map (places d)).sum * 2 else (l.map (places d)).sum) := rfl
  rw [e, if_neg (by omega), if_neg (by omega), if_neg (by omega)]
theorem pb_one {d m : Nat} {x : Tr} (o : Nat) (h : places d x ≤ m) (h1 : 13 ≤ o) (h2 : o ≤ 16) : places (d + 1) (nod o [x]) ≤ 2 * m := by
  rw [nod, places_node _ _ _ _ _ h1]
  simp only [List.map_cons, List.map_nil, List.sum_cons, List.sum_nil]
  rw [if_neg (by omega)]
  split <;> omega
theorem pb_rep {d m : Nat} {x : Tr} (mn mx : Int) (h : places d x ≤ m) (h1 : 0 ≤ mn) (h2 : mn ≤ 3) (h3 : mx ≤ 5) : places (d + 1) (rep mn mx x) ≤ 6 * m := by
  rw [rep, places_node _ _ _ _ _ (by omega)]
  simp only [List.map_cons, List.map_nil, List.sum_cons, List.sum_nil, Nat.add_zero]
  rw [if_pos trivial]
  have g : (max mn mx).toNat + 1 ≤ 6 := by omega
  have := Nat.mul_le_mul h g
  omega
theorem pb_many {d m : Nat} {l : List Tr} (o : Nat) (h : ∀ x ∈ l, places d x ≤ m) (h1 : o = 18 ∨ o = 19) : places (d + 1) (nod o l) ≤ l.length * m := by
  rw [nod, places_node _ _ _ _ _ (by omega), if_neg (by omega), if_neg (by omega)]
  exact sum_cap (places d) m l h
/-- Two trees of the same words, of few places. -/
structure AlikeP (A B : Tr) : Prop where
  al : Alike 6 A B
  pa : places 6 A ≤ 1000000
  pb : places 6 B ≤ 1000000
section
variable {a : Tr} (h : Fine 4 11000 a) (hp : places 4 a ≤ 1000)
include h hp
theorem p5 : places 5 a ≤ 1000 := by rw [h.places]; exact hp
theorem p6 : places 6 a ≤ 1000 := by rw [h.up.places, h.places]; exact hp
theorem timesP_star : AlikeP (nod 14 [a]) (nod 14 [nod 14 [a]]) :=
  ⟨times_star h, Nat.le_trans (pb_one 14 (p5 h hp) (by omega) (by omega)) (by omega), Nat.le_trans (pb_one 14 (pb_one 14 hp (by omega) (by omega)) (by omega) (by omega)) (by omega)⟩
theorem timesP_plus : AlikeP (nod 15 [a]) (nod 18 [a, nod 14 [a]]) := by
  refine ⟨times_plus h, Nat.le_trans (pb_one 15 (p5 h hp) (by omega) (by omega)) (by omega), ?_⟩
  refine Nat.le_trans (pb_many (m := 2000) 18 (fun x hx => ?_) (Or.inl rfl)) (by simp)
  simp at hx
  rcases hx with rfl | rfl
  · have := p5 h hp; omega
  · have := pb_one 14 hp (by omega) (by omega); omega
theorem timesP_quest : AlikeP (nod 16 [a]) (nod 19 [a, emp]) := by
  refine ⟨times_quest h, Nat.le_trans (pb_one 16 (p5 h hp) (by omega) (by omega)) (by omega), ?_⟩
  refine Nat.le_trans (pb_many (m := 2000) 19 (fun x hx => ?_) (Or.inr rfl)) (by simp)
  simp at hx
  rcases hx with rfl | rfl
  · have := p5 h hp; omega
  · have e : places 5 emp = 0 := rfl
    omega
theorem timesP_cap : AlikeP (nod 13 [a]) a :=
  ⟨times_cap h, Nat.le_trans (pb_one 13 (p5 h hp) (by omega) (by omega)) (by omega), Nat.le_trans (p6 h hp) (by omega)⟩
theorem timesP_rep (n m : Nat) (hn : n ≤ 3) (hm : 1 ≤ n + m) (hm2 : n + m ≤ 5) : AlikeP (rep n ((n + m : Nat) : Int) a) (nod 18 (List.replicate n a ++ List.replicate m (nod 16 [a]))) := by
  refine ⟨times_rep h n m hn hm hm2, Nat.le_trans (pb_rep _ _ (p5 h hp) (by omega) (by omega) (by omega)) (by omega), ?_⟩
  refine Nat.le_trans (pb_many (m := 2000) 18 (fun x hx => ?_) (Or.inl rfl)) (by simp; omega)
  rcases List.mem_append.1 hx with hx | hx
  · rw [(List.mem_replicate.1 hx).2]; have := p5 h hp; omega
  · rw [(List.mem_replicate.1 hx).2]; have := pb_one 16 hp (by omega) (by omega); omega
theorem timesP_ever (n : Nat) (hn : n ≤ 3) : AlikeP (rep n (-1) a) (nod 18 (List.replicate n a ++ [nod 14 [a]])) := by
  refine ⟨times_ever h n hn, Nat.le_trans (pb_rep _ _ (p5 h hp) (by omega) (by omega) (by omega)) (by omega), ?_⟩
  refine Nat.le_trans (pb_many (m := 2000) 18 (fun x hx => ?_) (Or.inl rfl)) (by simp; omega)
  rcases List.mem_append.1 hx with hx | hx
  · rw [(List.mem_replicate.1 hx).2]; have := p5 h hp; omega
  · simp at hx; subst hx; have := pb_one 14 hp (by omega) (by omega); omega
end
end Go.Rg
/-! The statements' regexPath and regexAlike. -/
namespace Go.Proofs.YtnpchkohfomagaaDoor.Rgy
open Go.ChangeShapes Go.WideShapes Go.ChangeAt Go.RowKit Go.Trav Go.Rg Go.Utf Go.Proofs.YtnpchkohfomagaaDoor.Seq Go.Proofs.YtnpchkohfomagaaDoor.Sparse Go.Proofs.YtnpchkohfomagaaDoor.Rgw
set_option linter.unusedVariables false
set_option linter.unusedSimpArgs false
set_option maxRecDepth 100000
theorem cells7' {W : World} {b : Nat} {c0 c1 c2 c3 c4 c5 c6 : Value} {T : TypeId} (h : W.heap[b]? = some (.cells #[c0, c1, c2, c3, c4, c5, c6] T (0, 0))) : (W.cell? ⟨b, 0, none⟩ = some c0 ∧ W.cell? ⟨b, 1, none⟩ = some c1 ∧ W.cell? ⟨b, 2, none⟩ = some c2 ∧ W.cell? ⟨b, 3, none⟩ = some c3 ∧ W.cell? ⟨b, 4, none⟩ = some c4 ∧ W.cell? ⟨b, 5, none⟩ = some c5 ∧ W.cell? ⟨b, 6, none⟩ = some c6) ∧ W.frozen? ⟨b, 0, none⟩ = false ∧ W.frozen? ⟨b, 1, none⟩ = false ∧ W.frozen? ⟨b, 2, none⟩ = false ∧ W.frozen? ⟨b, 3, none⟩ = false ∧ W.frozen? ⟨b, 4, none⟩ = false ∧ W.frozen? ⟨b, 5, none⟩ = false ∧ W.frozen? ⟨b, 6, none⟩ = false :=
  ⟨⟨block_cell h rfl, block_cell h rfl, block_cell h rfl, block_cell h rfl, block_cell h rfl, block_cell h rfl, block_cell h rfl⟩, block_free h, block_free h, block_free h, block_free h, block_free h, block_free h, block_free h⟩
/-- The bytes of a text. -/
def bys (s : ByteArray) : List Nat := s.data.toList.map UInt8.toNat
theorem bys_len (s : ByteArray) : (bys s).length = s.size := by unfold bys; rw [List.length_map, Array.length_toList]; rfl
/-- What regexPath answers. -/
def PPost (d : Nat) (t : Tr) (s : ByteArray) (w : World) (e : Ending) (w' : World) : Prop := Below w.heap.size w w' ∧
  ((∃ (v1 v2 : Value) (ms cs : List Bool), e = .returned (.tuple #[v1, v2, .bool true]) ∧ Reads w' v1 (s.size + 1) 1 (ms.map Value.bool) ∧ Reads w' v2 (s.size + 1) 1 (cs.map Value.bool) ∧
      ∀ i, i ≤ s.size → (∃ b, ms[i]? = some b ∧ (b = true ↔ lang d t ((bys s).take i))) ∧ (∃ b, cs[i]? = some b ∧ (b = true ↔ ∃ u, lang d t ((bys s).take i ++ u)))) ∨
    (e = .returned (.tuple #[.slice none 0 0, .slice none 0 0, .bool false]) ∧ 5 < places d t))
theorem rows_say {d : Nat} {t : Tr} {c : List In} {s : ByteArray} (h : Ok (lang d t) (places d t) (size d t) 0 c) (i : Nat) (hi : i ≤ s.size) :
    (∃ b, ((List.range (s.size + 1)).map (wantM (c ++ [In.fin]) (bys s)))[i]? = some b ∧ (b = true ↔ lang d t ((bys s).take i))) ∧ (∃ b, ((List.range (s.size + 1)).map (wantC (c ++ [In.fin]) (bys s)))[i]? = some b ∧ (b = true ↔ ∃ u, lang d t ((bys s).take i ++ u))) := by
  have hl := bys_len s
  refine ⟨⟨wantM (c ++ [In.fin]) (bys s) i, ?_, ?_⟩, ⟨wantC (c ++ [In.fin]) (bys s) i, ?_, ?_⟩⟩
  · rw [List.getElem?_map, List.getElem?_range (by omega)]; rfl
  · exact h.isM (bys s) i (by omega)
  · rw [List.getElem?_map, List.getElem?_range (by omega)]; rfl
  · unfold wantC
    rw [Bool.not_eq_true']
    exact h.can (bys s) i (by omega)
theorem rpath_any (ad : Nat → Addr) (d : Nat) (t : Tr) (cs : List Value) (s : ByteArray) (w : World) (hX : RxV w d t cs) (hW : WF d t) (hB : bad d t = none) (hE : Laid w ad) (hl : size d t ≤ 262144) (hss : s.size ≤ 1000) :
    Calls Tryd.prog 22 #[.agg cs.toArray, .string s] w (PPost d t s w) := by
  obtain ⟨o1, rv1, mn1, mx1, lz1, sv1, rfl, ⟨ra, rb, rc, rfl⟩, sa, sb, sc, rfl⟩ := hX.form
  obtain ⟨W1, hW1⟩ : ∃ W1, W1 = w.alloc (.cells #[.int .i64 o1, .slice ra rb rc, .int .i64 mn1, .int .i64 mx1, .bool lz1, .bool false, .slice sa sb sc] 35) := ⟨_, rfl⟩
  have hb1 : Below w.heap.size w W1 := by rw [hW1]; exact (Below.refl _ _).alloc (Nat.le_refl _) _
  have hE1 := hE.below hb1
  have hp := rxp_any ad d t _ s W1 (RxV.below hb1 d t _ hX) hW hE1.env hE1.errs hE1.h5b (by omega) hss
  have HP := Lib.hid hp
  have HB := Lib.hid hb1
  have HX := Lib.hid (And.intro hB hl)
  clear hp hb1 hX hE hE1 hB hl hW
  go_enter Tryd.func22, Tryd.ntmps22
  go_wp2_with fail
  rw [← hW1]
  refine HP.out.mono ?_
  rintro e w2 ⟨hb2, ⟨v1, v2, v3, c, rfl, hbad, hok, hr1, hr2, hr3⟩ | ⟨k, rfl, hk⟩⟩
  · have HR := Lib.hid (And.intro hok (And.intro hr1 (And.intro hr2 hb2)))
    clear hok hr1 hr2 hr3 hb2 hbad
    go_wp2_with fail
    refine bodyPost_ret (v := .tuple #[v1, v2, .bool true]) (by simp [results, Tryd.results22, go_sem]) rfl ?_
    obtain ⟨hok, hr1, hr2, hb2⟩ := HR.out
    exact ⟨HB.out.trans (hb2.mono HB.out.size), Or.inl ⟨v1, v2, _, _, rfl, hr1, hr2, fun i hi => rows_say hok i hi⟩⟩
  · have hk5 : k = 5 ∧ 5 < places d t := by
      rcases hk with h | ⟨_, h⟩ | ⟨h, _, h2⟩
      · rw [HX.out.1] at h; cases h
      · have := HX.out.2; omega
      · exact ⟨h, h2⟩
    obtain ⟨rfl, hpl⟩ := hk5
    have HR := Lib.hid (And.intro hpl hb2)
    clear hpl hb2 hk
    go_wp2_with fail
    refine bodyPost_ret (v := .tuple #[.slice none 0 0, .slice none 0 0, .bool false]) (by simp [results, Tryd.results22, go_sem]) rfl ?_
    exact ⟨HB.out.trans (HR.out.2.mono HB.out.size), Or.inr ⟨rfl, HR.out.1⟩⟩
theorem bool_same {P Q : Prop} {a b : Bool} (h : a = true ↔ P) (k : b = true ↔ Q) (e : P ↔ Q) : a = b := by
  cases a <;> cases b <;> simp_all
set_option maxHeartbeats 4000000 in
theorem alike_any (ad : Nat → Addr) (A B : Tr) (csA csB : List Value) (s : ByteArray) (w : World) (hA : RxV w 6 A csA) (hB : RxV w 6 B csB) (h : AlikeP A B) (hE : Laid w ad) (hss : s.size ≤ 1000) :
    Calls Tryd.prog 30 #[.agg csA.toArray, .agg csB.toArray, .string s] w fun e w' => e = .returned (.bool true) ∧ Below w.heap.size w w' := by
  obtain ⟨o1, rv1, mn1, mx1, lz1, sv1, rfl, ⟨ra, rb, rc, rfl⟩, sa, sb, sc, rfl⟩ := hA.form
  obtain ⟨o2, rv2, mn2, mx2, lz2, sv2, rfl, ⟨ra2, rb2, rc2, rfl⟩, sa2, sb2, sc2, rfl⟩ := hB.form
  obtain ⟨W2, hW2⟩ : ∃ W2, W2 = (w.alloc (.cells #[.int .i64 o1, .slice ra rb rc, .int .i64 mn1, .int .i64 mx1, .bool lz1, .bool false, .slice sa sb sc] 35)).alloc (.cells #[.int .i64 o2, .slice ra2 rb2 rc2, .int .i64 mn2, .int .i64 mx2, .bool lz2, .bool false, .slice sa2 sb2 sc2] 35) := ⟨_, rfl⟩
  have hb1 : Below w.heap.size w W2 := by rw [hW2]; exact ((Below.refl _ _).alloc (Nat.le_refl _) _).alloc (by simp) _
  have b0 : W2.heap[w.heap.size]? = some (.cells #[.int .i64 o1, .slice ra rb rc, .int .i64 mn1, .int .i64 mx1, .bool lz1, .bool false, .slice sa sb sc] 35 (0, 0)) := by rw [hW2]; exact block_alloc (heap_alloc_new w _)
  have b1 : W2.heap[w.heap.size + 1]? = some (.cells #[.int .i64 o2, .slice ra2 rb2 rc2, .int .i64 mn2, .int .i64 mx2, .bool lz2, .bool false, .slice sa2 sb2 sc2] 35 (0, 0)) := by
    have h := heap_alloc_new (w.alloc (.cells #[.int .i64 o1, .slice ra rb rc, .int .i64 mn1, .int .i64 mx1, .bool lz1, .bool false, .slice sa sb sc] 35)) (.cells #[.int .i64 o2, .slice ra2 rb2 rc2, .int .i64 mn2, .int .i64 mx2, .bool lz2, .bool false, .slice sa2 sb2 sc2] 35)
    rw [hW2]; simpa using h
  have hE2 := hE.below hb1
  have hcA := fun (W : World) (hb : Below W2.heap.size W2 W) => rpath_any ad 6 A _ s W (RxV.below (hb1.trans (hb.mono hb1.size)) 6 A _ hA) h.al.fa.wf h.al.fa.bd (hE2.below hb) h.al.fa.sz hss
  have hcB := fun (W : World) (hb : Below W2.heap.size W2 W) => rpath_any ad 6 B _ s W (RxV.below (hb1.trans (hb.mono hb1.size)) 6 B _ hB) h.al.fb.wf h.al.fb.bd (hE2.below hb) h.al.fb.sz hss
  have hsA := fun (W : World) (hb : Below W2.heap.size W2 W) => small_any 6 A _ W (RxV.below (hb1.trans (hb.mono hb1.size)) 6 A _ hA) h.al.fa.wf h.al.fa.lf (Nat.le_trans h.pa (by omega))
  have hsB := fun (W : World) (hb : Below W2.heap.size W2 W) => small_any 6 B _ W (RxV.below (hb1.trans (hb.mono hb1.size)) 6 B _ hB) h.al.fb.wf h.al.fb.lf (Nat.le_trans h.pb (by omega))
  have hkA := fun (W : World) (hb : Below W2.heap.size W2 W) => cells7' ((Mod.of_below (F := fun _ => False) hb).heap b0 (fun h => h))
  have hkB := fun (W : World) (hb : Below W2.heap.size W2 W) => cells7' ((Mod.of_below (F := fun _ => False) hb).heap b1 (fun h => h))
  have HCA := Lib.hid hcA
  have HCB := Lib.hid hcB
  have HSA := Lib.hid hsA
  have HSB := Lib.hid hsB
  have HKA := Lib.hid hkA
  have HKB := Lib.hid hkB
  have HB1 := Lib.hid hb1
  have HEQ := Lib.hid h.al.eq
  clear hcA hcB hsA hsB hkA hkB hb1 b0 b1 hE hE2 h hA hB
  go_enter Tryd.func30, Tryd.ntmps30
  go_wp2_with fail
  rw [← hW2]
  clear hW2
  refine (HCA.out W2 (Below.refl _ _)).mono ?_
  rintro e w3 ⟨hb3, hres3⟩
  obtain ⟨⟨y0, y1, y2, y3, y4, y5, y6⟩, _⟩ := HKB.out w3 hb3
  have HB3 := Lib.hid hb3
  clear hb3
  rcases hres3 with ⟨v1, v2, ms, cs, rfl, hr1, hr2, hsay⟩ | ⟨rfl, hpl⟩
  · obtain ⟨m1, c1, rfl⟩ := hr1.form
    obtain ⟨m2, c2, rfl⟩ := hr2.form
    have HR := Lib.hid (And.intro hr1 (And.intro hr2 hsay))
    clear hr1 hr2 hsay
    go_wp2_with fail
    refine (HCB.out w3 HB3.out).mono ?_
    rintro e w4 ⟨hb4, hres4⟩
    have HB4 := Lib.hid (HB3.out.trans (hb4.mono HB3.out.size))
    have HR4 := Lib.hid (And.intro (HR.out.1.below hb4) (And.intro (HR.out.2.1.below hb4) HR.out.2.2))
    clear hb4 HR y0 y1 y2 y3 y4 y5 y6
    rcases hres4 with ⟨v3, v4, ms', cs', rfl, hr3, hr4, hsay'⟩ | ⟨rfl, hpl⟩
    · obtain ⟨m3, c3, rfl⟩ := hr3.form
      obtain ⟨m4, c4, rfl⟩ := hr4.form
      have HQ := Lib.hid (And.intro hr3 (And.intro hr4 hsay'))
      clear hr3 hr4 hsay'
      go_wp2_with fail
      go_loopw [13] (fun iv wr => ∃ k : Nat, iv = .int .i64 k ∧ k ≤ s.size + 1 ∧ Hid (Below w4.heap.size w4 wr)) (fun iv _ => s.size + 1 - (intOf iv).toNat)
      case atStart => exact ⟨0, rfl, Nat.zero_le _, Lib.hid (Below.refl _ _)⟩
      case round =>
        obtain ⟨k, rfl, hk, HBW⟩ := hrel
        by_cases hlt : k ≤ s.size
        · obtain ⟨⟨z1, za, zb⟩, ⟨z2, zc, zd⟩⟩ := HR4.out.2.2 k hlt
          obtain ⟨⟨z3, ze, zf⟩, ⟨z4, zg, zh⟩⟩ := HQ.out.2.2 k hlt
          have e13 : z1 = z3 := bool_same zb zf (HEQ.out _)
          have e24 : z2 = z4 := bool_same zd zh ⟨fun ⟨u, hu⟩ => ⟨u, (HEQ.out _).mp hu⟩, fun ⟨u, hu⟩ => ⟨u, (HEQ.out _).mpr hu⟩⟩
          subst e13 e24
          obtain ⟨d1, d2, d3, q1, e1, x1, u1⟩ := Reads.one Value.bool (HR4.out.1.below HBW.out) (k := k) (by omega)
          obtain ⟨f1, f2, f3, q2, e2, x2, u2⟩ := Reads.one Value.bool (HR4.out.2.1.below HBW.out) (k := k) (by omega)
          obtain ⟨g1, g2, g3, q3, e3, x3, u3⟩ := Reads.one Value.bool (HQ.out.1.below HBW.out) (k := k) (by omega)
          obtain ⟨i1, i2, i3, q4, e4, x4, u4⟩ := Reads.one Value.bool (HQ.out.2.1.below HBW.out) (k := k) (by omega)
          obtain rfl : q1 = z1 := Option.some.inj (x1.symm.trans za)
          obtain rfl : q2 = z2 := Option.some.inj (x2.symm.trans zc)
          obtain rfl : q3 = q1 := Option.some.inj (x3.symm.trans ze)
          obtain rfl : q4 = q2 := Option.some.inj (x4.symm.trans zg)
          cases e1
          cases e2
          cases e3
          cases e4
          clear x1 x2 x3 x4 za zb zc zd ze zf zg zh
          go_wp2_with fail
          go_quiet (fail)
          go_wp2_with fail
          go_roundw
          case rel => exact ⟨k + 1, by go_num, by omega, Lib.hid (below_drewN HBW.out _)⟩
          case measure => simp [intOf]; omega
        · obtain rfl : k = s.size + 1 := by omega
          go_wp2_with fail
          go_ret
          exact ⟨rfl, (HB1.out.trans (HB4.out.mono HB1.out.size)).trans (HBW.out.mono (by have := HB4.out.size; have := HB1.out.size; omega))⟩
    · have hs := HSB.out w4 HB4.out
      rw [decide_eq_false (show ¬ places 6 B ≤ 5 by omega)] at hs
      obtain ⟨⟨y0, y1, y2, y3, y4, y5, y6⟩, _⟩ := HKB.out w4 HB4.out
      have HS := Lib.hid hs
      clear hs hpl
      go_wp2_with fail
      refine HS.out.mono ?_
      rintro e w5 ⟨rfl, hb5⟩
      have HB5 := Lib.hid hb5
      clear hb5
      go_wp2_with fail
      go_ret
      exact ⟨rfl, (HB1.out.trans (HB4.out.mono HB1.out.size)).trans (HB5.out.mono (by have := HB4.out.size; have := HB1.out.size; omega))⟩
  · have hs := fun (W : World) (hb : Below W2.heap.size W2 W) => HSA.out W hb
    rw [decide_eq_false (show ¬ places 6 A ≤ 5 by omega)] at hs
    have HS := Lib.hid hs
    clear hs hpl
    go_wp2_with fail
    refine (HCB.out w3 HB3.out).mono ?_
    rintro e w4 ⟨hb4, hres4⟩
    have HB4 := Lib.hid (HB3.out.trans (hb4.mono HB3.out.size))
    clear hb4 y0 y1 y2 y3 y4 y5 y6
    obtain ⟨⟨y0, y1, y2, y3, y4, y5, y6⟩, _⟩ := HKA.out w4 HB4.out
    rcases hres4 with ⟨v3, v4, ms', cs', rfl, hr3, hr4, hsay'⟩ | ⟨rfl, hpl⟩
    · obtain ⟨m3, c3, rfl⟩ := hr3.form
      obtain ⟨m4, c4, rfl⟩ := hr4.form
      clear hr3 hr4 hsay'
      go_wp2_with fail
      refine (HS.out w4 HB4.out).mono ?_
      rintro e w5 ⟨rfl, hb5⟩
      have HB5 := Lib.hid hb5
      clear hb5
      go_wp2_with fail
      go_ret
      exact ⟨rfl, (HB1.out.trans (HB4.out.mono HB1.out.size)).trans (HB5.out.mono (by have := HB4.out.size; have := HB1.out.size; omega))⟩
    · have hs := fun (W : World) (hb : Below W2.heap.size W2 W) => HSB.out W hb
      rw [decide_eq_false (show ¬ places 6 B ≤ 5 by omega)] at hs
      have HS2 := Lib.hid hs
      clear hs hpl
      go_wp2_with fail
      refine (HS.out w4 HB4.out).mono ?_
      rintro e w5 ⟨rfl, hb5⟩
      have HB5 := Lib.hid (HB4.out.trans (hb5.mono HB4.out.size))
      clear hb5 y0 y1 y2 y3 y4 y5 y6
      obtain ⟨⟨y0, y1, y2, y3, y4, y5, y6⟩, _⟩ := HKB.out w5 HB5.out
      go_wp2_with fail
      refine (HS2.out w5 HB5.out).mono ?_
      rintro e w6 ⟨rfl, hb6⟩
      have HB6 := Lib.hid hb6
      clear hb6
      go_wp2_with fail
      go_ret
      exact ⟨rfl, (HB1.out.trans (HB5.out.mono HB1.out.size)).trans (HB6.out.mono (by have := HB5.out.size; have := HB1.out.size; omega))⟩
end Go.Proofs.YtnpchkohfomagaaDoor.Rgy
/-! Nodes of trees in memory, for FnRegexEither and FnRegexTimes. -/
namespace Go.Proofs.YtnpchkohfomagaaDoor.Rgy
open Go.ChangeShapes Go.WideShapes Go.ChangeAt Go.RowKit Go.Trav Go.Rg Go.Utf Go.Proofs.YtnpchkohfomagaaDoor.Seq Go.Proofs.YtnpchkohfomagaaDoor.Sparse Go.Proofs.YtnpchkohfomagaaDoor.Rgw
set_option linter.unusedVariables false
set_option linter.unusedSimpArgs false
set_option maxRecDepth 100000
/-- regexNode: a struct of its own arguments. -/
theorem node_pure (o : Int) (sa : Option Addr) (n sc : Nat) (w : World) :
    Calls Tryd.prog 21 #[.int .i64 o, .slice sa n sc] w fun e w' => e = .returned (.agg #[.int .i64 o, .slice none 0 0, .int .i64 0, .int .i64 0, .bool false, .bool false, .slice sa n sc]) ∧ Below w.heap.size w w' := by
  obtain ⟨W9, hW9⟩ : ∃ W9, W9 = w.alloc (.cells #[.int .i64 o, .slice none 0 0, .int .i64 0, .int .i64 0, .bool false, .bool false, .slice sa n sc] 35) := ⟨_, rfl⟩
  have hst : W9.heap[w.heap.size]? = some (.cells #[.int .i64 o, .slice none 0 0, .int .i64 0, .int .i64 0, .bool false, .bool false, .slice sa n sc] 35 (0, 0)) := by rw [hW9]; exact heap_alloc_new w _
  have hbf : Below w.heap.size w W9 := by rw [hW9]; exact (Below.refl _ _).alloc (Nat.le_refl _) _
  have HST := Lib.hid hst
  have HBF := Lib.hid hbf
  clear hst hbf
  go_enter Tryd.func21, Tryd.ntmps21
  go_wp2_with fail
  try simp only [Exit.inBlock, Exit.then]
  rw [← hW9]
  refine bodyPost_ret (results_cell_row rfl _ _ w.heap.size 35 _ (0, 0) _ rfl HST.out Tryd.underlying35 rfl (by kernel_rfl)) rfl ?_
  exact ⟨rfl, HBF.out⟩
theorem RxV.up {w : World} : ∀ (d : Nat) (t : Tr) (cs : List Value), RxV w d t cs → RxV w (d + 1) t cs := by
  intro d
  induction d with
  | zero => intro t cs h; exact h.elim
  | succ d ih =>
    rintro t cs ⟨rv, sv, css, h1, h0, h2, h3, h4, h5, h6⟩
    exact ⟨rv, sv, css, h1, h0, h2, h3, h4, h5, fun i c s hc hs => ih s c (h6 i c s hc hs)⟩
/-- A node over a row of parts. -/
theorem rvn {W : World} {d : Nat} {l : List Tr} {css : List (List Value)} {o : Nat} {mn mx : Int} {sv : Value} (ho : o < 256) (hs : Reads W sv css.length 7 css.flatten) (hl : css.length = l.length) (hc : css.length ≤ 1000) (h7 : ∀ c ∈ css, c.length = 7)
    (hsub : ∀ (i : Nat) c s, css[i]? = some c → l[i]? = some s → RxV W d s c) : RxV W (d + 1) (.mk o false false [] mn mx l) [.int .i64 (o : Int), .slice none 0 0, .int .i64 mn, .int .i64 mx, .bool false, .bool false, sv] :=
  ⟨.slice none 0 0, sv, css, rfl, ⟨ho, by simp [Tr.runes], hc⟩, reads_of_owns (World.ownsRow_nil W 0 35 1), hl, hs, h7, hsub⟩
theorem reads_block {W : World} {b n : Nat} {xs : List Value} {T : TypeId} (h : W.heap[b]? = some (.cells xs.toArray T (0, 0))) (hn : xs.length = n * 7) (hm : n ≤ 1000) : Reads W (.slice (some ⟨b, 0, none⟩) n n) n 7 xs :=
  ⟨some ⟨b, 0, none⟩, n, rfl, Nat.le_refl _, by unfold maxLen; omega, fun h => by simp at h, hn, fun _ => ⟨b, 0, rfl, fun j u hj => block_cell h (by rw [Nat.zero_add]; simpa using hj)⟩⟩
theorem rv1 {W : World} {d : Nat} {t : Tr} {o b : Nat} {mn mx : Int} {c0 c1 c2 c3 c4 c5 c6 : Value} {T : TypeId} (ho : o < 256) (hb : W.heap[b]? = some (.cells #[c0, c1, c2, c3, c4, c5, c6] T (0, 0))) (hr : RxV W d t [c0, c1, c2, c3, c4, c5, c6]) :
    RxV W (d + 1) (.mk o false false [] mn mx [t]) [.int .i64 (o : Int), .slice none 0 0, .int .i64 mn, .int .i64 mx, .bool false, .bool false, .slice (some ⟨b, 0, none⟩) 1 1] := by
  refine rvn (css := [[c0, c1, c2, c3, c4, c5, c6]]) ho ?_ rfl (by simp) (fun c hc => ?_) fun i c s h1 h2 => ?_
  · exact reads_block (xs := [c0, c1, c2, c3, c4, c5, c6]) hb rfl (by omega)
  · simp at hc; subst hc; rfl
  · match i, h1, h2 with
    | 0, h1, h2 =>
      obtain rfl : c = _ := by simpa using h1.symm
      obtain rfl : s = _ := by simpa using h2.symm
      exact hr
    | i + 1, h1, _ => simp at h1
theorem rv2 {W : World} {d : Nat} {t s : Tr} {o b : Nat} {mn mx : Int} {c0 c1 c2 c3 c4 c5 c6 e0 e1 e2 e3 e4 e5 e6 : Value} {T : TypeId} (ho : o < 256) (hb : W.heap[b]? = some (.cells #[c0, c1, c2, c3, c4, c5, c6, e0, e1, e2, e3, e4, e5, e6] T (0, 0))) (hr : RxV W d t [c0, c1, c2, c3, c4, c5, c6]) (hs : RxV W d s [e0, e1, e2, e3, e4, e5, e6]) :
    RxV W (d + 1) (.mk o false false [] mn mx [t, s]) [.int .i64 (o : Int), .slice none 0 0, .int .i64 mn, .int .i64 mx, .bool false, .bool false, .slice (some ⟨b, 0, none⟩) 2 2] := by
  refine rvn (css := [[c0, c1, c2, c3, c4, c5, c6], [e0, e1, e2, e3, e4, e5, e6]]) ho ?_ rfl (by simp) (fun c hc => ?_) fun i c x h1 h2 => ?_
  · exact reads_block (xs := [c0, c1, c2, c3, c4, c5, c6, e0, e1, e2, e3, e4, e5, e6]) hb rfl (by omega)
  · simp at hc; rcases hc with rfl | rfl <;> rfl
  · match i, h1, h2 with
    | 0, h1, h2 =>
      obtain rfl : c = _ := by simpa using h1.symm
      obtain rfl : x = _ := by simpa using h2.symm
      exact hr
    | 1, h1, h2 =>
      obtain rfl : c = _ := by simpa using h1.symm
      obtain rfl : x = _ := by simpa using h2.symm
      exact hs
    | i + 2, h1, _ => simp at h1
/-- What regexPath answers, said less. -/
theorem PPost.weak {d : Nat} {t : Tr} {s : ByteArray} {w w' : World} {e : Ending} (h : PPost d t s w e w') : Below w.heap.size w w' ∧ ∃ (a : Option Addr) (n c : Nat) (a' : Option Addr) (n' c' : Nat) (b : Bool), e = .returned (.tuple #[.slice a n c, .slice a' n' c', .bool b]) := by
  refine ⟨h.1, ?_⟩
  rcases h.2 with ⟨v1, v2, ms, cs, rfl, h1, h2, _⟩ | ⟨rfl, _⟩
  · obtain ⟨a, c, rfl⟩ := h1.form
    obtain ⟨a', c', rfl⟩ := h2.form
    exact ⟨_, _, _, _, _, _, _, rfl⟩
  · exact ⟨_, _, _, _, _, _, _, rfl⟩
theorem below_al {W w : World} (h : Below W.heap.size W w) (o : Obj) : Below W.heap.size W (w.alloc o) := h.alloc h.size o
end Go.Proofs.YtnpchkohfomagaaDoor.Rgy
/-! FnRegexTimes: the trees in memory, and what regexAlike says of them. -/
namespace Go.Proofs.YtnpchkohfomagaaDoor.Rgy
open Go.ChangeShapes Go.WideShapes Go.ChangeAt Go.RowKit Go.Trav Go.Rg Go.Utf Go.Proofs.YtnpchkohfomagaaDoor.Seq Go.Proofs.YtnpchkohfomagaaDoor.Sparse Go.Proofs.YtnpchkohfomagaaDoor.Rgw
set_option linter.unusedVariables false
set_option linter.unusedSimpArgs false
set_option maxRecDepth 100000
theorem up_b {W W' : World} {b : Nat} {o : Obj} (hb : Below W.heap.size W W') (h : W.heap[b]? = some o) : W'.heap[b]? = some o := (Mod.of_below (F := fun _ => False) hb).heap h (fun h => h)
theorem chain {W0 Wc w' : World} (h : Below W0.heap.size W0 Wc) (h' : Below Wc.heap.size Wc w') : Below W0.heap.size W0 w' := h.trans (h'.mono h.size)
/-- A node over one part, its blocks in R. -/
theorem ri1 {W : World} {R : Nat → Prop} {d : Nat} {t : Tr} {o b : Nat} {mn mx : Int} {c0 c1 c2 c3 c4 c5 c6 : Value} {T : TypeId} (ho : o < 256) (hb : W.heap[b]? = some (.cells #[c0, c1, c2, c3, c4, c5, c6] T (0, 0))) (hR : R b) (hr : RxI W R d t [c0, c1, c2, c3, c4, c5, c6]) :
    RxI W R (d + 1) (.mk o false false [] mn mx [t]) [.int .i64 (o : Int), .slice none 0 0, .int .i64 mn, .int .i64 mx, .bool false, .bool false, .slice (some ⟨b, 0, none⟩) 1 1] := by
  refine ⟨.slice none 0 0, .slice (some ⟨b, 0, none⟩) 1 1, [[c0, c1, c2, c3, c4, c5, c6]], rfl, ⟨ho, by simp [Tr.runes], by simp⟩, ⟨reads_of_owns (World.ownsRow_nil W 0 35 1), fun g hg => by simp [Value.ownBlock] at hg⟩, rfl, ⟨reads_block (xs := [c0, c1, c2, c3, c4, c5, c6]) hb rfl (by omega), fun g hg => ?_⟩, fun c hc => ?_, fun i c s h1 h2 => ?_⟩
  · obtain rfl : b = g := by simpa [Value.ownBlock] using hg
    exact hR
  · simp at hc; subst hc; rfl
  · match i, h1, h2 with
    | 0, h1, h2 =>
      obtain rfl : c = _ := by simpa using h1.symm
      obtain rfl : s = _ := by simpa [Tr.subs] using h2.symm
      exact hr
    | i + 1, h1, _ => simp at h1
/-- The part, its star and the empty expression. -/
structure TI (r : Rw) (N b9 b11 b12 : Nat) (cA cS : List Value) (w wx : World) : Prop where
  k9 : wx.heap[b9]? = some (.cells cA.toArray 35 (0, 0))
  k11 : wx.heap[b11]? = some (.cells cS.toArray 35 (0, 0))
  k12 : wx.heap[b12]? = some (.cells #[.int .i64 2, .slice none 0 0, .int .i64 0, .int .i64 0, .bool false, .bool false, .slice none 0 0] 35 (0, 0))
  hA : RxI wx (fun g => g < N) 4 (ex 4 r) cA
  hS : RxI wx (fun g => g < N) 5 (nod 14 [ex 4 r]) cS
  sz : N ≤ wx.heap.size
  bl : Below w.heap.size w wx
theorem TI.below {r : Rw} {N b9 b11 b12 : Nat} {cA cS : List Value} {w wx wy : World} (h : TI r N b9 b11 b12 cA cS w wx) (hb : Below wx.heap.size wx wy) : TI r N b9 b11 b12 cA cS w wy :=
  ⟨up_b hb h.k9, up_b hb h.k11, up_b hb h.k12, RxI.below hb _ _ _ h.hA, RxI.below hb _ _ _ h.hS, Nat.le_trans h.sz hb.size, h.bl.trans (hb.mono h.bl.size)⟩
theorem emp_rx (W : World) (d : Nat) : RxV W (d + 1) emp [.int .i64 2, .slice none 0 0, .int .i64 0, .int .i64 0, .bool false, .bool false, .slice none 0 0] := RxI.rx _ _ _ (leaf_fin W (fun _ => True) 2 (by omega) d)
section
variable {ad : Nat → Addr} {r : Rw} {N b9 b11 b12 : Nat} {a0 a1 a2 a3 a4 a5 a6 s0 s1 s2 s3 s4 s5 s6 : Value} {w W : World} {s : ByteArray}
theorem al_star (hT : TI r N b9 b11 b12 [a0, a1, a2, a3, a4, a5, a6] [s0, s1, s2, s3, s4, s5, s6] w W) (hf : Fine 4 11000 (ex 4 r)) (hp : places 4 (ex 4 r) ≤ 1000) (hL : Laid W ad) (hss : s.size ≤ 1000) (b : Nat) (hb : W.heap[b]? = some (.cells #[s0, s1, s2, s3, s4, s5, s6] 35 (0, 0))) :
    Calls Tryd.prog 30 #[.agg #[s0, s1, s2, s3, s4, s5, s6], .agg #[.int .i64 14, .slice none 0 0, .int .i64 0, .int .i64 0, .bool false, .bool false, .slice (some ⟨b, 0, none⟩) 1 1], .string s] W fun e w' => e = .returned (.bool true) ∧ Below W.heap.size W w' :=
  alike_any ad (nod 14 [ex 4 r]) (nod 14 [nod 14 [ex 4 r]]) _ _ s W (RxV.up _ _ _ (RxI.rx _ _ _ hT.hS)) (rv1 (o := 14) (mn := 0) (mx := 0) (by omega) hb (RxI.rx _ _ _ hT.hS)) (timesP_star hf hp) hL hss
theorem al_plus (hT : TI r N b9 b11 b12 [a0, a1, a2, a3, a4, a5, a6] [s0, s1, s2, s3, s4, s5, s6] w W) (hf : Fine 4 11000 (ex 4 r)) (hp : places 4 (ex 4 r) ≤ 1000) (hL : Laid W ad) (hss : s.size ≤ 1000) (b b' : Nat) (hb : W.heap[b]? = some (.cells #[a0, a1, a2, a3, a4, a5, a6] 35 (0, 0)))
    (hb' : W.heap[b']? = some (.cells #[a0, a1, a2, a3, a4, a5, a6, s0, s1, s2, s3, s4, s5, s6] 35 (0, 0))) :
    Calls Tryd.prog 30 #[.agg #[.int .i64 15, .slice none 0 0, .int .i64 0, .int .i64 0, .bool false, .bool false, .slice (some ⟨b, 0, none⟩) 1 1], .agg #[.int .i64 18, .slice none 0 0, .int .i64 0, .int .i64 0, .bool false, .bool false, .slice (some ⟨b', 0, none⟩) 2 2], .string s] W fun e w' => e = .returned (.bool true) ∧ Below W.heap.size W w' :=
  alike_any ad (nod 15 [ex 4 r]) (nod 18 [ex 4 r, nod 14 [ex 4 r]]) _ _ s W (RxV.up _ _ _ (rv1 (o := 15) (mn := 0) (mx := 0) (by omega) hb (RxI.rx _ _ _ hT.hA))) (rv2 (o := 18) (mn := 0) (mx := 0) (by omega) hb' (RxV.up _ _ _ (RxI.rx _ _ _ hT.hA)) (RxI.rx _ _ _ hT.hS)) (timesP_plus hf hp) hL hss
theorem al_quest (hT : TI r N b9 b11 b12 [a0, a1, a2, a3, a4, a5, a6] [s0, s1, s2, s3, s4, s5, s6] w W) (hf : Fine 4 11000 (ex 4 r)) (hp : places 4 (ex 4 r) ≤ 1000) (hL : Laid W ad) (hss : s.size ≤ 1000) (b b' : Nat) (hb : W.heap[b]? = some (.cells #[a0, a1, a2, a3, a4, a5, a6] 35 (0, 0)))
    (hb' : W.heap[b']? = some (.cells #[a0, a1, a2, a3, a4, a5, a6, .int .i64 2, .slice none 0 0, .int .i64 0, .int .i64 0, .bool false, .bool false, .slice none 0 0] 35 (0, 0))) :
    Calls Tryd.prog 30 #[.agg #[.int .i64 16, .slice none 0 0, .int .i64 0, .int .i64 0, .bool false, .bool false, .slice (some ⟨b, 0, none⟩) 1 1], .agg #[.int .i64 19, .slice none 0 0, .int .i64 0, .int .i64 0, .bool false, .bool false, .slice (some ⟨b', 0, none⟩) 2 2], .string s] W fun e w' => e = .returned (.bool true) ∧ Below W.heap.size W w' :=
  alike_any ad (nod 16 [ex 4 r]) (nod 19 [ex 4 r, emp]) _ _ s W (RxV.up _ _ _ (rv1 (o := 16) (mn := 0) (mx := 0) (by omega) hb (RxI.rx _ _ _ hT.hA))) (rv2 (o := 19) (mn := 0) (mx := 0) (by omega) hb' (RxV.up _ _ _ (RxI.rx _ _ _ hT.hA)) (emp_rx W 4)) (timesP_quest hf hp) hL hss
theorem al_cap (hT : TI r N b9 b11 b12 [a0, a1, a2, a3, a4, a5, a6] [s0, s1, s2, s3, s4, s5, s6] w W) (hf : Fine 4 11000 (ex 4 r)) (hp : places 4 (ex 4 r) ≤ 1000) (hL : Laid W ad) (hss : s.size ≤ 1000) (b : Nat) (hb : W.heap[b]? = some (.cells #[a0, a1, a2, a3, a4, a5, a6] 35 (0, 0))) :
    Calls Tryd.prog 30 #[.agg #[.int .i64 13, .slice none 0 0, .int .i64 0, .int .i64 0, .bool false, .bool false, .slice (some ⟨b, 0, none⟩) 1 1], .agg #[a0, a1, a2, a3, a4, a5, a6], .string s] W fun e w' => e = .returned (.bool true) ∧ Below W.heap.size W w' :=
  alike_any ad (nod 13 [ex 4 r]) (ex 4 r) _ _ s W (RxV.up _ _ _ (rv1 (o := 13) (mn := 0) (mx := 0) (by omega) hb (RxI.rx _ _ _ hT.hA))) (RxV.up _ _ _ (RxV.up _ _ _ (RxI.rx _ _ _ hT.hA))) (timesP_cap hf hp) hL hss
end
/-- A row of parts that is being made. -/
structure RI (B : Nat) (d : Nat) (sv : Value) (l : List Tr) (css : List (List Value)) (w wr : World) : Prop where
  own : wr.ownsRow B 35 7 sv css.length css.flatten
  len : css.length = l.length
  c7 : ∀ c ∈ css, c.length = 7
  old : ∀ (i : Nat) c s, css[i]? = some c → l[i]? = some s → RxI wr (fun g => g < wr.heap.size ∧ sv.ownBlock ≠ some g) d s c
  bl : Below B w wr
  le : B ≤ wr.heap.size
theorem RI.start (w : World) (d : Nat) : RI w.heap.size d (.slice none 0 0) [] [] w w :=
  ⟨World.ownsRow_nil w _ 35 7, rfl, fun c hc => by simp at hc, fun i c s hc => by simp at hc, Below.refl _ _, Nat.le_refl _⟩
theorem RI.below {B d : Nat} {sv : Value} {l : List Tr} {css : List (List Value)} {w wr w2 : World} (h : RI B d sv l css w wr) (hb : Below wr.heap.size wr w2) : RI B d sv l css w w2 := by
  have m : Mod (fun _ => False) wr w2 := Mod.of_below hb
  have hs := m.size
  exact ⟨ownsRow_mod h.own m fun _ _ h => h, h.len, h.c7, fun i c s hc hs' => RxI.wide (fun g hg => ⟨Nat.lt_of_lt_of_le hg.1 hs, hg.2⟩) d s c (RxI.mod m (fun _ _ h => h) d s c (h.old i c s hc hs')), h.bl.trans (hb.mono h.le), Nat.le_trans h.le hs⟩
theorem RI.push {B d : Nat} {sv v6 : Value} {l : List Tr} {s : Tr} {cs : List Value} {css : List (List Value)} {w w2 W w6 : World} (h : RI B d sv l css w w2) (hA : RxI w2 (fun g => g < w2.heap.size ∧ sv.ownBlock ≠ some g) d s cs) (h7 : cs.length = 7)
    (hW : Mod (fun _ => False) w2 W) (hgr : W.grownBy w6 sv.ownBlock) (hown6 : w6.ownsRow B 35 7 v6 (css.length + 1) (css.flatten ++ cs)) (hat : v6.ownBlock = sv.ownBlock ∨ ∀ g, v6.ownBlock = some g → w2.heap.size ≤ g) : RI B d v6 (l ++ [s]) (css ++ [cs]) w w6 := by
  have m : Mod (fun z => sv.ownBlock = some z) w2 w6 := (hW.mono fun _ _ h => h.elim).grown hgr fun k hk _ => hk
  have hsz := m.size
  have h6 : ∀ g, g < w2.heap.size → sv.ownBlock ≠ some g → v6.ownBlock ≠ some g := fun g hg hne e => by
    rcases hat with hat | hat
    · exact hne (hat ▸ e)
    · have := hat g e; omega
  have hold : ∀ (x : Tr) (y : List Value), RxI w2 (fun g => g < w2.heap.size ∧ sv.ownBlock ≠ some g) d x y → RxI w6 (fun g => g < w6.heap.size ∧ v6.ownBlock ≠ some g) d x y := fun x y hx => by
    have q1 := RxI.mod m (fun g hg hF => hg.2 hF) d x y hx
    exact RxI.wide (fun g hg => ⟨Nat.lt_of_lt_of_le hg.1 hsz, h6 g hg.1 hg.2⟩) d x y q1
  refine ⟨?_, by simp [h.len], ?_, ?_, h.bl.trans (m.toBelow h.le fun g _ hg => ?_), Nat.le_trans h.le hsz⟩
  · rw [List.length_append, List.flatten_append]
    have e : [cs].flatten = cs := by simp
    rw [e]
    exact hown6
  · intro y hy
    rcases List.mem_append.1 hy with hy | hy
    · exact h.c7 y hy
    · simp at hy; subst hy; exact h7
  · intro i y x hy hx
    by_cases hi : i < css.length
    · rw [List.getElem?_append_left hi] at hy
      rw [List.getElem?_append_left (by rw [← h.len]; exact hi)] at hx
      exact hold x y (h.old i y x hy hx)
    · have hl := (List.getElem?_eq_some_iff.1 hy).1
      obtain rfl : i = css.length := by simp at hl; omega
      rw [List.getElem?_append_right (Nat.le_refl _)] at hy
      rw [h.len, List.getElem?_append_right (Nat.le_refl _)] at hx
      simp at hy hx
      subst hy hx
      exact hold s cs hA
  · exact (h.own.lt g hg).1
theorem RI.fin {B d : Nat} {sv : Value} {l : List Tr} {css : List (List Value)} {w wr : World} (h : RI B d sv l css w wr) (o : Nat) (ho : o < 256) (hl : l.length ≤ 1000) :
    RxV wr (d + 1) (nod o l) [.int .i64 (o : Int), .slice none 0 0, .int .i64 0, .int .i64 0, .bool false, .bool false, sv] :=
  rvn ho (reads_of_owns h.own) h.len (by rw [h.len]; exact hl) h.c7 fun i c s hc hs => RxI.rx _ _ _ (h.old i c s hc hs)
end Go.Proofs.YtnpchkohfomagaaDoor.Rgy
/-! Places of expressions are few; the arguments of a frame. -/
namespace Go.Proofs.YtnpchkohfomagaaDoor.Rgy
open Go.ChangeShapes Go.WideShapes Go.ChangeAt Go.RowKit Go.Trav Go.Rg Go.Utf Go.Proofs.YtnpchkohfomagaaDoor.Seq Go.Proofs.YtnpchkohfomagaaDoor.Sparse Go.Proofs.YtnpchkohfomagaaDoor.Rgw
set_option linter.unusedVariables false
set_option linter.unusedSimpArgs false
set_option maxRecDepth 100000
def exP : Nat → Nat
  | 0 => 0
  | d + 1 => max 124 (18 * exP d)
theorem ex_places : ∀ (d : Nat) (r : Rw), places d (ex d r) ≤ exP d := by
  intro d
  induction d with
  | zero => intro r; simp [places]
  | succ d ih =>
    intro r
    have ho := exOp_le (decide (d = 0) || decide (r.subs.length = 0)) r
    have hF : 124 ≤ exP (d + 1) ∧ 18 * exP d ≤ exP (d + 1) := by simp only [exP]; omega
    rw [ex]
    generalize exOp (decide (d = 0) || decide (r.subs.length = 0)) r = o at ho
    skip
    split
    · rename_i h
      refine Nat.le_trans ?_ hF.1
      rcases h with h | h | h <;> subst h
      · exact Nat.zero_le _
      · have e : places (d + 1) (.mk 5 false false [] 0 0 []) = ((prs [0, 9, 11, 1114111]).map fun q => rngN q.2).sum := rfl
        rw [e]; decide
      · have e : places (d + 1) (.mk 6 false false [] 0 0 []) = ((prs [0, 1114111]).map fun q => rngN q.2).sum := rfl
        rw [e]; decide
    · split
      · have e : places (d + 1) (.mk 3 false false (litP r.runes) 0 0 []) = ((litP r.runes).map wid).sum := rfl
        rw [e]
        have h1 := sum_cap wid 4 (litP r.runes) (fun x _ => (wid_le4 x).2)
        have h2 := (lit_ok r.runes).2.1
        omega
      · split
        · have e : places (d + 1) (.mk 4 false false (pairsP r.runes) 0 0 []) = ((prs (pairsP r.runes)).map fun q => rngN q.2).sum := rfl
          rw [e]
          have h1 := sum_cap (fun q : Int × Int => rngN q.2) 31 (prs (pairsP r.runes)) fun q _ => rngN_le q.2
          obtain ⟨_, ⟨j, p2, p3⟩, _⟩ := pairs_ok r.runes
          have h2 := prs_len (pairsP r.runes)
          omega
        · rw [places_nd _ _ _ _ _ (by omega)]
          refine Nat.le_trans ?_ hF.2
          have h1 := sum_cap (fun x => places d (ex d x)) (exP d) (r.subs.take (if 18 ≤ o then 3 else 1)) fun x _ => ih x
          have h3 : (r.subs.take (if 18 ≤ o then 3 else 1)).length ≤ 3 := by simp; split <;> omega
          have h4 : (r.subs.take (if 18 ≤ o then 3 else 1)).length * exP d ≤ 3 * exP d := Nat.mul_le_mul_right _ h3
          have e : (((r.subs.take (if 18 ≤ o then 3 else 1)).map (ex d)).map (places d)).sum = ((r.subs.take (if 18 ≤ o then 3 else 1)).map fun x => places d (ex d x)).sum := by rw [List.map_map]; rfl
          unfold ndN
          rw [e]
          have h5 := mxP_le5 r.mn r.mx
          have h6 := atP4 r.mn
          generalize ((r.subs.take (if 18 ≤ o then 3 else 1)).map fun x => places d (ex d x)).sum = n at h1 ⊢
          split
          · rename_i h17
            have g : (max (atP r.mn 4 : Int) (mxP r.mn r.mx)).toNat + 1 ≤ 6 := by omega
            have := Nat.mul_le_mul (show n ≤ 3 * exP d by omega) g
            omega
          · split <;> omega
theorem ex4_places (r : Rw) : places 4 (ex 4 r) ≤ 1000000000 := Nat.le_trans (ex_places 4 r) (by decide)
theorem ex5_places (r : Rw) : places 5 (ex 5 r) ≤ 1000000000 := Nat.le_trans (ex_places 5 r) (by decide)
theorem rx_arg {H : Type} {enc : TypeId × Value → H} {w : World} {spare : Nat → Bool} {held : Bool} {v : Value} {d : DataW H} {ps : List MemPlace} {r : Reach} {b0 : Nat} (hv : Value.okWide Tryd.prog w r b0 35 v) (h : DataW.Trod enc Tryd.prog w 0 spare held 35 v d ps) : ∃ (n : Nat) (r : Rw) (cs : List Value), v = .agg cs.toArray ∧ RwV w n r cs := by
  obtain ⟨cs, rfl, hsz⟩ := okWide_struct Tryd.underlying35 hv
  obtain ⟨n, hn⟩ := h
  obtain ⟨r, hr⟩ := raw_open n cs.toList _ (by rw [Array.length_toList, hsz]; kernel_rfl) hn
  exact ⟨n, r, cs.toList, by simp, hr⟩
end Go.Proofs.YtnpchkohfomagaaDoor.Rgy
