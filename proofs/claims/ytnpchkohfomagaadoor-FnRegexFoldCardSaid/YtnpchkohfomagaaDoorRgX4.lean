/- impl.RegexPath: an expression's automaton along a text; or what is wrong. -/
import Derived.Test.YtnpchkohfomagaaDoorRgX3
import Derived.Test.YtnpchkohfomagaaDoorRgWc
import Derived.Test.YtnpchkohfomagaaDoorRgPath
namespace Go.Proofs.YtnpchkohfomagaaDoor.Rgw
open Go.ChangeShapes Go.WideShapes Go.ChangeAt Go.RowKit Go.Trav Go.Rg Go.Proofs.YtnpchkohfomagaaDoor.Seq Go.Utf Go.Proofs.YtnpchkohfomagaaDoor.Sparse Path
set_option linter.unusedVariables false
set_option linter.unusedSimpArgs false
set_option maxRecDepth 100000
theorem Env.up {w w' : World} {base base' : Nat} {ad : Nat → Addr} (h : Env w base ad) (hb : base ≤ base') (m : Below w.heap.size w w') : Env w' base' ad := by
  have h := h.mod (Ts := cA) (Mod.of_below m : Mod (TF cA base w) w w')
  exact ⟨h.gl, ⟨Nat.lt_of_lt_of_le h.nb.1 hb, Nat.lt_of_lt_of_le h.nb.2 hb⟩, ⟨Nat.lt_of_lt_of_le h.eb.1 hb, Nat.lt_of_lt_of_le h.eb.2.1 hb, Nat.lt_of_lt_of_le h.eb.2.2.1 hb, Nat.lt_of_lt_of_le h.eb.2.2.2 hb⟩, h.h1, h.h2, h.h3, h.h4⟩
theorem bad_bd : ∀ (d : Nat) (t : Tr) (k : Nat), bad d t = some k → 1 ≤ k ∧ k ≤ 3 := by
  intro d
  induction d with
  | zero => intro t k h; simp [bad] at h
  | succ d ih =>
    intro t k h
    unfold bad at h
    split at h
    · cases h; omega
    · split at h
      · cases h; omega
      · split at h
        · cases h; omega
        · split at h
          · cases h
          · split at h
            · exact ih _ _ h
            · obtain ⟨x, hx, he⟩ := List.exists_of_findSome?_eq_some h
              obtain ⟨y, _, rfl⟩ := List.mem_map.1 hx
              exact ih y k he
set_option maxHeartbeats 4000000 in
theorem rxp_any (ad : Nat → Addr) (d : Nat) (t : Tr) (cs : List Value) (s : ByteArray) (w : World) (hX : RxV w d t cs) (hW : WF d t) (hE : Env w w.heap.size ad) (hK : ErrK w ad) (h5b : 4 < w.heap.size) (hl : size d t ≤ 999990) (hss : s.size ≤ 1000) :
    Calls Tryd.prog 28 #[.agg cs.toArray, .string s] w fun e w' => Below w.heap.size w w' ∧ ((∃ (v1 v2 v3 : Value) (c : List In), e = .returned (.tuple #[v1, v2, v3, .int .i64 0]) ∧ bad d t = none ∧ Ok (lang d t) (places d t) (size d t) 0 c ∧
        Reads w' v1 (s.size + 1) 1 (((List.range (s.size + 1)).map (wantM (c ++ [In.fin]) (s.data.toList.map UInt8.toNat))).map Value.bool) ∧ Reads w' v2 (s.size + 1) 1 (((List.range (s.size + 1)).map (wantC (c ++ [In.fin]) (s.data.toList.map UInt8.toNat))).map Value.bool) ∧ Reads w' v3 (s.size + 1) 1 (((List.range (s.size + 1)).map fun _ => false).map Value.bool)) ∨
      ∃ k : Nat, e = .returned (.tuple #[.slice none 0 0, .slice none 0 0, .slice none 0 0, .int .i64 (k : Int)]) ∧ (bad d t = some k ∨ (k = 4 ∧ 262144 < size d t) ∨ (k = 5 ∧ bad d t = none ∧ 5 < places d t))) := by
  obtain ⟨o1, rv1, mn1, mx1, lz1, sv1, rfl, ⟨ra, rb, rc, rfl⟩, sa, sb, sc, rfl⟩ := hX.form
  obtain ⟨W1, hW1⟩ : ∃ W1, W1 = w.alloc (.cells #[.int .i64 o1, .slice ra rb rc, .int .i64 mn1, .int .i64 mx1, .bool lz1, .bool false, .slice sa sb sc] 35) := ⟨_, rfl⟩
  have hb1 : Below w.heap.size w W1 := by rw [hW1]; exact (Below.refl _ _).alloc (Nat.le_refl _) _
  have ht := tree_any d t _ W1 (RxV.below hb1 d t _ hX)
  have HT := Lib.hid ht
  have HB1 := Lib.hid hb1
  have hbk : ∀ k, bad d t = some k → 1 ≤ k ∧ k ≤ 5 := fun k h => by have := bad_bd d t k h; omega
  have HH := Lib.hid (And.intro hW (And.intro hE (And.intro hK hbk)))
  clear hX ht hb1 hW hE hK hbk
  go_enter Tryd.func28, Tryd.ntmps28
  go_wp2_with fail
  rw [← hW1]
  refine HT.out.mono ?_
  rintro e w2 ⟨b, he, hb2, hA⟩
  obtain rfl : e = .returned (.pointer (some ⟨b, 0, none⟩)) := he
  have hb02 := HB1.out.trans (hb2.mono HB1.out.size)
  have hn := npl_any ad d b t w2 HH.out.1 (HH.out.2.1.up hb02.size hb02) (HH.out.2.2.1.mod hb02).h5 (Nat.lt_of_lt_of_le h5b hb02.size) (AstIn.at_ d t b hA) hl
  have HN := Lib.hid hn
  have HB2 := Lib.hid hb02
  clear hb2 hA hb02 hn HT HB1 hW1
  go_wp2_with fail
  refine HN.out.mono ?_
  rintro e w3 ⟨⟨X, D, c, Ks, nx, rfl, hbad, hok, hX, hmd, hrow, hDF⟩ | ⟨k, rfl, hk⟩, hb3⟩
  · have hmd2 := rows_are hmd s.data.toList (s.size + 1) (by simp)
    have hpa := path_any s w3 (reAut X D _ Ks nx w3 hX hDF hrow) (by omega)
    rw [row_false, hmd2.1, hmd2.2] at hpa
    have HPA := Lib.hid hpa
    have HB3 := Lib.hid hb3
    have HO := Lib.hid (And.intro hbad hok)
    clear hb3 hbad hok hX hmd hrow hDF hmd2 hpa
    go_wp2_with fail
    refine HPA.out.mono ?_
    rintro e w7 ⟨v1, v2, v3, rfl, hr1, hr2, hr3, hb7⟩
    have HX := Lib.hid (And.intro hr1 (And.intro hr2 (And.intro hr3 hb7)))
    clear hr1 hr2 hr3 hb7
    go_wp2_with fail
    refine bodyPost_ret (v := .tuple #[v1, v2, v3, .int .i64 0]) (by simp [results, Tryd.results28, go_sem]) rfl ?_
    have hb03 := HB2.out.trans (HB3.out.mono HB2.out.size)
    exact ⟨hb03.trans (HX.out.2.2.2.mono hb03.size), Or.inl ⟨v1, v2, v3, c, rfl, HO.out.1, HO.out.2, HX.out.1, HX.out.2.1, HX.out.2.2.1⟩⟩
  · have hb03 := HB2.out.trans (hb3.mono HB2.out.size)
    have hk5 : 1 ≤ k ∧ k ≤ 5 := by
      rcases hk with h | ⟨h, _⟩ | ⟨h, _⟩
      · exact HH.out.2.2.2 k h
      · omega
      · omega
    have hwr := wrong_k ad k w3 (HH.out.2.2.1.mod hb03) hk5.1 hk5.2
    have HWR := Lib.hid hwr
    have HB3 := Lib.hid hb03
    have HK := Lib.hid hk
    clear hb3 hb03 hk hwr
    go_wp2_with fail
    refine HWR.out.mono ?_
    rintro e w7 ⟨rfl, hb7⟩
    have HB7 := Lib.hid hb7
    clear hb7
    go_wp2_with fail
    refine bodyPost_ret (v := .tuple #[.slice none 0 0, .slice none 0 0, .slice none 0 0, .int .i64 (k : Int)]) (by simp [results, Tryd.results28, go_sem]) rfl ?_
    exact ⟨HB3.out.trans (HB7.out.mono HB3.out.size), Or.inr ⟨k, rfl, HK.out⟩⟩
end Go.Proofs.YtnpchkohfomagaaDoor.Rgw
