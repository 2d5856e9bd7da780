/- The automaton of instructions: dfa.add, the instructions that are come to without a byte. (and what follows) -/
import Derived.Test.YtnpchkohfomagaaDoorSparse
import Derived.Test.YtnpchkohfomagaaDoorRgPa
/-! The automaton of instructions: dfa.add, the instructions that are come to without a byte. -/
namespace Go.Proofs.YtnpchkohfomagaaDoor.Rgw
open Go.ChangeShapes Go.WideShapes Go.ChangeAt Go.RowKit Go.Trav Go.Rg Go.Proofs.YtnpchkohfomagaaDoor.Sparse
set_option linter.unusedVariables false
set_option maxRecDepth 100000
/-- Where an instruction's cells lie. -/
structure InAt (w : World) (b o : Nat) (i : In) : Prop where
  c0 : w.cell? ⟨b, o, none⟩ = some (.int .i64 (i.op : Int))
  c1 : w.cell? ⟨b, o + 1, none⟩ = some (.int .u64 (i.to : Int))
  c2 : w.cell? ⟨b, o + 2, none⟩ = some (.int .u64 (i.a : Int))
  c3 : w.cell? ⟨b, o + 3, none⟩ = some (.int .u64 (i.b : Int))
  c4 : w.cell? ⟨b, o + 4, none⟩ = some (.int .u8 (i.lo : Int))
  c5 : w.cell? ⟨b, o + 5, none⟩ = some (.int .u8 (i.hi : Int))
/-- A program in memory, all of it below the block K. -/
structure PAt (w : World) (pb po : Nat) (l : List In) (K : Nat) : Prop where
  lt : pb < K
  len : l.length ≤ 1000000
  at_ : ∀ (k : Nat) i, l[k]? = some i → ∃ b o, b < K ∧ w.cell? ⟨pb, po + k, none⟩ = some (.pointer (some ⟨b, o, none⟩)) ∧ InAt w b o i
theorem PAt.mod {w w' : World} {pb po K : Nat} {l : List In} {F : Nat → Prop} (h : PAt w pb po l K) (m : Mod F w w') (hF : ∀ k, k < K → ¬ F k) : PAt w' pb po l K := by
  refine ⟨h.lt, h.len, fun k i hk => ?_⟩
  obtain ⟨b, o, hb, hc, hi⟩ := h.at_ k i hk
  have hn : ¬ F b := hF b hb
  exact ⟨b, o, hb, m.cell hc (hF pb h.lt), m.cell hi.c0 hn, m.cell hi.c1 hn, m.cell hi.c2 hn, m.cell hi.c3 hn, m.cell hi.c4 hn, m.cell hi.c5 hn⟩
/-- A sparse set in memory. -/
def Holds (w : World) (B bd bs n : Nat) (S : List Nat) : Prop := ∃ ds ss, SetAt w B bd bs n ds ss S.length ∧ IsSet n ds ss S.length S
/-- The blocks of a set. -/
def SF (B bd bs : Nat) (k : Nat) : Prop := k = B ∨ k = bd ∨ k = bs
theorem Holds.le {w : World} {B bd bs n : Nat} {S : List Nat} (h : Holds w B bd bs n S) : S.length ≤ n := by obtain ⟨_, _, _, h⟩ := h; exact h.le
theorem Holds.mod {w w' : World} {B bd bs n : Nat} {S : List Nat} {F : Nat → Prop} (h : Holds w B bd bs n S) (m : Mod F w w') (hF : ∀ k, SF B bd bs k → ¬ F k) : Holds w' B bd bs n S := by
  obtain ⟨ds, ss, ⟨h1, h2, h3, h4, h5, h6⟩, hs⟩ := h
  exact ⟨ds, ss, ⟨m.heap h1 (hF _ (Or.inl rfl)), m.heap h2 (hF _ (Or.inr (Or.inl rfl))), m.heap h3 (hF _ (Or.inr (Or.inr rfl))), h4, h5, h6⟩, hs⟩
theorem setAdd (B bd bs n : Nat) (S : List Nat) (x : Nat) (w : World) (h : Holds w B bd bs n S) (hx : x < n) (hm : x ∉ S) (hn : n ≤ 1000000) :
    Calls Tryd.prog 83 #[.pointer (some ⟨B, 0, none⟩), .int .u64 (x : Int)] w fun e w' => e = .returned (.int .u64 (S.length : Int)) ∧ Holds w' B bd bs n (S ++ [x]) ∧ Mod (SF B bd bs) w w' := by
  obtain ⟨ds, ss, h1, h2⟩ := h
  refine (add_any B bd bs n ds ss S.length x w h1 hx (h2.room hx hm) (by omega)).mono ?_
  rintro e w' ⟨rfl, h3, h4⟩
  exact ⟨rfl, ⟨_, _, by rw [List.length_append]; exact h3, by rw [List.length_append]; exact h2.add hx hm⟩, h4⟩
theorem setHas (B bd bs n : Nat) (S : List Nat) (x : Nat) (w : World) (h : Holds w B bd bs n S) (hx : x < n) (hn : n ≤ 1000000) :
    Calls Tryd.prog 82 #[.pointer (some ⟨B, 0, none⟩), .int .u64 (x : Int)] w fun e w' => e = .returned (.bool (decide (x ∈ S))) ∧ w = w' := by
  obtain ⟨ds, ss, h1, h2⟩ := h
  exact contains_any B bd bs n ds ss S.length x S w h1 h2 hx (by omega)
theorem add_unfold (l : List In) (f : Nat) (S : List Nat) (ip : Nat) (i : In) (hi : l[ip]? = some i) (hm : ip ∉ S) : Go.Rg.add l (f + 1) S ip = if i.op = 1 then Go.Rg.add l f (S ++ [ip]) i.to else if i.op = 2 then Go.Rg.add l f (Go.Rg.add l f (S ++ [ip]) i.a) i.b else S ++ [ip] := by
  rw [Go.Rg.add, if_neg hm, hi]
/-- dfa.add does what the plain add does. -/
theorem dadd_any (l : List In) (hs : Sound l) (D pb po pc K B bd bs : Nat) (hD : D < K) (hB : K ≤ B) (hbd : K ≤ bd) (hbs : K ≤ bs) :
    ∀ (f : Nat) (S : List Nat) (ip : Nat) (w : World), w.cell? ⟨D, 0, none⟩ = some (.slice (some ⟨pb, po, none⟩) l.length pc) → PAt w pb po l K → Holds w B bd bs l.length S → Go.Rg.Good l S → ip < l.length → l.length < f + S.length →
    Calls Tryd.prog 67 #[.pointer (some ⟨D, 0, none⟩), .pointer (some ⟨B, 0, none⟩), .int .u64 (ip : Int)] w fun e w' => e = .returned (.tuple #[]) ∧ Holds w' B bd bs l.length (Go.Rg.add l f S ip) ∧ Mod (SF B bd bs) w w' := by
  have hF : ∀ k, k < K → ¬ SF B bd bs k := fun k hk h => by unfold SF at h; omega
  intro f
  induction f with
  | zero => intro S ip w _ _ _ hg _ hl; have := hg.len; omega
  | succ f ih =>
    intro S ip w hc hP hH hg hip hl
    have hll := hP.len
    by_cases hm : ip ∈ S
    · have hcon := setHas B bd bs l.length S ip w hH hip (by omega)
      rw [decide_eq_true hm] at hcon
      have HH := Lib.hid hH
      have HM := Lib.hid hm
      clear hH hm hP hg hc
      go_enter Tryd.func67, Tryd.ntmps67
      go_wp2_with fail
      refine hcon.mono ?_
      rintro e w1 ⟨rfl, rfl⟩
      go_wp2_with fail
      refine bodyPost_ret (v := .tuple #[]) (by simp [results, Tryd.results67, go_sem]) rfl ⟨rfl, by rw [Go.Rg.add, if_pos HM.out]; exact HH.out, Mod.refl _ _⟩
    · have hcon := setHas B bd bs l.length S ip w hH hip (by omega)
      rw [decide_eq_false hm] at hcon
      have hadd := setAdd B bd bs l.length S ip w hH hip hm (by omega)
      obtain ⟨i, hi⟩ : ∃ i, l[ip]? = some i := ⟨_, List.getElem?_eq_getElem hip⟩
      have hgs : Go.Rg.Good l (S ++ [ip]) := hg.snoc hip hm
      have hls : (S ++ [ip]).length = S.length + 1 := by simp
      obtain ⟨q1, q2, q3, q4⟩ := hs ip i hi
      have hun := add_unfold l f S ip i hi hm
      have HUN := Lib.hid hun
      have HP := Lib.hid hP
      have HI := Lib.hid hi
      have HGS := Lib.hid hgs
      have IH := Lib.hid ih
      have HF := Lib.hid hF
      have HC := Lib.hid hc
      have HS := Lib.hid hs
      clear hH hm hP hg hc hun hi hgs ih hF hs
      go_enter Tryd.func67, Tryd.ntmps67
      go_wp2_with fail
      refine hcon.mono ?_
      rintro e w1 ⟨rfl, rfl⟩
      go_wp2_with fail
      refine hadd.mono ?_
      rintro e w1 ⟨rfl, hh1, hm1⟩
      obtain ⟨b, o, hb, hp0, hI⟩ := (HP.out.mod hm1 HF.out).at_ ip i HI.out
      obtain ⟨i0, i1, i2, i3, i4, i5⟩ := hI
      have hd0 : w1.cell? ⟨D, 0, none⟩ = some (.slice (some ⟨pb, po, none⟩) l.length pc) := hm1.cell HC.out (HF.out D hD)
      have HH1 := Lib.hid hh1
      have HM1 := Lib.hid hm1
      clear hh1 hm1
      rcases show i.op = 0 ∨ i.op = 1 ∨ i.op = 2 ∨ i.op = 3 by omega with e0 | e0 | e0 | e0
      all_goals have E0 := Lib.hid e0
      · rw [e0] at i0
        go_wp2_with fail
        go_end0
        exact ⟨rfl, by rw [HUN.out, E0.out]; exact HH1.out, HM1.out⟩
      · rw [e0] at i0
        go_wp2_with fail
        refine (IH.out (S ++ [ip]) i.to w1 hd0 (HP.out.mod HM1.out HF.out) HH1.out HGS.out (q1 E0.out) (by rw [hls]; omega)).mono ?_
        rintro e w2 ⟨rfl, hh2, hm2⟩
        have HH2 := Lib.hid hh2
        have HM2 := Lib.hid hm2
        clear hh2 hm2
        go_wp2_with fail
        go_end0
        exact ⟨rfl, by rw [HUN.out, E0.out]; exact HH2.out, HM1.out.trans HM2.out⟩
      · rw [e0] at i0
        have had := add_added l HS.out f (S ++ [ip]) i.a HGS.out (q2 E0.out).1 (by rw [hls]; omega)
        have hal := had.len
        have HAD := Lib.hid had.good
        clear had
        go_wp2_with fail
        refine (IH.out (S ++ [ip]) i.a w1 hd0 (HP.out.mod HM1.out HF.out) HH1.out HGS.out (q2 E0.out).1 (by rw [hls]; omega)).mono ?_
        rintro e w2 ⟨rfl, hh2, hm2⟩
        have hd2 : w2.cell? ⟨D, 0, none⟩ = some (.slice (some ⟨pb, po, none⟩) l.length pc) := (HM1.out.trans hm2).cell HC.out (HF.out D hD)
        have hp2 := hm2.cell hp0 (HF.out pb HP.out.lt)
        have i32 := hm2.cell i3 (HF.out b hb)
        have HH2 := Lib.hid hh2
        have HM2 := Lib.hid hm2
        clear hh2 hm2
        go_wp2_with fail
        refine (IH.out _ i.b w2 hd2 (HP.out.mod (HM1.out.trans HM2.out) HF.out) HH2.out HAD.out (q2 E0.out).2 (by rw [hls] at hal; omega)).mono ?_
        rintro e w3 ⟨rfl, hh3, hm3⟩
        have HH3 := Lib.hid hh3
        have HM3 := Lib.hid hm3
        clear hh3 hm3
        go_wp2_with fail
        go_end0
        exact ⟨rfl, by rw [HUN.out, E0.out]; exact HH3.out, (HM1.out.trans HM2.out).trans HM3.out⟩
      · rw [e0] at i0
        go_wp2_with fail
        go_end0
        exact ⟨rfl, by rw [HUN.out, E0.out]; exact HH1.out, HM1.out⟩
end Go.Proofs.YtnpchkohfomagaaDoor.Rgw
/-! The automaton of instructions: dfa.run, one byte. -/
namespace Go.Proofs.YtnpchkohfomagaaDoor.Rgw
open Go.ChangeShapes Go.WideShapes Go.ChangeAt Go.RowKit Go.Trav Go.Rg Go.Proofs.YtnpchkohfomagaaDoor.Sparse
set_option linter.unusedVariables false
set_option maxRecDepth 100000
theorem setLen (B bd bs n : Nat) (S : List Nat) (w : World) (h : Holds w B bd bs n S) (hn : n ≤ 1000000) :
    Calls Tryd.prog 84 #[.pointer (some ⟨B, 0, none⟩)] w fun e w' => e = .returned (.int .i64 (S.length : Int)) ∧ w = w' := by
  have hle := h.le
  obtain ⟨ds, ss, h1, h2⟩ := h
  exact len_any B bd bs n ds ss S.length w h1 hle (by omega)
theorem setGet (B bd bs n : Nat) (S : List Nat) (i x : Nat) (w : World) (h : Holds w B bd bs n S) (hx : S[i]? = some x) (hn : n ≤ 1000000) :
    Calls Tryd.prog 85 #[.pointer (some ⟨B, 0, none⟩), .int .u64 (i : Int)] w fun e w' => e = .returned (.int .u64 (x : Int)) ∧ w = w' := by
  obtain ⟨ds, ss, h1, h2⟩ := h
  exact get_any B bd bs n ds ss S.length i x S w h1 h2 hx (by omega)
theorem setClear (B bd bs n : Nat) (S : List Nat) (w : World) (h : Holds w B bd bs n S) :
    Calls Tryd.prog 87 #[.pointer (some ⟨B, 0, none⟩)] w fun e w' => e = .returned (.tuple #[]) ∧ Holds w' B bd bs n [] ∧ Mod (SF B bd bs) w w' := by
  obtain ⟨ds, ss, h1, h2⟩ := h
  refine (clear_any B bd bs n ds ss S.length w h1).mono ?_
  rintro e w' ⟨rfl, h3, h4⟩
  exact ⟨rfl, ⟨ds, ss, h3, h2.clear⟩, h4⟩
theorem addAll_step (l : List In) (S : List Nat) (c k x : Nat) (h : S[k]? = some x) : addAll l [] (rootsOf l (S.take (k + 1)) c) = if into l c x then Go.Rg.add l (l.length + 1) (addAll l [] (rootsOf l (S.take k) c)) (x + 1) else addAll l [] (rootsOf l (S.take k) c) := by
  rw [roots_snoc h]
  by_cases hi : into l c x = true
  · rw [if_pos hi, if_pos hi, addAll_snoc]
  · rw [if_neg hi, if_neg hi, List.append_nil]
/-- dfa.run: behind the byte c, the set that is come to. -/
theorem run_any (l : List In) (hs : Sound l) (D pb po pc K B bd bs B' bd' bs' c : Nat) (S T : List Nat) (w : World) (hD : D < K) (hB : K ≤ B) (hbd : K ≤ bd) (hbs : K ≤ bs) (hB' : K ≤ B') (hbd' : K ≤ bd') (hbs' : K ≤ bs')
    (hap : ∀ k, SF B bd bs k → ¬ SF B' bd' bs' k) (hc : c < 256)
    (h0 : w.cell? ⟨D, 0, none⟩ = some (.slice (some ⟨pb, po, none⟩) l.length pc)) (hP : PAt w pb po l K) (hS : Holds w B bd bs l.length S) (hT : Holds w B' bd' bs' l.length T) :
    Calls Tryd.prog 88 #[.pointer (some ⟨D, 0, none⟩), .pointer (some ⟨B, 0, none⟩), .pointer (some ⟨B', 0, none⟩), .int .u8 (c : Int)] w fun e w' => ∃ b : Bool, e = .returned (.bool b) ∧ Holds w' B' bd' bs' l.length (addAll l [] (rootsOf l S c)) ∧ Mod (SF B' bd' bs') w w' := by
  have hF : ∀ k, k < K → ¬ SF B' bd' bs' k := fun k hk h => by unfold SF at h; omega
  have hll := hP.len
  have hlS := hS.le
  have HF := Lib.hid hF
  have HP := Lib.hid hP
  have HS := Lib.hid hS
  have HC := Lib.hid h0
  have HAP := Lib.hid hap
  have HS0 := Lib.hid hs
  have HT := Lib.hid hT
  clear hF hP hS h0 hap hs hT
  go_enter Tryd.func88, Tryd.ntmps88
  go_wp2_with fail
  refine (setClear B' bd' bs' l.length T w HT.out).mono ?_
  rintro e w1 ⟨rfl, hh1, hm1⟩
  have HH1 := Lib.hid hh1
  have HM1 := Lib.hid hm1
  clear hh1 hm1
  go_wp2_with fail
  go_loopw [9, 10] (fun mv ix wr => ∃ (k : Nat) (b : Bool), mv = .bool b ∧ ix = .int .u64 k ∧ k ≤ S.length ∧ Hid (Holds wr B' bd' bs' l.length (addAll l [] (rootsOf l (S.take k) c))) ∧ Hid (Mod (SF B' bd' bs') w wr)) (fun _ ix _ => S.length - (intOf ix).toNat)
  case atStart => exact ⟨0, false, rfl, rfl, Nat.zero_le _, Lib.hid (by simpa [rootsOf, addAll] using HH1.out), HM1⟩
  case round =>
    obtain ⟨k, b, rfl, rfl, hk, HH, HM⟩ := hrel
    have hlen := setLen B bd bs l.length S wr (HS.out.mod HM.out HAP.out) (by omega)
    by_cases hlt : k < S.length
    · obtain ⟨x, ex⟩ : ∃ x, S[k]? = some x := ⟨_, List.getElem?_eq_getElem hlt⟩
      have hget := setGet B bd bs l.length S k x wr (HS.out.mod HM.out HAP.out) ex (by omega)
      have hxl : x < l.length := by obtain ⟨_, _, _, h2⟩ := HS.out; exact h2.lt x (List.mem_of_getElem? ex)
      obtain ⟨i, hi⟩ : ∃ i, l[x]? = some i := ⟨_, List.getElem?_eq_getElem hxl⟩
      obtain ⟨b1, o1, hb1, hp0, hI⟩ := (HP.out.mod HM.out HF.out).at_ x i hi
      obtain ⟨i0, i1, i2, i3, i4, i5⟩ := hI
      have hd0 : wr.cell? ⟨D, 0, none⟩ = some (.slice (some ⟨pb, po, none⟩) l.length pc) := HM.out.cell HC.out (HF.out D hD)
      obtain ⟨_, _, q3, q4⟩ := HS0.out x i hi
      have hstep := addAll_step l S c k x ex
      have hin : into l c x = (i.op == 3 && decide (i.lo ≤ c) && decide (c ≤ i.hi)) := by unfold into; rw [hi]
      rw [hin] at hstep
      have HST := Lib.hid hstep
      have HI := Lib.hid hi
      clear hstep hin hi ex
      rcases show i.op = 0 ∨ i.op = 1 ∨ i.op = 2 ∨ i.op = 3 by omega with e0 | e0 | e0 | e0
      all_goals have E0 := Lib.hid e0
      · rw [e0] at i0
        go_wp2_with fail
        refine hlen.mono ?_
        rintro e w2 ⟨rfl, rfl⟩
        go_wp2_with fail
        refine hget.mono ?_
        rintro e w2 ⟨rfl, rfl⟩
        go_wp2_with fail
        go_roundw
        case rel => exact ⟨k + 1, true, rfl, by go_num, hlt, Lib.hid (by rw [HST.out, E0.out]; exact HH.out), HM⟩
        case measure => simp [intOf]; omega
      · rw [e0] at i0
        go_wp2_with fail
        refine hlen.mono ?_
        rintro e w2 ⟨rfl, rfl⟩
        go_wp2_with fail
        refine hget.mono ?_
        rintro e w2 ⟨rfl, rfl⟩
        go_wp2_with fail
        go_roundw
        case rel => exact ⟨k + 1, b, rfl, by go_num, hlt, Lib.hid (by rw [HST.out, E0.out]; exact HH.out), HM⟩
        case measure => simp [intOf]; omega
      · rw [e0] at i0
        go_wp2_with fail
        refine hlen.mono ?_
        rintro e w2 ⟨rfl, rfl⟩
        go_wp2_with fail
        refine hget.mono ?_
        rintro e w2 ⟨rfl, rfl⟩
        go_wp2_with fail
        go_roundw
        case rel => exact ⟨k + 1, b, rfl, by go_num, hlt, Lib.hid (by rw [HST.out, E0.out]; exact HH.out), HM⟩
        case measure => simp [intOf]; omega
      · rw [e0] at i0
        have hx1 := q3 E0.out
        by_cases h1 : i.lo ≤ c
        · by_cases h2 : c ≤ i.hi
          · have hgood : Go.Rg.Good l (addAll l [] (rootsOf l (S.take k) c)) := (addAll_closure l HS0.out _ (roots_lt HS0.out)).good
            have hadd := dadd_any l HS0.out D pb po pc K B' bd' bs' hD hB' hbd' hbs' (l.length + 1) _ (x + 1) wr hd0 (HP.out.mod HM.out HF.out) HH.out hgood hx1 (by omega)
            have hxe : ((x + 1 : Nat) : Int) = (x : Int) + 1 := by omega
            rw [hxe] at hadd
            clear hgood
            go_wp2_with fail
            refine hlen.mono ?_
            rintro e w2 ⟨rfl, rfl⟩
            go_wp2_with fail
            refine hget.mono ?_
            rintro e w2 ⟨rfl, rfl⟩
            go_wp2_with fail
            refine hadd.mono ?_
            rintro e w3 ⟨rfl, hh3, hm3⟩
            have HH3 := Lib.hid hh3
            have HM3 := Lib.hid hm3
            clear hh3 hm3
            go_wp2_with fail
            go_roundw
            case rel => exact ⟨k + 1, b, rfl, by go_num, hlt, Lib.hid (by rw [HST.out, E0.out]; simp [h1, h2]; exact HH3.out), Lib.hid (HM.out.trans HM3.out)⟩
            case measure => simp [intOf]; omega
          · go_wp2_with fail
            refine hlen.mono ?_
            rintro e w2 ⟨rfl, rfl⟩
            go_wp2_with fail
            refine hget.mono ?_
            rintro e w2 ⟨rfl, rfl⟩
            go_wp2_with fail
            go_roundw
            case rel => exact ⟨k + 1, b, rfl, by go_num, hlt, Lib.hid (by rw [HST.out, E0.out]; simp [h2]; exact HH.out), HM⟩
            case measure => simp [intOf]; omega
        · go_wp2_with fail
          refine hlen.mono ?_
          rintro e w2 ⟨rfl, rfl⟩
          go_wp2_with fail
          refine hget.mono ?_
          rintro e w2 ⟨rfl, rfl⟩
          go_wp2_with fail
          go_roundw
          case rel => exact ⟨k + 1, b, rfl, by go_num, hlt, Lib.hid (by rw [HST.out, E0.out]; simp [h1]; exact HH.out), HM⟩
          case measure => simp [intOf]; omega
    · obtain rfl : k = S.length := by omega
      go_wp2_with fail
      refine hlen.mono ?_
      rintro e w2 ⟨rfl, rfl⟩
      go_wp2_with fail
      go_ret
      exact ⟨b, rfl, by have := HH.out; rwa [List.take_length] at this, HM.out⟩
end Go.Proofs.YtnpchkohfomagaaDoor.Rgw
