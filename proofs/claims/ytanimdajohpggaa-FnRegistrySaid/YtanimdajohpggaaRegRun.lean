/- impl.Registry: its walk. -/
import Derived.Test.YtanimdajohpggaaRegGood
namespace Go.Proofs.Ytanimdajohpggaa.Node
open Go.ChangeShapes Go.WideShapes Go.ChangeAt Go.RowKit Go.Trav Go.Sort
set_option linter.unusedVariables false
set_option maxRecDepth 100000
theorem Try.info3 : (Try.prog.info? 3).map (fun i => (i.zero, i.size, i.bytes)) = some (some (.int .i64 0), 1, 8) := by kernel_rfl
def iV (x : Int) : Value := .int .i64 x
/-- The answers so far. -/
structure OutAt (w wr : World) (R Pb T i : Nat) (bn : Nat → Nat) (nv : Nat → Value) (v : Value) (gs : List Int) : Prop where
  own : wr.ownsRow w.heap.size 3 1 v gs.length (gs.map iV)
  far : ∀ g, v.ownBlock = some g → w.heap.size ≤ g ∧ g < wr.heap.size ∧ g ≠ R ∧ g ≠ Pb ∧ g ≠ T ∧ ∀ k, k < i → ¬ fp (bn k) (nv k) g
theorem reg_start {w w1 : World} {R Pb T rows mru : Nat} {S : List St} (h : RegAt w1 R Pb T rows mru (List.replicate (rows * mru) (0, none))) (hb : Below w.heap.size w w1) (lo : w.heap.size ≤ R ∧ w.heap.size ≤ Pb ∧ w.heap.size ≤ T ∧ R ≠ Pb ∧ T ≠ Pb ∧ R ≠ T) :
    RegSt w w1 R Pb T rows mru 0 S (fun _ => 0) (fun _ => .pointer none) (List.replicate (rows * mru) (0, none)) :=
  ⟨hb, h, TInv.start _ _ _, fun _ => Big.start _ _ _ _, lo, fun k hk => absurd hk (by omega), fun k k' hk => absurd hk (by omega), fun j a k hk => absurd hk (by omega)⟩
theorem OutAt.step {w w0 wr w2 : World} {R Pb T i : Nat} {bn : Nat → Nat} {nv : Nat → Value} {v : Value} {gs : List Int} (h : OutAt w w0 R Pb T i bn nv v gs) (hb : Below w0.heap.size w0 wr) {F : Nat → Prop} (hm : Mod F wr w2)
    (hF : ∀ g, F g → g = T ∨ g = Pb ∨ ∃ k, k < i ∧ fp (bn k) (nv k) g) {B : Nat} {nvx : Value} (hfp : ∀ g, fp B nvx g → w0.heap.size ≤ g) : OutAt w w2 R Pb T (i + 1) (upd bn i B) (upd nv i nvx) v gs := by
  refine ⟨ownsRow_mod (ownsRow_below h.own hb (fun g hg => (h.far g hg).2.1)) hm (fun g hg hf => ?_), fun g hg => ?_⟩
  · obtain ⟨_, _, _, a, b, c⟩ := h.far g hg
    rcases hF g hf with e | e | ⟨k, hk, e⟩
    · exact b e
    · exact a e
    · exact c k hk e
  · obtain ⟨a, b, c, d, e, f⟩ := h.far g hg
    refine ⟨a, Nat.lt_of_lt_of_le b (Nat.le_trans hb.size hm.size), c, d, e, fun k hk hf => ?_⟩
    rcases Nat.lt_or_ge k i with h2 | h2
    · rw [upd_lt _ _ h2, upd_lt _ _ h2] at hf
      exact f k h2 hf
    · obtain rfl : k = i := by omega
      rw [upd_eq, upd_eq] at hf
      have := hfp g hf
      omega
theorem out_next {w w2 w3 : World} {R Pb T rows mru i : Nat} {S : List St} {bn : Nat → Nat} {nv : Nat → Value} {tab : List RC} {v : Value} {gs : List Int} {g : Int} {news : Obj} {ao : Option Addr} {cap : Nat} (h : RegSt w w2 R Pb T rows mru i S bn nv tab) (ho : OutAt w w2 R Pb T i bn nv v gs)
    (hown : w3.ownsRow w.heap.size 3 1 (.slice ao (gs.length + 1) cap) (gs.length + 1) (gs.map iV ++ #[iV g].toList)) (hgr : (w2.alloc news).grownBy w3 v.ownBlock) (hat : (Value.slice ao (gs.length + 1) cap).ownBlock = v.ownBlock ∨ (Value.slice ao (gs.length + 1) cap).ownBlock = some (w2.heap.size + 1)) :
    RegSt w w3 R Pb T rows mru i S bn nv tab ∧ OutAt w w3 R Pb T i bn nv (.slice ao (gs.length + 1) cap) (gs ++ [g]) := by
  have m1 : Mod (fun k => v.ownBlock = some k) w2 w3 := ((Mod.refl _ w2).alloc news).grown hgr fun k hk _ => hk
  have h3 := h.mod m1 fun g _ hg => by
    obtain ⟨a, _, c⟩ := ho.far g hg
    exact ⟨a, c⟩
  refine ⟨h3, ⟨?_, fun k hk => ?_⟩⟩
  · have e1 : (gs ++ [g]).length = gs.length + 1 := by simp
    have e2 : (gs ++ [g]).map iV = gs.map iV ++ #[iV g].toList := by simp
    rw [e1, e2]
    exact hown
  · rcases hat with e | e
    · rw [e] at hk
      obtain ⟨a, b, c⟩ := ho.far k hk
      exact ⟨a, Nat.lt_of_lt_of_le b m1.size, c⟩
    · rw [e] at hk
      simp only [Option.some.injEq] at hk
      have hR := block_lt h.reg.blk
      obtain ⟨hd, hp⟩ := h.reg.pool
      have hP := block_lt hp
      have hT := block_lt h.reg.tbl
      have hs := h.bel.size
      have hsz : k < w3.heap.size := by
        rcases hown.2 with ⟨e0, _⟩ | ⟨g', cap', cur, ev, _, hh, _⟩
        · rw [e0] at e; simp [Value.ownBlock] at e
        · rw [ev] at e
          simp only [Value.ownBlock, Option.some.injEq] at e
          have := block_lt hh
          omega
      refine ⟨by omega, hsz, by omega, by omega, by omega, fun k' hk' hf => ?_⟩
      have := (h.own k' hk' k hf).2.1
      omega
theorem hit_or_miss (nd : Nat → ND) (f : Bool) (o : Int) (l : List Arc) (tab : List RC) (st n : Nat) (hn : st + n ≤ tab.length) :
    (∃ m a, HitAt nd f o l tab st n m a) ∨ (∀ k, k < n → ∀ x, tab[st + k]? = some x → hit nd f o l x = false) := by
  by_cases hex : ∃ m, m < n ∧ ∃ x, tab[st + m]? = some x ∧ hit nd f o l x = true
  · left
    obtain ⟨m, hm⟩ := hex
    induction m using Nat.strongRecOn with
    | _ m ih =>
      obtain ⟨hlt, ⟨a, p⟩, hx, hh⟩ := hm
      by_cases hl : ∃ m', m' < m ∧ ∃ x, tab[st + m']? = some x ∧ hit nd f o l x = true
      · obtain ⟨m', h1, h2⟩ := hl
        exact ih m' h1 ⟨by omega, h2⟩
      · refine ⟨m, a, hlt, ⟨p, hx, hh⟩, fun k hk x hx' => ?_⟩
        cases hb : hit nd f o l x
        · rfl
        · exact absurd ⟨k, hk, x, hx', hb⟩ hl
  · right
    intro k hk x hx
    cases hb : hit nd f o l x
    · rfl
    · exact absurd ⟨k, hk, x, hx, hb⟩ hex
theorem registry_any (v : Value) (n : Nat) (SV : List StV) (rows mru : Nat) (w : World) (h : States w v n SV) (hn : n ≤ 200) (hla : ∀ x ∈ SV, x.l.length ≤ 2147483647) (hm1 : 1 ≤ mru) (hm2 : mru ≤ 1000) (hr1 : 1 ≤ rows) (hr2 : rows ≤ 1000) :
    Calls Try.prog 10 #[v, .int .i64 (rows : Int), .int .i64 (mru : Int)] w fun e w' => ∃ (ov : Value) (gs : List Int), e = .returned ov ∧ Reads w' ov n 1 (gs.map iV) ∧ (∀ i g, gs[i]? = some g → Good (SV.map stOf) mru i g) ∧ Below w.heap.size w w' := by
  obtain ⟨ao, cap, rfl⟩ := h.cells.form
  have H := Lib.hid h
  clear h
  go_enter Try.func10, Try.ntmps10
  go_wp2_with fail
  refine (zzregistry_any rows mru _ hm1 hm2 hr1 hr2).mono ?_
  rintro e w1 ⟨R, Pb, T, rfl, hreg, hb1, l1, l2, l3, n1, n2, n3⟩
  have HREG := Lib.hid hreg
  clear hreg
  go_wp2_with fail
  have hst : RegSt w w1 R Pb T rows mru 0 (SV.map stOf) (fun _ => 0) (fun _ => .pointer none) (List.replicate (rows * mru) (0, none)) := reg_start HREG.out hb1 ⟨l1, l2, l3, n1, n2, n3⟩
  have HST := Lib.hid hst
  clear hst HREG hb1
  go_loopw [8, 21] (fun ov ix wr => ∃ (i : Nat) (gs : List Int) (bn : Nat → Nat) (nv : Nat → Value) (tab : List RC), ix = .int .i64 i ∧ i ≤ n ∧ Hid (gs.length = i) ∧ Hid (RegSt w wr R Pb T rows mru i (SV.map stOf) bn nv tab) ∧ Hid (OutAt w wr R Pb T i bn nv ov gs) ∧ Hid (∀ (j : Nat) g, gs[j]? = some g → Good (SV.map stOf) mru j g)) (fun _ ix _ => n - (intOf ix).toNat)
  case atStart => exact ⟨0, [], _, _, _, rfl, Nat.zero_le _, Lib.hid rfl, HST, Lib.hid ⟨World.ownsRow_nil _ _ _ _, fun g hg => by simp [Value.ownBlock] at hg⟩, Lib.hid (fun j g hg => by simp at hg)⟩
  case round =>
    obtain ⟨i, gs, bn, nv, tab, rfl, hi, HL, HS, HO, HG⟩ := hrel
    rename World => w0
    by_cases hlt : i < n
    · obtain ⟨b, off, _, x, hx, e1, c0, c1, c2, ha⟩ := (H.out.below HS.out.bel).at hlt
      cases hx
      obtain ⟨xa, xcap, hxv⟩ := ha.form
      rw [hxv] at c2 ha
      have E1 := Lib.hid e1
      have HA := Lib.hid ha
      clear e1 ha hxv
      go_wp2_with fail
      refine (node_any x.f x.o _).mono ?_
      rintro e w2 ⟨rfl, rfl⟩
      have hN0 := node_new x.f x.o (w0.alloc (.cells #[.bool x.f, .int .u64 x.o, .slice xa x.l.length xcap] 28))
      have hB : (w0.alloc (.cells #[.bool x.f, .int .u64 x.o, .slice xa x.l.length xcap] 28 (0, 0))).heap.size = w0.heap.size + 1 := by simp
      rw [hB] at hN0
      have HN0 := Lib.hid hN0
      clear hN0 hB
      go_wp2_with fail
      go_loopw [34] (fun y w3 => ∃ (k : Nat) (nvx : Value), y = .int .i64 k ∧ k ≤ x.l.length ∧ Hid (NodeAt w3 (w0.heap.size + 1) nvx x.f x.o (x.l.take k)) ∧ Below w0.heap.size w0 w3 ∧ Hid (∀ g, fp (w0.heap.size + 1) nvx g → w0.heap.size ≤ g)) (fun y _ => x.l.length - (intOf y).toNat)
      case atStart =>
        refine ⟨0, _, rfl, Nat.zero_le _, by simpa using HN0, ((Below.refl _ _).alloc (Nat.le_refl _) _).alloc (by simp) _, Lib.hid (fun g hg => ?_)⟩
        rcases hg with rfl | hg
        · omega
        · simp [Value.ownBlock] at hg
      case round =>
        obtain ⟨k, nvx, rfl, hk, HN, hb, HF⟩ := hrel
        by_cases hlk : k < x.l.length
        · obtain ⟨b', off', _, i1, o1, t1, hx', e1, d0, d1, d2⟩ := Arcs.at (Reads.below HA.out hb) hlk
          cases hx'
          have E2 := Lib.hid e1
          clear e1
          have hl := hla x (List.mem_of_getElem? E1.out)
          have hlk' : (x.l.take k).length < 68719476736 := by simp; omega
          have hN1 : NodeAt (wr.alloc (.cells #[.int .u8 i1, .int .u64 o1, .int .i64 t1] 63)) (w0.heap.size + 1) nvx x.f x.o (x.l.take k) := HN.out.below ((Below.refl _ _).alloc (Nat.le_refl _) _)
          go_wp2_with (go_at_call 31; refine (arc_any _ _ _ _ _ _ _ _ _ hN1 hlk').mono ?_; rintro e w4 ⟨rfl, nvx', n1', m1, fr1⟩)
          go_roundw
          case rel =>
            refine ⟨k + 1, nvx', by go_num, by omega, Lib.hid (by rw [take_snoc' _ _ _ E2.out]; exact n1'), ?_, Lib.hid (fun g hg => ?_)⟩
            · exact (hb.alloc hb.size _).trans (m1.toBelow (by have := hb.size; simp; omega) (fun g _ hg => HF.out g hg))
            · rcases fr1 g hg with h1 | h1
              · exact HF.out g h1
              · have := hb.size
                simp at h1
                omega
          case measure => simp [intOf]; omega
        · obtain rfl : k = x.l.length := by omega
          have HN' : Hid (NodeAt wr (w0.heap.size + 1) nvx x.f x.o x.l) := Lib.hid (by have := HN.out; rwa [List.take_length] at this)
          clear HN
          have hHS1 := HS.out.below hb
          have hs0 : (SV.map stOf)[i]? = some (stOf x) := by rw [List.getElem?_map, E1.out]; rfl
          have hrl : rowOf rows (stOf x) < rows := hrow_lt rows hr1 _ _ _
          have hmul := mul_row (mru := mru) hrl
          have hlen := hHS1.reg.len
          have hfp : ∀ g, fp (w0.heap.size + 1) nvx g → w0.heap.size ≤ g ∧ g < wr.heap.size := fun g hg => ⟨HF.out g hg, HN'.out.lt g hg⟩
          have HS0 := Lib.hid hs0
          have HFP := Lib.hid hfp
          have HS1 := Lib.hid hHS1
          have HRL := Lib.hid hrl
          have hnd : NodeAt wr (w0.heap.size + 1) nvx (stOf x).1 (stOf x).2.1 (stOf x).2.2 := HN'.out
          rcases hit_or_miss (ndOf (SV.map stOf) bn nv i) (stOf x).1 (stOf x).2.1 (stOf x).2.2 tab (rowOf rows (stOf x) * mru) mru (by omega) with ⟨m, a, hh⟩ | hmiss
          · obtain ⟨hgood, hnf, p, hx⟩ := hHS1.good_hit hs0 hrl hh
            have HH := Lib.hid hh
            have HGood : Hid (Good (SV.map stOf) mru i a) := Lib.hid hgood
            have HNF := Lib.hid hnf
            have HX0 := Lib.hid hx
            have HMLT := Lib.hid hh.lt
            clear hh hgood hnf hx hs0 hfp hHS1 hrl hmul hlen
            have HND := Lib.hid hnd
            clear hnd
            go_wp2_with fail
            refine (zzentry_hit R T Pb (w0.heap.size + 1) rows mru m i tab _ _ _ _ nvx a _ HS1.out.reg hm1 hm2 hr1 hr2 (HS1.out.rowNodes _ _) HND.out HH.out).mono ?_
            rintro e w4 ⟨rfl, hT4, hm4⟩
            have hS2 := HS.out.hit hb HFP.out hm4 HRL.out HMLT.out hT4 HX0.out HNF.out
            have hO2 := HO.out.step hb hm4 (fun g hg => Or.inl hg) (B := w0.heap.size + 1) (nvx := nvx) (fun g hg => HF.out g hg)
            have HS2 := Lib.hid hS2
            have HO2 := Lib.hid hO2
            clear hS2 hO2 hT4 hm4
            go_wp2_with (at_builtin; refine wpList_append_one rfl (.tmp 56) (.tmp 58) 29 rfl w.heap.size 3 _ 1 8 Try.underlying29 Try.info3 rfl (by decide) (by decide) _ _ _ rfl HO2.out.own #[iV a] _ _ rfl (by simp) rfl (by simp [Value.oneCell', iV]) (by have := HL.out; omega) (HS2.out.bel.size) ?_; intro ao5 cap5 w5 hown5 hgr5 hat5; have HX := Lib.hid (out_next HS2.out HO2.out hown5 hgr5 hat5); clear hown5 hgr5 hat5)
            go_roundw
            case rel =>
              refine ⟨i + 1, gs ++ [a], _, _, _, by go_num, by omega, Lib.hid (by simp [HL.out]), Lib.hid HX.out.1, Lib.hid (by have := HX.out.2; rw [HL.out] at this ⊢; exact this), Lib.hid (fun j g hg => ?_)⟩
              rcases Nat.lt_or_ge j gs.length with h1 | h1
              · rw [List.getElem?_append_left h1] at hg
                exact HG.out j g hg
              · have h2 := (List.getElem?_eq_some_iff.1 hg).1
                simp at h2
                obtain rfl : j = gs.length := by omega
                simp at hg
                subst hg
                rw [HL.out]
                exact HGood.out
            case measure => simp [intOf]; omega
          · obtain ⟨hgood, hF⟩ := hHS1.good_miss hs0 hmiss
            have ex := getD_of (tab := tab) (k := rowOf rows (stOf x) * mru + (mru - 1)) (by omega)
            generalize hgd : tab[rowOf rows (stOf x) * mru + (mru - 1)]?.getD (0, none) = y at ex
            obtain ⟨aL, pL⟩ := y
            have hTB : ∀ q, pL = some q → q.block ≠ T := by
              intro q e
              subst e
              obtain ⟨kk, hkk, _, rfl⟩ := hHS1.inv.ptr _ _ _ ex
              exact (hHS1.own kk hkk (bn kk) (Or.inl rfl)).2.2.2.2
            have hold : ∀ q, pL = some q → ∃ kk, kk < i ∧ q = (⟨bn kk, 0, none⟩ : Addr) := by
              intro q e
              subst e
              obtain ⟨kk, hkk, _, e⟩ := hHS1.inv.ptr _ _ _ ex
              exact ⟨kk, hkk, e⟩
            have hil : i < (SV.map stOf).length := (List.getElem?_eq_some_iff.1 hs0).1
            have HMS := Lib.hid hmiss
            have HGood : Hid (Good (SV.map stOf) mru i (-1)) := Lib.hid hgood
            have HFF := Lib.hid hF
            have HX0 := Lib.hid ex
            have HTB := Lib.hid hTB
            have HOLD := Lib.hid hold
            have HIL := Lib.hid hil
            clear hmiss hgood hF ex hTB hold hs0 hfp hHS1 hrl hmul hlen hgd hil
            have HND := Lib.hid hnd
            clear hnd
            go_wp2_with fail
            refine (zzentry_miss R T Pb (w0.heap.size + 1) rows mru i tab _ _ _ _ nvx aL pL _ HS1.out.reg hm1 hm2 hr1 hr2 (HS1.out.rowNodes _ _) HND.out HMS.out HX0.out n2 HTB.out).mono ?_
            rintro e w4 ⟨rfl, hT4, hP4, hm4⟩
            have hS2 := HS.out.miss hb HFP.out (m := mru - 1) hm4 HS0.out HRL.out (by omega) HIL.out hT4 hP4 HX0.out HND.out HFF.out
            have hO2 := HO.out.step hb hm4 (fun g hg => by
              rcases hg with e | e | ⟨q, e, e'⟩
              · exact Or.inl e
              · exact Or.inr (Or.inl e)
              · obtain ⟨kk, hkk, rfl⟩ := HOLD.out q e
                exact Or.inr (Or.inr ⟨kk, hkk, Or.inl e'⟩)) (B := w0.heap.size + 1) (nvx := nvx) (fun g hg => HF.out g hg)
            have HS2 := Lib.hid hS2
            have HO2 := Lib.hid hO2
            clear hS2 hO2 hT4 hm4 hP4
            go_wp2_with (at_builtin; refine wpList_append_one rfl (.tmp 56) (.tmp 58) 29 rfl w.heap.size 3 _ 1 8 Try.underlying29 Try.info3 rfl (by decide) (by decide) _ _ _ rfl HO2.out.own #[iV (-1)] _ _ rfl (by simp) rfl (by simp [Value.oneCell', iV]) (by have := HL.out; omega) (HS2.out.bel.size) ?_; intro ao5 cap5 w5 hown5 hgr5 hat5; have HX := Lib.hid (out_next HS2.out HO2.out hown5 hgr5 hat5); clear hown5 hgr5 hat5)
            go_roundw
            case rel =>
              refine ⟨i + 1, gs ++ [-1], _, _, _, by go_num, by omega, Lib.hid (by simp [HL.out]), Lib.hid HX.out.1, Lib.hid (by have := HX.out.2; rw [HL.out] at this ⊢; exact this), Lib.hid (fun j g hg => ?_)⟩
              rcases Nat.lt_or_ge j gs.length with h1 | h1
              · rw [List.getElem?_append_left h1] at hg
                exact HG.out j g hg
              · have h2 := (List.getElem?_eq_some_iff.1 hg).1
                simp at h2
                obtain rfl : j = gs.length := by omega
                simp at hg
                subst hg
                rw [HL.out]
                exact HGood.out
            case measure => simp [intOf]; omega
    · obtain rfl : i = n := by omega
      go_wp2
      go_ret
      refine ⟨_, gs, rfl, ?_, HG.out, HS.out.bel⟩
      have := reads_of_owns HO.out.own
      rw [HL.out] at this
      exact this
end Go.Proofs.Ytanimdajohpggaa.Node
