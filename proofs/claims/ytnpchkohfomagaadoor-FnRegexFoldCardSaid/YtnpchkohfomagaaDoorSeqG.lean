/- NewSequencesPrealloc: its walk, with rows and buffers given ahead. -/
import Derived.Test.YtnpchkohfomagaaDoorSeq3
import Derived.Test.YtnpchkohfomagaaDoorBits32
import Derived.Laws.Bits64
namespace Go.Proofs.YtnpchkohfomagaaDoor.Seq
open Go.ChangeShapes Go.WideShapes Go.ChangeAt Go.RowKit Go.Trav Go.Utf
set_option linter.unusedVariables false
set_option maxRecDepth 100000
theorem Glob.two {w : World} (h : Glob w) : (∀ X Y : Obj, ((w.alloc X).alloc Y).cell? ⟨8, 0, none⟩ = some (.int .i32 65535)) ∧ (∀ X Y : Obj, ((w.alloc X).alloc Y).cell? ⟨8, 1, none⟩ = some (.int .i32 0)) := by
  have hl := h.lt.1
  have hb : ∀ X Y : Obj, Below w.heap.size w ((w.alloc X).alloc Y) := fun X Y => ((Below.refl w.heap.size w).alloc (Nat.le_refl _) _).alloc (by simp) _
  exact ⟨fun X Y => ((hb X Y).cell (p := ⟨8, 0, none⟩) hl).trans h.s0, fun X Y => ((hb X Y).cell (p := ⟨8, 1, none⟩) hl).trans h.s1⟩
theorem Glob.one {w : World} (h : Glob w) : (∀ X : Obj, (w.alloc X).cell? ⟨9, 0, none⟩ = some (.int .u8 255)) ∧ (∀ X : Obj, (w.alloc X).cell? ⟨9, 1, none⟩ = some (.int .u8 0)) := by
  have hl := h.lt.2
  have hb : ∀ X : Obj, Below w.heap.size w (w.alloc X) := fun X => (Below.refl w.heap.size w).alloc (Nat.le_refl _) _
  exact ⟨fun X => ((hb X).cell (p := ⟨9, 0, none⟩) hl).trans h.r0, fun X => ((hb X).cell (p := ⟨9, 1, none⟩) hl).trans h.r1⟩
def mx (m : Nat) : Int := if m = 1 then 127 else if m = 2 then 2047 else 65535
def pw (j : Nat) : Int := if j = 1 then 64 else if j = 2 then 4096 else 262144
theorem mx_bd (m : Nat) : 127 ≤ mx m ∧ mx m ≤ 65535 := by
  unfold mx; split
  · omega
  · split <;> omega
theorem max_any (m : Nat) (h1 : 1 ≤ m) (h2 : m ≤ 3) (w : World) : Calls Tryd.prog 95 #[.int .i64 m] w fun e w' => e = .returned (.int .i32 (mx m)) ∧ w = w' := by
  rcases (show m = 1 ∨ m = 2 ∨ m = 3 by omega) with rfl | rfl | rfl
  · exact max1 w
  · exact max2 w
  · exact max3 w
theorem wgt_le {q : Int × Int} (h : Bd q) : wgt q ≤ 4000000 := by
  unfold Bd at h; unfold wgt; split <;> omega
theorem len_phi (l : List (Int × Int)) : l.length ≤ phi l := by
  induction l with
  | nil => simp
  | cons q t ih => rw [phi_cons, List.length_cons]; have := wgt_pos q; omega
theorem RAt.set1 {w : World} {B : Nat} {s e x : Int} (h : RAt w B s e) : RAt (w.setCell ⟨B, 1, none⟩ (.int .i32 x)) B s x := block_set (i := 1) (u := .int .i32 x) h
theorem RAt.set0 {w : World} {B : Nat} {s e x : Int} (h : RAt w B s e) : RAt (w.setCell ⟨B, 0, none⟩ (.int .i32 x)) B x e := block_set (i := 0) (u := .int .i32 x) h
theorem mod_set (w : World) (B j : Nat) (v : Value) : Mod (fun k => k = B) w (w.setCell ⟨B, j, none⟩ v) := Mod.setCell (F := fun k => k = B) (Mod.refl _ w) (p := ⟨B, j, none⟩) (fun _ => rfl) v
theorem eq_sr (a b c d : Int) (v : Bool) (h : (a = c ∧ b = d) ↔ v = true) (w : World) : (Op.equalIn 10000 187 (.agg #[.int .i32 a, .int .i32 b]) (.agg #[.int .i32 c, .int .i32 d])).run Tryd.prog w = .ok v w := by
  by_cases h1 : a = c <;> by_cases h2 : b = d <;> simp [go_sem, h1, h2] <;> simp [h1, h2] at h <;> simp [h]
theorem eq_rg (a b c d : Int) (v : Bool) (h : (a = c ∧ b = d) ↔ v = true) (w : World) : (Op.equalIn 10000 195 (.agg #[.int .u8 a, .int .u8 b]) (.agg #[.int .u8 c, .int .u8 d])).run Tryd.prog w = .ok v w := by
  by_cases h1 : a = c <;> by_cases h2 : b = d <;> simp [go_sem, h1, h2] <;> simp [h1, h2] at h <;> simp [h]
theorem mem_start (F : Nat → Prop) (w w' : World) (lo hi : Int) (gs ge : Nat) (ao : Option Addr) (cap : Nat) (oo : Option Addr) (oc : Nat) (hg : Glob w) (hF : ¬ F 8 ∧ ¬ F 9) (hb : Mod F w w') (h1 : Buf w' gs 4) (h2 : Buf w' ge 4) (hne : gs ≠ ge) (hgF : F gs ∧ F ge)
    (hs : w'.ownsRow 0 187 2 (.slice ao 0 cap) 0 []) (hn : ∀ k, (Value.slice ao 0 cap).ownBlock = some k → F k ∨ w.heap.size ≤ k) (ho : w'.ownsRow 0 164 1 (.slice oo 0 oc) 0 []) (hoF : ∀ k, (Value.slice oo 0 oc).ownBlock = some k → F k ∨ w.heap.size ≤ k) :
    Mem F w (w'.alloc (.cells #[.int .i32 lo, .int .i32 hi] 187 (0, 0))) w'.heap.size gs 4 ge 4 lo hi [] [] (.slice ao 0 cap) (.slice oo 0 oc) := by
  have hm : Mod (fun _ => False) w' (w'.alloc (.cells #[.int .i32 lo, .int .i32 hi] 187 (0, 0))) := (Mod.refl _ _).alloc _
  refine ⟨hb.alloc _, hg, hF, heap_alloc_at _ _ _ rfl, hb.size, h1.mod hm id, h2.mod hm id, ⟨Or.inl hgF.1, Or.inl hgF.2⟩, ⟨Nat.le_refl _, Nat.le_refl _⟩, hne, ownsRow_mod hs hm (fun _ _ => id), fun k hk => ?_, ⟨[], ownsRow_mod ho hm (fun _ _ => id), by simp⟩, hoF⟩
  have := (hs.lt k hk).2
  exact ⟨by omega, hn k hk⟩
set_option maxHeartbeats 4000000 in
theorem prealloc_any (F : Nat → Prop) (lo hi : Int) (gs ge : Nat) (sa : Option Addr) (sn sc : Nat) (sl : List Value) (oa : Option Addr) (on oc : Nat) (ol : List Value) (w : World) (hg : Glob w) (hb : Bd (lo, hi)) (hF : ¬ F 8 ∧ ¬ F 9)
    (hb0 : Buf w gs 4) (hb1 : Buf w ge 4) (hne : gs ≠ ge) (hgF : F gs ∧ F ge) (hs : w.ownsRow 0 187 2 (.slice sa sn sc) sn sl) (hsF : ∀ k, (Value.slice sa sn sc).ownBlock = some k → F k) (ho : w.ownsRow 0 164 1 (.slice oa on oc) on ol) (hoF : ∀ k, (Value.slice oa on oc).ownBlock = some k → F k) :
    Calls Tryd.prog 73 #[.int .i32 lo, .int .i32 hi, .slice oa on oc, .slice sa sn sc, .slice (some ⟨gs, 0, none⟩) 4 4, .slice (some ⟨ge, 0, none⟩) 4 4] w fun e w' => ∃ (ov sv : Value) (out : List (Int × Int)) (vs : List Value), e = .returned (.tuple #[ov, sv, .nilIface]) ∧ Done lo hi out ∧ w'.ownsRow 0 164 1 ov out.length vs ∧ (∀ (i : Nat) v q, vs[i]? = some v → out[i]? = some q → SeqAt w.heap.size w' v q) ∧
      (∃ m l, w'.ownsRow 0 187 2 sv m l) ∧ (∀ k, ov.ownBlock = some k → F k ∨ w.heap.size ≤ k) ∧ (∀ k, sv.ownBlock = some k → F k ∨ w.heap.size ≤ k) ∧ Buf w' gs 4 ∧ Buf w' ge 4 ∧ Mod F w w' := by
  have hgl := hg.lt
  have hown0 := ownsRow_cut hs (m := 0) (Nat.zero_le _)
  have howno := ownsRow_cut ho (m := 0) (Nat.zero_le _)
  rw [Nat.zero_mul, List.take_zero] at hown0 howno
  have hcut : ∀ (x : Option Addr) (n c k : Nat), (Value.slice x n c).ownBlock = some k ↔ (Value.slice x 0 c).ownBlock = some k := fun x n c k => by cases x <;> simp [Value.ownBlock]
  have HS0 := Lib.hid hown0
  have HO0 := Lib.hid howno
  have hsl : sn ≤ sc ∧ sc ≤ 9223372036854775807 := by
    rcases hs.2 with ⟨e, rfl⟩ | ⟨g, c, cur, e, _, _, h1, h2, _⟩
    · cases e; omega
    · cases e; unfold maxLen at h2; omega
  have hol : on ≤ oc ∧ oc ≤ 9223372036854775807 := by
    rcases ho.2 with ⟨e, rfl⟩ | ⟨g, c, cur, e, _, _, h1, h2, _⟩
    · cases e; omega
    · cases e; unfold maxLen at h2; omega
  have HB0 := Lib.hid hb0
  have HB1 := Lib.hid hb1
  clear hb0 hb1 hs ho hown0 howno
  go_enter Tryd.func73, Tryd.ntmps73
  go_wp2_with fail
  go_step3
  go_wp2_with fail
  refine (push_any 0 _ 0 [] lo hi _ HS0.out (by omega) (Nat.zero_le _)).mono ?_
  rintro e w1 ⟨ao, cap, rfl, hown, hm, hat⟩
  have hmF : Mod F w w1 := hm.mono fun k _ hk => hsF k ((hcut _ _ _ _).mpr hk)
  have hu8 : ∀ {g : Nat}, Buf w g 4 → ¬ (Value.slice sa 0 sc).ownBlock = some g := fun {g} hb hk => by
    obtain ⟨cur, e0, _⟩ := id hb
    obtain ⟨_, _, _, e1, e2⟩ := row_ty HS0.out hk _ e0
    cases e1; exact absurd e2 (by decide)
  have hb01 := HB0.out.mod hm (hu8 HB0.out)
  have hb11 := HB1.out.mod hm (hu8 HB1.out)
  have ho1 := ownsRow_mod HO0.out hm (fun g hg hs => by
    rcases HO0.out.2 with ⟨e, _⟩ | ⟨g', c, cur, e, _, hh, _⟩
    · rw [e] at hg; simp [Value.ownBlock] at hg
    · rw [e] at hg
      simp only [Value.ownBlock, Option.some.injEq] at hg
      subst hg
      obtain ⟨_, _, _, e1, e2⟩ := row_ty HS0.out hs _ hh
      cases e1; exact absurd e2 (by decide))
  have hat' : ∀ k, (Value.slice ao 0 cap).ownBlock = some k → F k ∨ w.heap.size ≤ k := by
    intro k hk
    rcases hat k ((hcut _ _ _ _).mpr hk) with h | h
    · exact Or.inl (hsF k ((hcut _ _ _ _).mpr h))
    · exact Or.inr h
  have HB01 := Lib.hid hb01
  have HB11 := Lib.hid hb11
  have HO1 := Lib.hid ho1
  have HAT := Lib.hid hat'
  have HMF := Lib.hid hmF
  have HO := Lib.hid hown
  clear hb01 hb11 ho1 hat hat' hm hmF hown HB0 HB1 HS0 HO0
  go_wp2_with fail
  refine (pop_yes 0 ao 0 cap [] (lo, hi) _ HO.out).mono ?_
  rintro e w2 ⟨rfl, hb2⟩
  have hcut2 := ownsRow_below (ownsRow_cut HO.out (m := 0) (by omega)) hb2 (fun g hg => ((ownsRow_cut HO.out (m := 0) (by omega)).lt g hg).2)
  have hm2 : Mod (fun _ => False) w1 w2 := Mod.of_below hb2
  have hM := mem_start F w w2 lo hi gs ge ao cap oa oc hg hF (HMF.out.trans (hm2.mono fun _ _ h => h.elim)) (HB01.out.mod hm2 id) (HB11.out.mod hm2 id) hne hgF (by simpa using hcut2) HAT.out (ownsRow_mod HO1.out hm2 (fun _ _ => id)) (fun k hk => Or.inl (hoF k ((hcut _ _ _ _).mpr hk)))
  have HM := Lib.hid hM
  clear hM hcut2 hm2 HB01 HB11 HO1 HAT HO hb2 HMF
  go_wp2_with fail
  go_step3
  go_wp2_with fail
  have hLE := live_or lo hi hb
  have HLE := Lib.hid hLE
  clear hLE
  obtain ⟨B, hB⟩ : ∃ B, B = w2.heap.size := ⟨_, rfl⟩
  rw [← hB] at HM ⊢
  clear hB
  go_loopg [15, 18] (phi [(lo, hi)]) (fun gk ov sv wr => ∃ (s e : Int) (st out : List (Int × Int)), Hid (Mem F w wr B gs 4 ge 4 s e st out sv ov) ∧ Hid (Ended lo hi s e st out ∨ (Live lo hi s e st out ∧ phi ((s, e) :: st) ≤ gk ∧ out.length + gk ≤ 4000000)) ∧ ∃ so sc, sv = .slice so st.length sc)
  case atStart =>
    refine ⟨lo, hi, [], [], HM, Lib.hid ?_, ao, cap, rfl⟩
    rcases HLE.out with h | h
    · exact Or.inl h
    · exact Or.inr ⟨h, Nat.le_refl _, by have := wgt_le hb; simp [phi]; omega⟩
  case round =>
    rename World => w3
    obtain ⟨s, e, st, out, HM3, HL, so, sc, rfl⟩ := hrel
    clear HM HLE
    have hc := HM3.out.cells
    obtain ⟨c0, c1, f0, f1⟩ := hc
    have hgl3 := HM3.out.gl
    obtain ⟨g0, g1, g2, g3⟩ := hgl3
    by_cases hn : IsNil (s, e)
    · have hcmp := eq_sr s e 65535 0 true ⟨fun _ => rfl, fun _ => hn⟩
      have hE : Ended lo hi s e st out := HL.out.resolve_right (fun h => h.1.nn hn)
      have HE := Lib.hid hE
      clear HL hE hn
      obtain ⟨vs, hrow, hseq⟩ := HM3.out.row
      have HROW := Lib.hid hrow
      have HSEQ := Lib.hid hseq
      clear hrow hseq
      go_wp2_with fail
      rw [Exit.noGoto_ret]
      go_ret3
      exact ⟨_, _, out, vs, rfl, HE.out.2.2, HROW.out, HSEQ.out, ⟨_, _, HM3.out.stk⟩, HM3.out.ovF, fun k hk => (HM3.out.stF k hk).2, HM3.out.bs, HM3.out.be, HM3.out.mod⟩
    · have hcmp := eq_sr s e 65535 0 false ⟨fun h => absurd h hn, fun h => by cases h⟩
      have hl := HL.out.resolve_left (fun h => hn h.1)
      have HLV := Lib.hid hl
      clear HL hl hn
      go_wp2_with fail
      clear hcmp
      go_step3
      go_wp2_with fail
      go_step3
      go_wp2_with fail
      obtain ⟨gko, rfl⟩ : ∃ g, g = gk := ⟨_, rfl⟩
      go_loopg [15, 18] e.toNat (fun ik ov sv wr => ∃ (s e : Int) (st out : List (Int × Int)), Hid (Mem F w wr B gs 4 ge 4 s e st out sv ov) ∧ Hid (Live lo hi s e st out ∧ phi ((s, e) :: st) ≤ gko ∧ e.toNat ≤ ik ∧ out.length + gko ≤ 4000000) ∧ ∃ so sc, sv = .slice so st.length sc)
      case atStart => exact ⟨s, e, st, out, HM3, Lib.hid ⟨HLV.out.1, HLV.out.2.1, Nat.le_refl _, HLV.out.2.2⟩, so, sc, rfl⟩
      case round =>
        clear HM3 HLV c0 c1 f0 f1 g0 g1 g2 g3
        rename World => w4
        obtain ⟨s, e, st, out, HM, HL, so, sc, rfl⟩ := hrel
        obtain ⟨c0, c1, f0, f1⟩ := HM.out.cells
        by_cases hsp : s < 57344 ∧ 55295 < e
        · as_aux_lemma =>
            obtain ⟨hs1, hs2⟩ := hsp
            go_wp2_with fail
            refine (split_yes B s e _ HM.out.r hs1 hs2).mono ?_
            rintro e' w5 ⟨rfl, hb5⟩
            have HM5 := Lib.hid (HM.out.below hb5)
            clear hb5 HM c0 c1 f0 f1
            obtain ⟨g0, g1⟩ := HM5.out.gl.two
            have hcmp := eq_sr s 55295 65535 0 false (by simp)
            have hB5 := block_lt HM5.out.r
            have HM6 := Lib.hid (HM5.out.below (((Below.refl _ _).alloc (Nat.le_refl _) (.cells #[.int .i32 s, .int .i32 55295] 187 (0, 0))).alloc (by simp) (.cells #[.int .i32 57344, .int .i32 e] 187 (0, 0))))
            have hx0 : ((w5.alloc (.cells #[.int .i32 s, .int .i32 55295] 187 (0, 0))).alloc (.cells #[.int .i32 57344, .int .i32 e] 187 (0, 0))).heap[w5.heap.size]? = some (.cells #[.int .i32 s, .int .i32 55295] 187 (0, 0)) := block_alloc (heap_alloc_at _ _ _ rfl)
            have HX0 := Lib.hid hx0
            have hlen : st.length < 68719476736 := by have h1 := len_phi st; have h2 := HL.out.2.1; have h3 := HL.out.2.2.2; rw [phi_cons] at h2; omega
            have hcut := HL.out.1.split hs1 hs2
            have HCUT := Lib.hid hcut
            clear hcut hx0
            go_wp2_with fail
            refine (push_any 0 _ _ _ 57344 e _ HM6.out.stk hlen (Nat.zero_le _)).mono ?_
            rintro e' wA ⟨so2, sc2, rfl, hown, hmA, hatA⟩
            have hxA : wA.heap[w5.heap.size]? = some (.cells #[.int .i32 s, .int .i32 55295] 187 (0, 0)) := hmA.heap HX0.out (fun h => by
              have := (HM5.out.stk.lt _ h).2
              omega)
            have HMA := Lib.hid (HM6.out.push hown hmA hatA)
            clear hown hmA hatA HM5 HM6 HX0 g0 g1 hcmp hB5
            obtain ⟨c0, c1, f0, f1⟩ := HMA.out.cells
            have x0 := block_cell (i := 0) (u := .int .i32 s) hxA rfl
            have x1 := block_cell (i := 1) (u := .int .i32 55295) hxA rfl
            clear hxA
            go_wp2_with fail
            go_roundg 55295
            case measure => have := HL.out.2.2.1; omega
            case rel => exact ⟨s, 55295, (57344, e) :: st, out, Lib.hid ((HMA.out.setR (mod_set _ _ _ _) HMA.out.r.set0).setR (mod_set _ _ _ _) HMA.out.r.set0.set1), Lib.hid ⟨HCUT.out.1, Nat.le_trans HCUT.out.2 HL.out.2.1, by decide, HL.out.2.2.2⟩, so2, sc2, rfl⟩
        · go_wp2_with fail
          refine (split_no B s e _ HM.out.gl HM.out.r hsp).mono ?_
          rintro e' w5 ⟨rfl, hb5⟩
          have HM5 := Lib.hid (HM.out.below hb5)
          clear hb5 HM c0 c1 f0 f1
          obtain ⟨c0, c1, f0, f1⟩ := HM5.out.cells
          obtain ⟨g0, g1⟩ := HM5.out.gl.two
          have hcmp := eq_sr 65535 0 65535 0 true (by simp)
          have hB5 := block_lt HM5.out.r
          have HM6 := Lib.hid (HM5.out.below (((Below.refl _ _).alloc (Nat.le_refl _) (.cells #[.int .i32 65535, .int .i32 0] 187 (0, 0))).alloc (by simp) (.cells #[.int .i32 65535, .int .i32 0] 187 (0, 0))))
          by_cases hv : e < s
          · go_wp2_with fail
            refine (valid_no B s e _ HM6.out.r hv).mono ?_
            rintro e' w7 ⟨rfl, hb7⟩
            have HM7 := Lib.hid (HM6.out.below hb7)
            clear hb7 HM5 HM6 c0 c1 f0 f1 g0 g1 hcmp hB5
            have HT := Lib.hid (HL.out.1.bad hv)
            cases st with
            | nil =>
              go_wp2_with fail
              refine (pop_no so sc _ HM7.out.gl).mono ?_
              rintro e' wB ⟨rfl, hbB⟩
              have HMB := Lib.hid (HM7.out.below hbB)
              clear hbB
              obtain ⟨c0, c1, f0, f1⟩ := HMB.out.cells
              go_wp2_with fail
              rw [Exit.noGoto_exit]
              go_wp2_with fail
              go_roundg 0
              case measure => have h2 := HL.out.2.1; rw [phi_cons] at h2; have := wgt_pos (s, e); omega
              case rel =>
                obtain ⟨p, hp1, hp2⟩ := HT.out
                exact ⟨65535, 0, [], out, Lib.hid ((HMB.out.setR (mod_set _ _ _ _) HMB.out.r.set0).setR (mod_set _ _ _ _) HMB.out.r.set0.set1), Lib.hid (Or.inl ⟨⟨rfl, rfl⟩, rfl, done_of hp1 hp2⟩), so, sc, rfl⟩
            | cons q t =>
              go_wp2_with fail
              have hstk := HM7.out.stk
              rw [List.reverse_cons] at hstk
              have HST := Lib.hid hstk
              clear hstk
              refine (pop_yes 0 so t.length sc t.reverse q _ HST.out).mono ?_
              rintro e' wB ⟨rfl, hbB⟩
              have HMB := Lib.hid (HM7.out.below hbB).cut
              clear hbB
              obtain ⟨c0, c1, f0, f1⟩ := HMB.out.cells
              go_wp2_with fail
              rw [Exit.noGoto_exit]
              go_wp2_with fail
              go_roundg (phi (q :: t))
              case measure => have h2 := HL.out.2.1; rw [phi_cons] at h2; have := wgt_pos (s, e); omega
              case rel =>
                obtain ⟨p, hp1, hp2⟩ := HT.out
                have hnx := next_of (s := s) (e := e) hp1 hp2 HL.out.1.bds HL.out.1.ct_bad
                refine ⟨q.1, q.2, t, out, Lib.hid ((HMB.out.setR (mod_set _ _ _ _) HMB.out.r.set0).setR (mod_set _ _ _ _) HMB.out.r.set0.set1), Lib.hid (Or.inr ⟨hnx.1, Nat.le_refl _, ?_⟩), so, sc, rfl⟩
                have h2 := HL.out.2.1
                have h3 := HL.out.2.2.2
                rw [phi_cons] at h2
                have := wgt_pos (s, e)
                omega
          · go_wp2_with fail
            refine (valid_yes B s e _ HM6.out.r (by omega)).mono ?_
            rintro e' w7 ⟨rfl, hb7⟩
            have HM7 := Lib.hid (HM6.out.below hb7)
            clear hb7 HM5 HM6 c0 c1 f0 f1 g0 g1 hcmp hB5
            obtain ⟨c0, c1, f0, f1⟩ := HM7.out.cells
            have hbd := HL.out.1.bd
            unfold Bd at hbd
            simp only at hbd
            go_wp2_with fail
            go_loopw [18, 22] (fun sv ix wr => ∃ m : Nat, ix = .int .i64 m ∧ 1 ≤ m ∧ m ≤ 4 ∧ sv = .slice so st.length sc ∧ w7 = wr ∧ Hid (∀ j, 1 ≤ j → j < m → ¬ (s ≤ mx j ∧ mx j < e))) (fun _ ix _ => 4 - (intOf ix).toNat)
            case atStart => exact ⟨1, rfl, by omega, by omega, rfl, rfl, Lib.hid (fun j h1 h2 => by omega)⟩
            case round =>
              obtain ⟨m, rfl, hm1, hm2, rfl, rfl, HJ⟩ := hrel
              by_cases hm : m < 4
              · have hmb := mx_bd m
                go_wp2_with fail
                refine (max_any m hm1 (by omega) _).mono ?_
                rintro e' w8 ⟨rfl, rfl⟩
                have hX3 : mx m = 127 ∨ mx m = 2047 ∨ mx m = 65535 := by rcases (show m = 1 ∨ m = 2 ∨ m = 3 by omega) with rfl | rfl | rfl <;> simp [mx]
                have HX3 := Lib.hid hX3
                clear hX3
                generalize hmx : mx m = X at *
                have HMX := Lib.hid hmx
                clear hmx
                have hlen : st.length < 68719476736 := by have h1 := len_phi st; have h2 := HL.out.2.1; have h3 := HL.out.2.2.2; rw [phi_cons] at h2; omega
                by_cases hc1 : s ≤ X
                · by_cases hc2 : X < e
                  · go_wp2_with fail
                    refine (push_any 0 _ _ _ (X + 1) e _ HM7.out.stk hlen (Nat.zero_le _)).mono ?_
                    rintro e' w9 ⟨so2, sc2, rfl, hown, hm9, hat9⟩
                    have HM9 := Lib.hid (HM7.out.push hown hm9 hat9)
                    clear hown hm9 hat9 c0 c1 f0 f1
                    obtain ⟨c0, c1, f0, f1⟩ := HM9.out.cells
                    have hcut := HL.out.1.cut hsp hc1 hc2 hmb.1 (co_max HX3.out hsp hc1 hc2)
                    have HCUT := Lib.hid hcut
                    clear hcut
                    go_wp2_with fail
                    go_roundg X.toNat
                    case measure => have := HL.out.2.2.1; omega
                    case rel => exact ⟨s, X, (X + 1, e) :: st, out, Lib.hid (HM9.out.setR (mod_set _ _ _ _) HM9.out.r.set1), Lib.hid ⟨HCUT.out.1, Nat.le_trans HCUT.out.2 HL.out.2.1, Nat.le_refl _, HL.out.2.2.2⟩, so2, sc2, rfl⟩
                  · go_wp2_with fail
                    go_roundw
                    case rel => exact ⟨m + 1, by go_num, by omega, by omega, rfl, trivial, Lib.hid (fun j h1 h2 => by
                      rcases Nat.lt_or_ge j m with h3 | h3
                      · exact HJ.out j h1 h3
                      · obtain rfl : j = m := by omega
                        rw [HMX.out]; omega)⟩
                    case measure => simp [intOf]; omega
                · go_wp2_with fail
                  go_roundw
                  case rel => exact ⟨m + 1, by go_num, by omega, by omega, rfl, trivial, Lib.hid (fun j h1 h2 => by
                      rcases Nat.lt_or_ge j m with h3 | h3
                      · exact HJ.out j h1 h3
                      · obtain rfl : j = m := by omega
                        rw [HMX.out]; omega)⟩
                  case measure => simp [intOf]; omega
              · obtain rfl : m = 4 := by omega
                have hj1 := HJ.out 1 (by omega) (by omega)
                have hj2 := HJ.out 2 (by omega) (by omega)
                have hj3 := HJ.out 3 (by omega) (by omega)
                simp only [mx] at hj1 hj2 hj3
                have HN := Lib.hid (And.intro hj1 (And.intro hj2 hj3))
                clear hj1 hj2 hj3 HJ
                by_cases ha : e ≤ 127
                · go_wp2_with fail
                  refine (ascii_yes B s e _ HM7.out.r (by omega) (by omega) ha).mono ?_
                  rintro e' w8 ⟨rfl, hb8⟩
                  have HM8 := Lib.hid (HM7.out.below hb8)
                  clear hb8 HM7 c0 c1 f0 f1
                  obtain ⟨g0, g1⟩ := HM8.out.gl.one
                  have hcmp := eq_rg s e 255 0 false ⟨fun h => by omega, fun h => by cases h⟩
                  have hM1 := HM8.out.below (((Below.refl _ _).alloc (Nat.le_refl _) (.cells #[.int .u8 s, .int .u8 e] 195 (0, 0))).alloc (by simp) (.cells #[.int .u8 s, .int .u8 e] 195 (0, 0)))
                  obtain ⟨vs, hrow, hseq⟩ := hM1.row
                  have HM1 := Lib.hid hM1
                  have HROW := Lib.hid hrow
                  have HSEQ := Lib.hid hseq
                  have hsq : SeqAt w.heap.size ((w8.alloc (.cells #[.int .u8 s, .int .u8 e] 195 (0, 0))).alloc (.cells #[.int .u8 s, .int .u8 e] 195 (0, 0))) (.slice (some ⟨w8.heap.size + 1, 0, none⟩) 1 1) (s, e) := by
                    have hs1 : s ≤ 127 := by omega
                    refine ⟨w8.heap.size + 1, by have := HM8.out.mod.size; omega, by rw [show wid (s, e).1 = 1 from wid1 hs1], ?_⟩
                    have : seqOf (s, e) = [(s, e)] := by unfold seqOf; rw [bytes1 hs1, bytes1 ha]; rfl
                    rw [this]
                    exact heap_alloc_at (w8.alloc _) _ _ (by simp)
                  have HSQ := Lib.hid hsq
                  clear hM1 hrow hseq hsq
                  have hol : out.length < 68719476736 := by have h3 := HL.out.2.2.2; omega
                  have HT := Lib.hid (HL.out.1.put ⟨by omega, by omega, by omega, by omega, Or.inl ha⟩)
                  go_wp2_with (at_builtin; refine wpList_append_one rfl (.tmp 118) (.tmp 121) 131 rfl 0 164 _ 1 24 Tryd.underlying131 Tryd.info164 rfl (by decide) (by decide) _ _ _ rfl HROW.out #[.slice (some ⟨w8.heap.size + 1, 0, none⟩) 1 1] _ _ rfl (by simp) rfl (by simp [Value.oneCell']) hol (Nat.zero_le _) ?_; intro ao9 cap9 w9 hown9 hgr9 hat9; have HM9 := Lib.hid (HM1.out.put HSQ.out HSEQ.out HROW.out hown9 hgr9 hat9); clear hown9 hgr9 hat9 HM1 HSEQ HROW HSQ hcmp g0 g1 HM8)
                  cases st with
                  | nil =>
                    go_wp2_with fail
                    refine (pop_no so sc _ HM9.out.gl).mono ?_
                    rintro e' wB ⟨rfl, hbB⟩
                    have HMB := Lib.hid (HM9.out.below hbB)
                    clear hbB
                    obtain ⟨c0, c1, f0, f1⟩ := HMB.out.cells
                    go_wp2_with fail
                    rw [Exit.noGoto_exit]
                    go_wp2_with fail
                    go_roundg 0
                    case measure => have h2 := HL.out.2.1; rw [phi_cons] at h2; have := wgt_pos (s, e); omega
                    case rel =>
                      obtain ⟨p, hp1, hp2⟩ := HT.out
                      exact ⟨65535, 0, [], out ++ [(s, e)], Lib.hid ((HMB.out.setR (mod_set _ _ _ _) HMB.out.r.set0).setR (mod_set _ _ _ _) HMB.out.r.set0.set1), Lib.hid (Or.inl ⟨⟨rfl, rfl⟩, rfl, done_of hp1 hp2⟩), so, sc, rfl⟩
                  | cons q t =>
                    go_wp2_with fail
                    have hstk := HM9.out.stk
                    rw [List.reverse_cons] at hstk
                    have HST := Lib.hid hstk
                    clear hstk
                    refine (pop_yes 0 so t.length sc t.reverse q _ HST.out).mono ?_
                    rintro e' wB ⟨rfl, hbB⟩
                    have HMB := Lib.hid (HM9.out.below hbB).cut
                    clear hbB
                    obtain ⟨c0, c1, f0, f1⟩ := HMB.out.cells
                    go_wp2_with fail
                    rw [Exit.noGoto_exit]
                    go_wp2_with fail
                    go_roundg (phi (q :: t))
                    case measure => have h2 := HL.out.2.1; rw [phi_cons] at h2; have := wgt_pos (s, e); omega
                    case rel =>
                      obtain ⟨p, hp1, hp2⟩ := HT.out
                      have hnx := next_of (s := s) (e := e) hp1 hp2 HL.out.1.bds HL.out.1.ct_put
                      refine ⟨q.1, q.2, t, out ++ [(s, e)], Lib.hid ((HMB.out.setR (mod_set _ _ _ _) HMB.out.r.set0).setR (mod_set _ _ _ _) HMB.out.r.set0.set1), Lib.hid (Or.inr ⟨hnx.1, Nat.le_refl _, ?_⟩), so, sc, rfl⟩
                      have h2 := HL.out.2.1
                      have h3 := HL.out.2.2.2
                      rw [phi_cons] at h2
                      have := wgt_pos (s, e)
                      simp only [List.length_append, List.length_cons, List.length_nil]
                      omega
                · go_wp2_with fail
                  refine (ascii_no B s e _ HM7.out.gl HM7.out.r (by omega) (by omega)).mono ?_
                  rintro e' w8 ⟨rfl, hb8⟩
                  have HM8 := Lib.hid (HM7.out.below hb8)
                  clear hb8 HM7 c0 c1 f0 f1
                  obtain ⟨g0, g1⟩ := HM8.out.gl.one
                  have hcmp := eq_rg 255 0 255 0 true (by simp)
                  go_wp2_with fail
                  have HM9 := Lib.hid (HM8.out.below ((Below.refl _ _).alloc (Nat.le_refl _) (.cells #[.int .u8 255, .int .u8 0] 195 (0, 0))))
                  obtain ⟨w9, hw9⟩ : ∃ w9, w9 = w8.alloc (.cells #[.int .u8 255, .int .u8 0] 195 (0, 0)) := ⟨_, rfl⟩
                  rw [← hw9] at HM9 ⊢
                  clear hw9 HM8 hcmp g0 g1
                  obtain ⟨c0, c1, f0, f1⟩ := HM9.out.cells
                  go_loopw [18, 25] (fun sv ix wr => ∃ m : Nat, ix = .int .u64 m ∧ 1 ≤ m ∧ m ≤ 4 ∧ sv = .slice so st.length sc ∧ w9 = wr ∧ Hid (∀ j, 1 ≤ j → j < m → Al s e (pw j))) (fun _ ix _ => 4 - (intOf ix).toNat)
                  case atStart => exact ⟨1, rfl, by omega, by omega, rfl, rfl, Lib.hid (fun j h1 h2 => by omega)⟩
                  case round =>
                    obtain ⟨m, rfl, hm1, hm2, rfl, rfl, HJ⟩ := hrel
                    by_cases hm : m < 4
                    · have hlen9 : Hid (st.length < 68719476736) := Lib.hid (by have h1 := len_phi st; have h2 := HL.out.2.1; have h3 := HL.out.2.2.2; rw [phi_cons] at h2; omega)
                      rcases (show m = 1 ∨ m = 2 ∨ m = 3 by omega) with rfl | rfl | rfl
                      · as_aux_lemma =>
                          clear hm1 hm2 hm
                          have hnot := i32_not6
                          have hnots := i32_nots6
                          have hS1 : ∃ x, x = 64 * (s / 64) := ⟨_, rfl⟩
                          have hE1 : ∃ x, x = 64 * (e / 64) := ⟨_, rfl⟩
                          have hS0 : ∃ x, x = s % 64 := ⟨_, rfl⟩
                          have hE0 : ∃ x, x = e % 64 := ⟨_, rfl⟩
                          have hSO : ∃ x, x = 64 * (s / 64) + 63 := ⟨_, rfl⟩
                          obtain ⟨S1, hS1⟩ := hS1
                          obtain ⟨E1, hE1⟩ := hE1
                          obtain ⟨S0, hS0⟩ := hS0
                          obtain ⟨E0, hE0⟩ := hE0
                          obtain ⟨SO, hSO⟩ := hSO
                          have b1 : bits .and .i32 s (-64) = S1 := by rw [hS1]; exact i32_high6 (by omega) (by omega)
                          have b2 : bits .and .i32 e (-64) = E1 := by rw [hE1]; exact i32_high6 (by omega) (by omega)
                          have b3 : bits .and .i32 s 63 = S0 := by rw [hS0]; exact i32_low6 (by omega) (by omega)
                          have b4 : bits .and .i32 e 63 = E0 := by rw [hE0]; exact i32_low6 (by omega) (by omega)
                          have b5 : bits .or .i32 s 63 = SO := by rw [hSO]; exact i32_orL6 (by omega) (by omega)
                          have d1 : 0 ≤ E1 ∧ E1 ≤ 1114111 := by omega
                          have d2 : 0 ≤ SO ∧ SO ≤ 2000000 := by omega
                          have hA1 : S1 = E1 → Al s e (pw 1) := fun q => Or.inl (show s / (64 : Int) = e / 64 by omega)
                          have hA2 : S0 = 0 → E0 = 63 → Al s e (pw 1) := fun q1 q2 => Or.inr (show s % (64 : Int) = 0 ∧ e % 64 = 64 - 1 by omega)
                          have hC1 : S1 ≠ E1 → S0 ≠ 0 → s ≤ SO ∧ SO < e ∧ CO s e SO := fun q1 q2 => ⟨by omega, by omega, by rw [show SO = 64 * (s / 64) + 64 - 1 by omega]; exact co_lo (Or.inl rfl : Pw 64) ⟨by have := HN.out.1; simpa using this, by have := HN.out.2.1; simpa using this, by have := HN.out.2.2; simpa using this, hsp⟩ (by omega) (by omega) (by omega)⟩
                          have hC2 : S1 ≠ E1 → S0 = 0 → E0 ≠ 63 → s ≤ E1 - 1 ∧ E1 - 1 < e ∧ CO s e (E1 - 1) := fun q1 q2 q3 => ⟨by omega, by omega, by rw [hE1]; exact co_hi (Or.inl rfl : Pw 64) ⟨by have := HN.out.1; simpa using this, by have := HN.out.2.1; simpa using this, by have := HN.out.2.2; simpa using this, hsp⟩ (by omega) (by omega) (by omega)⟩
                          have HA1 := Lib.hid hA1
                          have HA2 := Lib.hid hA2
                          have HC1 := Lib.hid hC1
                          have HC2 := Lib.hid hC2
                          have HJ2 : Hid (Al s e (pw 1) → ∀ j, 1 ≤ j → j < 1 + 1 → Al s e (pw j)) := Lib.hid (fun ha j h1 h2 => by
                            rcases Nat.lt_or_ge j 1 with h3 | h3
                            · exact HJ.out j h1 h3
                            · obtain rfl : j = 1 := by omega
                              exact ha)
                          clear hS1 hE1 hS0 hE0 hSO hA1 hA2 hC1 hC2
                          by_cases q : S1 = E1
                          · have q' : (S1 != E1) = false := by simpa using q
                            have HAL := Lib.hid (HJ2.out (HA1.out q))
                            clear q
                            go_wp2_with fail
                            go_roundw
                            case rel => exact ⟨1 + 1, by go_num, by omega, by omega, rfl, trivial, HAL⟩
                            case measure => simp [intOf]
                          · have q' : (S1 != E1) = true := by simpa using q
                            by_cases z : S0 = 0
                            · have z' : (S0 != 0) = false := by simpa using z
                              by_cases t : E0 = 63
                              · have t' : (E0 != 63) = false := by simpa using t
                                have HAL := Lib.hid (HJ2.out (HA2.out z t))
                                clear q z t
                                go_wp2_with fail
                                go_roundw
                                case rel => exact ⟨1 + 1, by go_num, by omega, by omega, rfl, trivial, HAL⟩
                                case measure => simp [intOf]
                              · have t' : (E0 != 63) = true := by simpa using t
                                obtain ⟨k1, k2, k5⟩ := HC2.out q z t
                                clear q z t
                                have hcut := HL.out.1.cut hsp k1 k2 (by have h9 := HN.out.1; simp only [if_true] at h9; omega) k5
                                rw [show E1 - 1 + 1 = E1 by omega] at hcut
                                have HCUT := Lib.hid hcut
                                clear hcut
                                go_wp2_with fail
                                refine (push_any 0 _ _ _ E1 e _ HM9.out.stk hlen9.out (Nat.zero_le _)).mono ?_
                                rintro e' wA ⟨so2, sc2, rfl, hown, hmA, hatA⟩
                                have HMA := Lib.hid (HM9.out.push hown hmA hatA)
                                clear hown hmA hatA c0 c1 f0 f1
                                obtain ⟨c0, c1, f0, f1⟩ := HMA.out.cells
                                go_wp2_with fail
                                go_roundg (E1 - 1).toNat
                                case measure => have := HL.out.2.2.1; omega
                                case rel => exact ⟨s, E1 - 1, (E1, e) :: st, out, Lib.hid (HMA.out.setR (mod_set _ _ _ _) HMA.out.r.set1), Lib.hid ⟨HCUT.out.1, Nat.le_trans HCUT.out.2 HL.out.2.1, Nat.le_refl _, HL.out.2.2.2⟩, so2, sc2, rfl⟩
                            · have z' : (S0 != 0) = true := by simpa using z
                              obtain ⟨k1, k2, k5⟩ := HC1.out q z
                              clear q z
                              have hcut := HL.out.1.cut hsp k1 k2 (by have h9 := HN.out.1; simp only [if_true] at h9; omega) k5
                              have HCUT := Lib.hid hcut
                              clear hcut
                              go_wp2_with fail
                              refine (push_any 0 _ _ _ (SO + 1) e _ HM9.out.stk hlen9.out (Nat.zero_le _)).mono ?_
                              rintro e' wA ⟨so2, sc2, rfl, hown, hmA, hatA⟩
                              have HMA := Lib.hid (HM9.out.push hown hmA hatA)
                              clear hown hmA hatA c0 c1 f0 f1
                              obtain ⟨c0, c1, f0, f1⟩ := HMA.out.cells
                              go_wp2_with fail
                              go_roundg SO.toNat
                              case measure => have := HL.out.2.2.1; omega
                              case rel => exact ⟨s, SO, (SO + 1, e) :: st, out, Lib.hid (HMA.out.setR (mod_set _ _ _ _) HMA.out.r.set1), Lib.hid ⟨HCUT.out.1, Nat.le_trans HCUT.out.2 HL.out.2.1, Nat.le_refl _, HL.out.2.2.2⟩, so2, sc2, rfl⟩
                      · as_aux_lemma =>
                          clear hm1 hm2 hm
                          have hnot := i32_not12
                          have hnots := i32_nots12
                          have hS1 : ∃ x, x = 4096 * (s / 4096) := ⟨_, rfl⟩
                          have hE1 : ∃ x, x = 4096 * (e / 4096) := ⟨_, rfl⟩
                          have hS0 : ∃ x, x = s % 4096 := ⟨_, rfl⟩
                          have hE0 : ∃ x, x = e % 4096 := ⟨_, rfl⟩
                          have hSO : ∃ x, x = 4096 * (s / 4096) + 4095 := ⟨_, rfl⟩
                          obtain ⟨S1, hS1⟩ := hS1
                          obtain ⟨E1, hE1⟩ := hE1
                          obtain ⟨S0, hS0⟩ := hS0
                          obtain ⟨E0, hE0⟩ := hE0
                          obtain ⟨SO, hSO⟩ := hSO
                          have b1 : bits .and .i32 s (-4096) = S1 := by rw [hS1]; exact i32_high12 (by omega) (by omega)
                          have b2 : bits .and .i32 e (-4096) = E1 := by rw [hE1]; exact i32_high12 (by omega) (by omega)
                          have b3 : bits .and .i32 s 4095 = S0 := by rw [hS0]; exact i32_low12 (by omega) (by omega)
                          have b4 : bits .and .i32 e 4095 = E0 := by rw [hE0]; exact i32_low12 (by omega) (by omega)
                          have b5 : bits .or .i32 s 4095 = SO := by rw [hSO]; exact i32_orL12 (by omega) (by omega)
                          have d1 : 0 ≤ E1 ∧ E1 ≤ 1114111 := by omega
                          have d2 : 0 ≤ SO ∧ SO ≤ 2000000 := by omega
                          have hA1 : S1 = E1 → Al s e (pw 2) := fun q => Or.inl (show s / (4096 : Int) = e / 4096 by omega)
                          have hA2 : S0 = 0 → E0 = 4095 → Al s e (pw 2) := fun q1 q2 => Or.inr (show s % (4096 : Int) = 0 ∧ e % 4096 = 4096 - 1 by omega)
                          have hC1 : S1 ≠ E1 → S0 ≠ 0 → s ≤ SO ∧ SO < e ∧ CO s e SO := fun q1 q2 => ⟨by omega, by omega, by rw [show SO = 4096 * (s / 4096) + 4096 - 1 by omega]; exact co_lo (Or.inr (Or.inl rfl) : Pw 4096) ⟨by have := HN.out.1; simpa using this, by have := HN.out.2.1; simpa using this, by have := HN.out.2.2; simpa using this, hsp⟩ (by omega) (by omega) (by omega)⟩
                          have hC2 : S1 ≠ E1 → S0 = 0 → E0 ≠ 4095 → s ≤ E1 - 1 ∧ E1 - 1 < e ∧ CO s e (E1 - 1) := fun q1 q2 q3 => ⟨by omega, by omega, by rw [hE1]; exact co_hi (Or.inr (Or.inl rfl) : Pw 4096) ⟨by have := HN.out.1; simpa using this, by have := HN.out.2.1; simpa using this, by have := HN.out.2.2; simpa using this, hsp⟩ (by omega) (by omega) (by omega)⟩
                          have HA1 := Lib.hid hA1
                          have HA2 := Lib.hid hA2
                          have HC1 := Lib.hid hC1
                          have HC2 := Lib.hid hC2
                          have HJ2 : Hid (Al s e (pw 2) → ∀ j, 1 ≤ j → j < 2 + 1 → Al s e (pw j)) := Lib.hid (fun ha j h1 h2 => by
                            rcases Nat.lt_or_ge j 2 with h3 | h3
                            · exact HJ.out j h1 h3
                            · obtain rfl : j = 2 := by omega
                              exact ha)
                          clear hS1 hE1 hS0 hE0 hSO hA1 hA2 hC1 hC2
                          by_cases q : S1 = E1
                          · have q' : (S1 != E1) = false := by simpa using q
                            have HAL := Lib.hid (HJ2.out (HA1.out q))
                            clear q
                            go_wp2_with fail
                            go_roundw
                            case rel => exact ⟨2 + 1, by go_num, by omega, by omega, rfl, trivial, HAL⟩
                            case measure => simp [intOf]
                          · have q' : (S1 != E1) = true := by simpa using q
                            by_cases z : S0 = 0
                            · have z' : (S0 != 0) = false := by simpa using z
                              by_cases t : E0 = 4095
                              · have t' : (E0 != 4095) = false := by simpa using t
                                have HAL := Lib.hid (HJ2.out (HA2.out z t))
                                clear q z t
                                go_wp2_with fail
                                go_roundw
                                case rel => exact ⟨2 + 1, by go_num, by omega, by omega, rfl, trivial, HAL⟩
                                case measure => simp [intOf]
                              · have t' : (E0 != 4095) = true := by simpa using t
                                obtain ⟨k1, k2, k5⟩ := HC2.out q z t
                                clear q z t
                                have hcut := HL.out.1.cut hsp k1 k2 (by have h9 := HN.out.1; simp only [if_true] at h9; omega) k5
                                rw [show E1 - 1 + 1 = E1 by omega] at hcut
                                have HCUT := Lib.hid hcut
                                clear hcut
                                go_wp2_with fail
                                refine (push_any 0 _ _ _ E1 e _ HM9.out.stk hlen9.out (Nat.zero_le _)).mono ?_
                                rintro e' wA ⟨so2, sc2, rfl, hown, hmA, hatA⟩
                                have HMA := Lib.hid (HM9.out.push hown hmA hatA)
                                clear hown hmA hatA c0 c1 f0 f1
                                obtain ⟨c0, c1, f0, f1⟩ := HMA.out.cells
                                go_wp2_with fail
                                go_roundg (E1 - 1).toNat
                                case measure => have := HL.out.2.2.1; omega
                                case rel => exact ⟨s, E1 - 1, (E1, e) :: st, out, Lib.hid (HMA.out.setR (mod_set _ _ _ _) HMA.out.r.set1), Lib.hid ⟨HCUT.out.1, Nat.le_trans HCUT.out.2 HL.out.2.1, Nat.le_refl _, HL.out.2.2.2⟩, so2, sc2, rfl⟩
                            · have z' : (S0 != 0) = true := by simpa using z
                              obtain ⟨k1, k2, k5⟩ := HC1.out q z
                              clear q z
                              have hcut := HL.out.1.cut hsp k1 k2 (by have h9 := HN.out.1; simp only [if_true] at h9; omega) k5
                              have HCUT := Lib.hid hcut
                              clear hcut
                              go_wp2_with fail
                              refine (push_any 0 _ _ _ (SO + 1) e _ HM9.out.stk hlen9.out (Nat.zero_le _)).mono ?_
                              rintro e' wA ⟨so2, sc2, rfl, hown, hmA, hatA⟩
                              have HMA := Lib.hid (HM9.out.push hown hmA hatA)
                              clear hown hmA hatA c0 c1 f0 f1
                              obtain ⟨c0, c1, f0, f1⟩ := HMA.out.cells
                              go_wp2_with fail
                              go_roundg SO.toNat
                              case measure => have := HL.out.2.2.1; omega
                              case rel => exact ⟨s, SO, (SO + 1, e) :: st, out, Lib.hid (HMA.out.setR (mod_set _ _ _ _) HMA.out.r.set1), Lib.hid ⟨HCUT.out.1, Nat.le_trans HCUT.out.2 HL.out.2.1, Nat.le_refl _, HL.out.2.2.2⟩, so2, sc2, rfl⟩
                      · as_aux_lemma =>
                          clear hm1 hm2 hm
                          have hnot := i32_not18
                          have hnots := i32_nots18
                          have hS1 : ∃ x, x = 262144 * (s / 262144) := ⟨_, rfl⟩
                          have hE1 : ∃ x, x = 262144 * (e / 262144) := ⟨_, rfl⟩
                          have hS0 : ∃ x, x = s % 262144 := ⟨_, rfl⟩
                          have hE0 : ∃ x, x = e % 262144 := ⟨_, rfl⟩
                          have hSO : ∃ x, x = 262144 * (s / 262144) + 262143 := ⟨_, rfl⟩
                          obtain ⟨S1, hS1⟩ := hS1
                          obtain ⟨E1, hE1⟩ := hE1
                          obtain ⟨S0, hS0⟩ := hS0
                          obtain ⟨E0, hE0⟩ := hE0
                          obtain ⟨SO, hSO⟩ := hSO
                          have b1 : bits .and .i32 s (-262144) = S1 := by rw [hS1]; exact i32_high18 (by omega) (by omega)
                          have b2 : bits .and .i32 e (-262144) = E1 := by rw [hE1]; exact i32_high18 (by omega) (by omega)
                          have b3 : bits .and .i32 s 262143 = S0 := by rw [hS0]; exact i32_low18 (by omega) (by omega)
                          have b4 : bits .and .i32 e 262143 = E0 := by rw [hE0]; exact i32_low18 (by omega) (by omega)
                          have b5 : bits .or .i32 s 262143 = SO := by rw [hSO]; exact i32_orL18 (by omega) (by omega)
                          have d1 : 0 ≤ E1 ∧ E1 ≤ 1114111 := by omega
                          have d2 : 0 ≤ SO ∧ SO ≤ 2000000 := by omega
                          have hA1 : S1 = E1 → Al s e (pw 3) := fun q => Or.inl (show s / (262144 : Int) = e / 262144 by omega)
                          have hA2 : S0 = 0 → E0 = 262143 → Al s e (pw 3) := fun q1 q2 => Or.inr (show s % (262144 : Int) = 0 ∧ e % 262144 = 262144 - 1 by omega)
                          have hC1 : S1 ≠ E1 → S0 ≠ 0 → s ≤ SO ∧ SO < e ∧ CO s e SO := fun q1 q2 => ⟨by omega, by omega, by rw [show SO = 262144 * (s / 262144) + 262144 - 1 by omega]; exact co_lo (Or.inr (Or.inr rfl) : Pw 262144) ⟨by have := HN.out.1; simpa using this, by have := HN.out.2.1; simpa using this, by have := HN.out.2.2; simpa using this, hsp⟩ (by omega) (by omega) (by omega)⟩
                          have hC2 : S1 ≠ E1 → S0 = 0 → E0 ≠ 262143 → s ≤ E1 - 1 ∧ E1 - 1 < e ∧ CO s e (E1 - 1) := fun q1 q2 q3 => ⟨by omega, by omega, by rw [hE1]; exact co_hi (Or.inr (Or.inr rfl) : Pw 262144) ⟨by have := HN.out.1; simpa using this, by have := HN.out.2.1; simpa using this, by have := HN.out.2.2; simpa using this, hsp⟩ (by omega) (by omega) (by omega)⟩
                          have HA1 := Lib.hid hA1
                          have HA2 := Lib.hid hA2
                          have HC1 := Lib.hid hC1
                          have HC2 := Lib.hid hC2
                          have HJ2 : Hid (Al s e (pw 3) → ∀ j, 1 ≤ j → j < 3 + 1 → Al s e (pw j)) := Lib.hid (fun ha j h1 h2 => by
                            rcases Nat.lt_or_ge j 3 with h3 | h3
                            · exact HJ.out j h1 h3
                            · obtain rfl : j = 3 := by omega
                              exact ha)
                          clear hS1 hE1 hS0 hE0 hSO hA1 hA2 hC1 hC2
                          by_cases q : S1 = E1
                          · have q' : (S1 != E1) = false := by simpa using q
                            have HAL := Lib.hid (HJ2.out (HA1.out q))
                            clear q
                            go_wp2_with fail
                            go_roundw
                            case rel => exact ⟨3 + 1, by go_num, by omega, by omega, rfl, trivial, HAL⟩
                            case measure => simp [intOf]
                          · have q' : (S1 != E1) = true := by simpa using q
                            by_cases z : S0 = 0
                            · have z' : (S0 != 0) = false := by simpa using z
                              by_cases t : E0 = 262143
                              · have t' : (E0 != 262143) = false := by simpa using t
                                have HAL := Lib.hid (HJ2.out (HA2.out z t))
                                clear q z t
                                go_wp2_with fail
                                go_roundw
                                case rel => exact ⟨3 + 1, by go_num, by omega, by omega, rfl, trivial, HAL⟩
                                case measure => simp [intOf]
                              · have t' : (E0 != 262143) = true := by simpa using t
                                obtain ⟨k1, k2, k5⟩ := HC2.out q z t
                                clear q z t
                                have hcut := HL.out.1.cut hsp k1 k2 (by have h9 := HN.out.1; simp only [if_true] at h9; omega) k5
                                rw [show E1 - 1 + 1 = E1 by omega] at hcut
                                have HCUT := Lib.hid hcut
                                clear hcut
                                go_wp2_with fail
                                refine (push_any 0 _ _ _ E1 e _ HM9.out.stk hlen9.out (Nat.zero_le _)).mono ?_
                                rintro e' wA ⟨so2, sc2, rfl, hown, hmA, hatA⟩
                                have HMA := Lib.hid (HM9.out.push hown hmA hatA)
                                clear hown hmA hatA c0 c1 f0 f1
                                obtain ⟨c0, c1, f0, f1⟩ := HMA.out.cells
                                go_wp2_with fail
                                go_roundg (E1 - 1).toNat
                                case measure => have := HL.out.2.2.1; omega
                                case rel => exact ⟨s, E1 - 1, (E1, e) :: st, out, Lib.hid (HMA.out.setR (mod_set _ _ _ _) HMA.out.r.set1), Lib.hid ⟨HCUT.out.1, Nat.le_trans HCUT.out.2 HL.out.2.1, Nat.le_refl _, HL.out.2.2.2⟩, so2, sc2, rfl⟩
                            · have z' : (S0 != 0) = true := by simpa using z
                              obtain ⟨k1, k2, k5⟩ := HC1.out q z
                              clear q z
                              have hcut := HL.out.1.cut hsp k1 k2 (by have h9 := HN.out.1; simp only [if_true] at h9; omega) k5
                              have HCUT := Lib.hid hcut
                              clear hcut
                              go_wp2_with fail
                              refine (push_any 0 _ _ _ (SO + 1) e _ HM9.out.stk hlen9.out (Nat.zero_le _)).mono ?_
                              rintro e' wA ⟨so2, sc2, rfl, hown, hmA, hatA⟩
                              have HMA := Lib.hid (HM9.out.push hown hmA hatA)
                              clear hown hmA hatA c0 c1 f0 f1
                              obtain ⟨c0, c1, f0, f1⟩ := HMA.out.cells
                              go_wp2_with fail
                              go_roundg SO.toNat
                              case measure => have := HL.out.2.2.1; omega
                              case rel => exact ⟨s, SO, (SO + 1, e) :: st, out, Lib.hid (HMA.out.setR (mod_set _ _ _ _) HMA.out.r.set1), Lib.hid ⟨HCUT.out.1, Nat.le_trans HCUT.out.2 HL.out.2.1, Nat.le_refl _, HL.out.2.2.2⟩, so2, sc2, rfl⟩
                    · as_aux_lemma =>
                        obtain rfl : m = 4 := by omega
                        have hgood : Utf.Good s e := by
                          have q1 := HJ.out 1 (by omega) (by omega)
                          have q2 := HJ.out 2 (by omega) (by omega)
                          have q3 := HJ.out 3 (by omega) (by omega)
                          obtain ⟨n1, n2, n3⟩ := HN.out
                          simp at n1 n2 n3
                          refine ⟨by omega, by omega, by omega, by omega, Or.inr ⟨by omega, by omega, q1, q2, q3⟩⟩
                        have HG := Lib.hid hgood
                        have hls : Let s := by unfold Let; unfold Utf.Good at hgood; omega
                        have hle : Let e := by unfold Let; unfold Utf.Good at hgood; omega
                        have h127 : 127 < s := by have := HN.out.1; simp only [if_true] at this; omega
                        have hws := wid_le s
                        have hwe := wid_le e
                        clear hgood HJ HN
                        go_wp2_with fail
                        refine (encode_any B gs 4 ge 4 s e _ HM9.out.r HM9.out.bs HM9.out.be (by omega) (by omega) hne (by have := HM9.out.neB; omega) hls hle).mono ?_
                        rintro e' wA ⟨rfl, hbA1, hbA2, hmA, hkA1, hkA2⟩
                        have HMA := Lib.hid (HM9.out.bufs hmA hbA1 hbA2)
                        have KA1 := Lib.hid hkA1
                        have KA2 := Lib.hid hkA2
                        clear hbA1 hbA2 hmA hkA1 hkA2 HM9 c0 c1 f0 f1
                        go_wp2_with fail
                        have i1 : (0 : Int) ≤ (wid s : Int) := by omega
                        have i2 : (wid s : Int) ≤ 4 := by omega
                        have i3 : (0 : Int) ≤ (wid e : Int) := by omega
                        have i4 : (wid e : Int) ≤ 4 := by omega
                        go_region_held3 (fun w' => True) (exact trivial) (first | (go_at_call 98; refine (seqFrom_any gs 4 ge 4 s e _ HG.out h127 (by omega) (by omega) (by exact KA1.out) (by exact KA2.out)).mono ?_; rintro e' wB ⟨rfl, hbB, hhB⟩))
                        have hbB' : Below wA.heap.size wA wB := ((Below.refl wA.heap.size wA).drew).trans hbB
                        have hM1 := HMA.out.below hbB'
                        obtain ⟨vs, hrow, hseq⟩ := hM1.row
                        have HM1 := Lib.hid hM1
                        have HROW := Lib.hid hrow
                        have HSEQ := Lib.hid hseq
                        have hsq : SeqAt w.heap.size wB (.slice (some ⟨wA.heap.size, 0, none⟩) (wid s) (wid s)) (s, e) := ⟨wA.heap.size, HMA.out.mod.size, rfl, hhB⟩
                        have HSQ := Lib.hid hsq
                        clear hM1 hrow hseq hsq hhB hbB hbB' KA1 KA2 HMA
                        have hol : out.length < 68719476736 := by have h3 := HL.out.2.2.2; omega
                        have HT := Lib.hid (HL.out.1.put HG.out)
                        go_wp2_with (at_builtin; refine wpList_append_one rfl (.tmp 209) (.tmp 211) 131 rfl 0 164 _ 1 24 Tryd.underlying131 Tryd.info164 rfl (by decide) (by decide) _ _ _ rfl HROW.out #[.slice (some ⟨wA.heap.size, 0, none⟩) (wid s) (wid s)] _ _ rfl (by simp) rfl (by simp [Value.oneCell']) hol (Nat.zero_le _) ?_; intro ao9 cap9 w9 hown9 hgr9 hat9; have HMC := Lib.hid (HM1.out.put HSQ.out HSEQ.out HROW.out hown9 hgr9 hat9); clear hown9 hgr9 hat9 HM1 HSEQ HROW HSQ)
                        cases st with
                        | nil =>
                          go_wp2_with fail
                          refine (pop_no so sc _ HMC.out.gl).mono ?_
                          rintro e' wB ⟨rfl, hbB⟩
                          have HMB := Lib.hid (HMC.out.below hbB)
                          clear hbB
                          obtain ⟨c0, c1, f0, f1⟩ := HMB.out.cells
                          go_wp2_with fail
                          rw [Exit.noGoto_exit]
                          go_wp2_with fail
                          go_roundg 0
                          case measure => have h2 := HL.out.2.1; rw [phi_cons] at h2; have := wgt_pos (s, e); omega
                          case rel =>
                            obtain ⟨p, hp1, hp2⟩ := HT.out
                            exact ⟨65535, 0, [], out ++ [(s, e)], Lib.hid ((HMB.out.setR (mod_set _ _ _ _) HMB.out.r.set0).setR (mod_set _ _ _ _) HMB.out.r.set0.set1), Lib.hid (Or.inl ⟨⟨rfl, rfl⟩, rfl, done_of hp1 hp2⟩), so, sc, rfl⟩
                        | cons q t =>
                          go_wp2_with fail
                          have hstk := HMC.out.stk
                          rw [List.reverse_cons] at hstk
                          have HST := Lib.hid hstk
                          clear hstk
                          refine (pop_yes 0 so t.length sc t.reverse q _ HST.out).mono ?_
                          rintro e' wB ⟨rfl, hbB⟩
                          have HMB := Lib.hid (HMC.out.below hbB).cut
                          clear hbB
                          obtain ⟨c0, c1, f0, f1⟩ := HMB.out.cells
                          go_wp2_with fail
                          rw [Exit.noGoto_exit]
                          go_wp2_with fail
                          go_roundg (phi (q :: t))
                          case measure => have h2 := HL.out.2.1; rw [phi_cons] at h2; have := wgt_pos (s, e); omega
                          case rel =>
                            obtain ⟨p, hp1, hp2⟩ := HT.out
                            have hnx := next_of (s := s) (e := e) hp1 hp2 HL.out.1.bds HL.out.1.ct_put
                            refine ⟨q.1, q.2, t, out ++ [(s, e)], Lib.hid ((HMB.out.setR (mod_set _ _ _ _) HMB.out.r.set0).setR (mod_set _ _ _ _) HMB.out.r.set0.set1), Lib.hid (Or.inr ⟨hnx.1, Nat.le_refl _, ?_⟩), so, sc, rfl⟩
                            have h2 := HL.out.2.1
                            have h3 := HL.out.2.2.2
                            rw [phi_cons] at h2
                            have := wgt_pos (s, e)
                            simp only [List.length_append, List.length_cons, List.length_nil]
                            omega
end Go.Proofs.YtnpchkohfomagaaDoor.Seq
