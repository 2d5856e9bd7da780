/- impl.Sequences. -/
import Derived.Test.YtanimdajohpggaaDoorSeq5
namespace Go.Proofs.YtanimdajohpggaaDoor.Seq
open Go.ChangeShapes Go.WideShapes Go.ChangeAt Go.RowKit Go.Trav Go.Utf
set_option linter.unusedVariables false
set_option maxRecDepth 100000
theorem SeqAt.below {base : Nat} {w w' : World} {v : Value} {q : Int × Int} (h : SeqAt base w v q) (hb : Below w.heap.size w w') : SeqAt base w' v q := by
  obtain ⟨g, h1, h2, h3⟩ := h
  exact ⟨g, h1, h2, block_below h3 hb (block_lt h3)⟩
/-- Rows of pairs, each the call's own. -/
def Owns (base : Nat) (w : World) (vs : List Value) (out : List (Int × Int)) : Prop := ∀ (i : Nat) v q, vs[i]? = some v → out[i]? = some q → w.ownsRow base 82 2 v (wid q.1) ((seqOf q).flatMap rgCells)
theorem Owns.mod {base : Nat} {w w' : World} {vs : List Value} {out : List (Int × Int)} {F : Nat → Prop} (h : Owns base w vs out) (hm : Mod F w w') (hF : ∀ g, F g → ∀ o, w.heap[g]? = some o → ∃ c T fr, o = .cells c T fr ∧ T ≠ 82) : Owns base w' vs out := by
  intro i v q h1 h2
  refine ownsRow_mod (h i v q h1 h2) hm fun g hg hf => ?_
  have hr := h i v q h1 h2
  rcases hr.2 with ⟨rfl, _⟩ | ⟨g', cap, cur, rfl, _, hh, _⟩
  · simp [Value.ownBlock] at hg
  · simp only [Value.ownBlock, Option.some.injEq] at hg
    subst hg
    obtain ⟨c, T, fr, e1, e2⟩ := hF _ hf _ hh
    cases e1
    exact e2 rfl
theorem rise_len : ∀ (l : List (Int × Int)) (c : Int), c ≤ 1114112 → (∀ q ∈ l, c ≤ q.1 ∧ q.1 ≤ q.2 ∧ q.2 ≤ 1114111) → l.Pairwise (fun q r => q.2 < r.1) → (l.length : Int) ≤ 1114112 - c := by
  intro l
  induction l with
  | nil => intro c hc _ _; simp; omega
  | cons q t ih =>
    intro c hc h hp
    obtain ⟨h1, h2, h3⟩ := h q (by simp)
    obtain ⟨p1, p2⟩ := List.pairwise_cons.1 hp
    have := ih (q.2 + 1) (by omega) (fun r hr => ⟨by have := p1 r hr; omega, (h r (by simp [hr])).2.1, (h r (by simp [hr])).2.2⟩) p2
    rw [List.length_cons]
    omega
theorem done_len {lo hi : Int} {out : List (Int × Int)} (h : Done lo hi out) : out.length ≤ 1114112 := by
  have := rise_len out 0 (by omega) (fun q hq => by have := (h.good q hq).1; unfold Utf.Good at this; omega) h.rise
  omega
theorem sequences_any (lo hi : Int) (w : World) (hg : Glob w) (hb : Bd (lo, hi)) :
    Calls Tryd.prog 18 #[.int .i32 lo, .int .i32 hi] w fun e w' => ∃ (ov : Value) (out : List (Int × Int)) (ws : List Value), e = .returned (.tuple #[ov, .bool true]) ∧ Done lo hi out ∧ Reads w' ov out.length 1 ws ∧ Owns w.heap.size w' ws out ∧ Below w.heap.size w w' := by
  go_enter Tryd.func18, Tryd.ntmps18
  go_wp2_with fail
  refine (newseq_any lo hi w hg hb).mono ?_
  rintro e w1 ⟨sv, out, vs, rfl, h1, h2, h3, h4⟩
  obtain ⟨sa, sc, rfl⟩ := h2.form
  have HD := Lib.hid h1
  have HR := Lib.hid h2
  have HS := Lib.hid h3
  clear h1 h2 h3
  have hbd := HR.out.bound
  go_wp2_with fail
  go_loopw [4, 18] (fun ov ix wr => ∃ (k : Nat) (ws : List Value), ix = .int .i64 k ∧ k ≤ out.length ∧ Hid (wr.ownsRow w1.heap.size 40 1 ov k ws) ∧ Hid (Owns w.heap.size wr ws out) ∧ Below w1.heap.size w1 wr) (fun _ ix _ => out.length - (intOf ix).toNat)
  case atStart => exact ⟨0, [], rfl, Nat.zero_le _, Lib.hid (World.ownsRow_nil _ _ _ _), Lib.hid (fun i v q h => by simp at h), Below.refl _ _⟩
  case round =>
    obtain ⟨k, ws, rfl, hk, HO, HW, hb2⟩ := hrel
    by_cases hlt : k < out.length
    · obtain ⟨b, off, _, sv, hx, hv, hc⟩ := Reads.one id (l := vs) (by simpa using HR.out.below hb2) hlt
      cases hx
      have hq : out[k]? = some out[k] := List.getElem?_eq_getElem hlt
      generalize hqq : out[k] = q at hq
      have hsq := (HS.out k sv q hv hq).below hb2
      have hgood := (HD.out.good q (List.mem_of_getElem? hq)).1
      have hrd := hsq.reads hgood
      obtain ⟨ga, gc, hsv⟩ := hrd.form
      rw [hsv] at hrd
      simp only [id, hsv] at hc
      have HQ := Lib.hid hq
      have HRD := Lib.hid hrd
      have hwq := wid_le q.1
      clear hqq hsq hgood hrd hsv hv hq
      go_wp2_with fail
      refine (bytesOf_any _ _ _ _ HRD.out (by omega)).mono ?_
      rintro e w3 ⟨rv, rfl, hown3, hb3⟩
      have hbA := hb2.trans (hb3.mono hb2.size)
      have hbB := h4.trans (hbA.mono h4.size)
      have hm3 : Mod (fun _ => False) wr w3 := Mod.of_below hb3
      have HO3 := Lib.hid (ownsRow_mod HO.out hm3 (fun _ _ => id))
      have HW3 := Lib.hid (HW.out.mod hm3 (fun _ h => h.elim))
      have HN3 := Lib.hid (ownsRow_mono hown3 (show w.heap.size ≤ wr.heap.size by have := (h4.trans (hb2.mono h4.size)).size; omega))
      have hdl := done_len HD.out
      obtain ⟨ra, rc, rfl⟩ := ownsRow_form hown3
      clear hown3 hm3 HO HW
      go_wp2_with (at_builtin; refine wpList_append_one rfl (.tmp 22) (.tmp 25) 33 rfl w1.heap.size 40 _ 1 24 Tryd.underlying33 Tryd.info40 rfl (by decide) (by decide) _ _ _ rfl HO3.out #[.slice ra (wid q.1) rc] _ _ rfl (by simp) rfl (by simp [Value.oneCell']) (by omega) hbA.size ?_; intro ao9 cap9 w9 hown9 hgr9 hat9)
      have hm9 : Mod (fun g => u4.ownBlock = some g) w3 w9 := ((Mod.refl _ _).alloc _).grown hgr9 fun k hk _ => hk
      have hF : ∀ g, u4.ownBlock = some g → ∀ o, w3.heap[g]? = some o → ∃ c T fr, o = .cells c T fr ∧ T ≠ 82 := by
        intro g hg o ho
        obtain ⟨c, T, fr, e1, e2⟩ := row_ty HO3.out hg o ho
        exact ⟨c, T, fr, e1, by rw [e2]; decide⟩
      go_roundw
      case rel =>
        refine ⟨k + 1, ws ++ [.slice ra (wid q.1) rc], by go_num, by omega, Lib.hid hown9, Lib.hid (fun i v q' h1 h2 => ?_), below_own hbA HO3.out _ hgr9 hbA.size⟩
        have hlen : ws.length = k := by have := HO3.out.1; omega
        have hone : Owns w.heap.size w3 [.slice ra (wid q.1) rc] [q] := by
          intro i v q' h1 h2
          match i with
          | 0 => simp at h1 h2; subst h1 h2; exact HN3.out
          | i + 1 => simp at h1
        rcases Nat.lt_or_ge i k with h3 | h3
        · rw [List.getElem?_append_left (by omega)] at h1
          exact HW3.out.mod hm9 hF i v q' h1 h2
        · have := (List.getElem?_eq_some_iff.1 h1).1
          simp at this
          obtain rfl : i = k := by omega
          rw [HQ.out] at h2
          rw [← hlen] at h1
          simp at h1 h2
          subst h1 h2
          exact hone.mod hm9 hF 0 _ _ rfl rfl
      case measure => simp [intOf]; omega
    · obtain rfl : k = out.length := by omega
      go_wp2_with fail
      go_quiet (fail)
      go_wp2_with fail
      go_ret2
      exact ⟨_, out, ws, rfl, HD.out, reads_of_owns HO.out, HW.out, below_drewN (h4.trans (hb2.mono h4.size)) _⟩
end Go.Proofs.YtanimdajohpggaaDoor.Seq
