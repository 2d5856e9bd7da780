/- levenshtein.dedupe: each letter of a text once. -/
import Derived.Test.YtanimdajohpggaaDoorUtf6
import Derived.Test.YtanimdajohpggaaDoorShU
import Derived.Maps.OwnSet
import Derived.Maps.AppendAt
import Derived.Laws.Runes
namespace Go.Proofs.YtanimdajohpggaaDoor.Utf0
open Go.ChangeShapes Go.WideShapes Go.ChangeAt Go.RowKit Go.Trav Go.Utf Go.Maps
set_option linter.unusedVariables false
set_option maxRecDepth 100000
theorem lawR : Keyed Tryd.prog 21 := int_keyed Tryd.underlying21
theorem zeroU (w : World) : (zeroValue 159).run Tryd.prog w = .ok (.agg #[]) w := by kernel_rfl
/-- The set of the letters seen. -/
def SdR (l : List Int) : DataW Unit := setOf (.agg []) ((once l).map (Lit.int .i32))
theorem any_i32 (x : Int) : ∀ l : List Int, l.any ((fun y : Lit => y.sameKey (.int .i32 x)) ∘ Lit.int .i32) = l.contains x
  | [] => rfl
  | a :: r => by
    rw [List.any_cons, List.contains_cons, any_i32 x r]
    congr 1
    show decide (IntKind.i32 = IntKind.i32 ∧ a = x) = (x == a)
    by_cases e : a = x
    · subst e
      simp
    · have e' : ¬ x = a := fun h => e h.symm
      simp [e, e']
theorem has_SdR (l : List Int) (x : Int) : Maps.has (SdR l) (.int .i32 x) = (once l).contains x := by
  unfold SdR
  rw [has_setOf _ _ _ (fun y hy => by obtain ⟨_, _, rfl⟩ := List.mem_map.1 hy; trivial), List.any_map]
  exact any_i32 x _
theorem SdR_old {l : List Int} {k : Nat} {x : Int} (h : l[k]? = some x) (hc : (once (l.take k)).contains x = true) : SdR (l.take (k + 1)) = SdR (l.take k) := by
  unfold SdR
  rw [once_old h hc]
theorem SdR_new {l : List Int} {k : Nat} {x : Int} (h : l[k]? = some x) (hc : (once (l.take k)).contains x = false) : SdR (l.take (k + 1)) = (SdR (l.take k)).put (.int .i32 x) (.agg []) := by
  unfold SdR
  rw [once_new h hc, List.map_append, List.map_cons, List.map_nil, setOf_snoc]
theorem let_wf {x : Int} (h : Let x) : (Lit.int .i32 x).wf = true := by
  unfold Let at h
  exact WalkArith.wf_i32 (by omega)
theorem bytesL_from (t : ByteArray) (n : Nat) : bytesL (t.extract n t.size) = (bytesL t).drop n := by
  unfold bytesL
  rw [ByteArray.data_extract, Array.toList_extract, ← List.map_drop]
  congr 1
  rw [List.extract_eq_take_drop, List.take_of_length_le]
  rw [List.length_drop, Array.length_toList]
  exact Nat.le_refl _
theorem run_makeMap_hint {P : Program} {t k e : TypeId} (h : P.underlying t = some (.map k e)) (q : IntKind) (n : Int) (w : World) : (Instr.makeMap t (some (.int q n))).run P w = .ok (.map (some w.heap.size)) (w.alloc (.map #[] 0)) := by
  simp [Instr.makeMap, run_underlying h, asInt, newObj, go_sem]
  rfl
theorem ownsMap_below {P : Program} {k : TypeId} {R : Value → Option (DataW Unit × List MemPlace)} {wr w1 : World} {b n : Nat} {D : DataW Unit} (h : wr.ownsMap P k R b n D) (hb : Below wr.heap.size wr w1) : w1.ownsMap P k R b n D := by
  have hl := h.lt
  obtain ⟨es, clock, h1, r⟩ := h
  exact ⟨es, clock, (hb.block b hl).trans h1, r⟩
theorem wid_le (x : Int) : wid x ≤ 4 := by rcases wid_cases x with ⟨e, _⟩ | ⟨e, _⟩ | ⟨e, _⟩ | ⟨e, _⟩ <;> omega
theorem text_size (qs : List Int) : (qs.flatMap ubytes).length ≤ 4 * qs.length := by
  induction qs with
  | nil => simp
  | cons a r ih =>
    have := wid_le a
    rw [List.flatMap_cons, List.length_append, wid_len, List.length_cons]
    omega
def strLen : Value → Nat
  | .string t => t.size
  | _ => 0
theorem decodeGo_text {t : ByteArray} {x : Int} {r : List Int} (h : IsText (bytesL t) (x :: r)) : Lib.decodeGo t = (x.toNat, wid x) ∧ 0 < t.size := by
  obtain ⟨h1, h2⟩ := decode_at h (k := 0) rfl
  rw [place_zero] at h1 h2
  exact ⟨by unfold Lib.decodeGo; rw [if_neg (by omega)]; exact h1, h2⟩
theorem text_next {t : ByteArray} {x : Int} {r : List Int} (h : IsText (bytesL t) (x :: r)) : IsText (bytesL (t.extract (wid x) t.size)) r ∧ wid x ≤ t.size := by
  have h1 := text_tail h 1
  have h2 : place (x :: r) 1 = wid x := by rw [place_succ (qs := x :: r) (k := 0) rfl, place_zero]; omega
  rw [h2] at h1
  refine ⟨by rw [bytesL_from]; exact h1, ?_⟩
  have h3 := congrArg List.length h.2
  rw [bytesL_size, List.flatMap_cons, List.length_append, wid_len] at h3
  omega
/-- The tables of unicode/utf8. -/
def Tabs (w : World) : Prop := Lib.Utf8Tabs 5 6 w
theorem Tabs.below {w w' : World} (h : Tabs w) (hb : Below w.heap.size w w') : Tabs w' := Utf8Tabs_below h hb
set_option maxHeartbeats 2000000 in
theorem dedupe_any (s : ByteArray) (qs : List Int) (w : World) (h : IsText (bytesL s) qs) (hs : s.size ≤ 1000000) (hT : Tabs w) :
    Calls Tryd.prog 76 #[.string s] w fun e w' => ∃ r : ByteArray, e = .returned (.string r) ∧ IsText (bytesL r) (once qs) ∧ Below w.heap.size w w' := by
  have hmm := fun (q : IntKind) (n : Int) (w : World) => run_makeMap_hint Tryd.underlying164 q n w
  have hlen : qs.length ≤ s.size := by have := len_text qs; rw [← h.2, bytesL_size] at this; exact this
  have hL := h.1
  have H := Lib.hid h
  have HT := Lib.hid hT
  clear h hT
  go_enter Tryd.func76, Tryd.ntmps76
  go_wp2_with fail
  go_loopw [0, 4] (fun sv rv wr => ∃ (k : Nat) (t r : ByteArray), sv = .string t ∧ rv = .string r ∧ k ≤ qs.length ∧ Hid (IsText (bytesL t) (qs.drop k)) ∧ Hid (IsText (bytesL r) (once (qs.take k))) ∧ Hid (wr.ownsMap Tryd.prog 21 unitElem w.heap.size k (SdR (qs.take k))) ∧ Hid (Below w.heap.size w wr) ∧ w.heap.size + 1 ≤ wr.heap.size)
    (fun sv _ _ => strLen sv)
  case atStart => exact ⟨0, s, ByteArray.empty, rfl, rfl, Nat.zero_le _, Lib.hid (by rw [List.drop_zero]; exact H.out), Lib.hid (by rw [List.take_zero]; exact ⟨by simp [once], rfl⟩), Lib.hid (by rw [List.take_zero]; exact World.ownsMap_made _ _ _ _), Lib.hid ((Below.refl _ _).alloc (Nat.le_refl _) _), by simp⟩
  case round =>
    obtain ⟨k, t, r, rfl, rfl, hk, H1, H2, H3, H4, hws⟩ := hrel
    by_cases hlt : k < qs.length
    · obtain ⟨x, ex⟩ : ∃ x, qs[k]? = some x := ⟨_, List.getElem?_eq_getElem hlt⟩
      have hx : Let x := hL x (List.mem_of_getElem? ex)
      have hd : qs.drop k = x :: qs.drop (k + 1) := by rw [List.drop_eq_getElem_cons hlt]; rw [List.getElem?_eq_getElem hlt] at ex; rw [Option.some.inj ex]
      have ht : IsText (bytesL t) (x :: qs.drop (k + 1)) := hd ▸ H1.out
      obtain ⟨hdec, hpos⟩ := decodeGo_text ht
      obtain ⟨htn, hwl⟩ := text_next ht
      have hdc := Tryd.utf8_DecodeRuneInString t wr (Tabs.below HT.out (H4.out))
      rw [hdec] at hdc
      have hx0 : ((x.toNat : Nat) : Int) = x := by have := hx.1; omega
      simp only [hx0] at hdc
      have hi1 : (0 : Int) < (t.size : Int) := by omega
      have hi2 : (0 : Int) ≤ (wid x : Int) := by omega
      have hi3 : (wid x : Int) ≤ (t.size : Int) := by omega
      have hwp := wid_pos x
      have hkey : keyOf Tryd.prog 21 (.int .i32 x) = some (.int .i32 x) := keyOf_int_mk Tryd.underlying21 (let_wf hx)
      have HN := Lib.hid htn
      have EX := Lib.hid ex
      have HX := Lib.hid hx
      clear hdec hpos htn ht hd ex hx0 hx
      by_cases hc : (once (qs.take k)).contains x = true
      · have hh : Maps.has (SdR (qs.take k)) (.int .i32 x) = true := by rw [has_SdR, hc]
        have HC := Lib.hid hc
        clear hc
        go_wp2_with fail
        refine hdc.mono ?_
        rintro e w1 ⟨rfl, hb1⟩
        have HB1 := Lib.hid hb1
        clear hb1 hdc
        go_wp2_with (first
          | (at_lookup; refine wpList_lookup_own_unit _ rfl _ _ 164 rfl 21 159 lawR Tryd.underlying164 (zeroU _) w.heap.size k _ rfl (ownsMap_below H3.out HB1.out) _ _ rfl hkey ?_)
          | go_in)
        go_roundw
        case rel => exact ⟨k + 1, _, r, rfl, rfl, hlt, HN, Lib.hid (by rw [once_old EX.out HC.out]; exact H2.out), Lib.hid (by rw [SdR_old EX.out HC.out]; exact ((ownsMap_below H3.out HB1.out).alloc _).mono (Nat.le_succ _)), Lib.hid ((H4.out.trans (HB1.out.mono (by omega))).alloc (Nat.le_trans (by omega) HB1.out.size) _), by have := HB1.out.size; simp; omega⟩
        case measure => simp [strLen]; omega
      · have hc' : (once (qs.take k)).contains x = false := by simpa using hc
        have hh : Maps.has (SdR (qs.take k)) (.int .i32 x) = false := by rw [has_SdR, hc']
        have HC := Lib.hid hc'
        have hsz : ¬ (r.size + (Utf8.encode x).size > 9223372036854775807) := by
          have h1 := text_size (once (qs.take k))
          rw [← H2.out.2, bytesL_size] at h1
          have h2 := once_len qs k
          have h3 := encode_size_le x
          omega
        clear hc hc'
        go_wp2_with fail
        refine hdc.mono ?_
        rintro e w1 ⟨rfl, hb1⟩
        have HB1 := Lib.hid hb1
        clear hb1 hdc
        go_wp2_with (first
          | (at_lookup; refine wpList_lookup_own_unit _ rfl _ _ 164 rfl 21 159 lawR Tryd.underlying164 (zeroU _) w.heap.size k _ rfl (ownsMap_below H3.out HB1.out) _ _ rfl hkey ?_)
          | (at_mapUpdate; refine wpList_mapUpdate_own _ rfl _ _ _ 164 rfl 21 159 lawR Tryd.underlying164 unitElem w.heap.size k _ rfl ((ownsMap_below H3.out HB1.out).alloc _) (by unfold maxLen; omega) _ _ _ rfl rfl hkey _ [] unitElem_mk ?_; intro w2 hown2 hgrow2)
          | go_in)
        have HO := Lib.hid hown2
        have HG := Lib.hid hgrow2
        clear hown2 hgrow2
        simp only [show ∀ a : Act, a.put none undef = a from fun _ => rfl]
        go_roundw
        case rel => exact ⟨k + 1, _, _, rfl, rfl, hlt, HN, Lib.hid (by rw [once_new EX.out HC.out]; exact text_snoc H2.out HX.out), Lib.hid (by rw [SdR_new EX.out HC.out]; exact HO.out), Lib.hid (((H4.out.trans (HB1.out.mono (by omega))).alloc (Nat.le_trans (by omega) HB1.out.size) _).grown HG.out (by have := HB1.out.size; simp; omega) (fun j hj => by cases hj; exact Nat.le_refl _)), by have := HB1.out.size; have h2 := HG.out.size; simp at h2; omega⟩
        case measure => simp [strLen]; omega
    · obtain rfl : k = qs.length := by omega
      have he : t.size = 0 := by
        have := congrArg List.length H1.out.2
        rw [bytesL_size, List.drop_eq_nil_of_le (Nat.le_refl _)] at this
        exact this
      have HR : Hid (IsText (bytesL r) (once qs)) := Lib.hid (by have := H2.out; rwa [List.take_of_length_le (Nat.le_refl _)] at this)
      have hi1 : ¬ (0 : Int) < (t.size : Int) := by omega
      go_wp2_with fail
      go_ret
      exact ⟨_, rfl, HR.out, H4.out⟩
end Go.Proofs.YtanimdajohpggaaDoor.Utf0
