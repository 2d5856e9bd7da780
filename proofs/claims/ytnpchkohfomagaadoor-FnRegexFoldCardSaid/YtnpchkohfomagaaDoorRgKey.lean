/- The automaton of instructions: instsKey, the numbers of a state as bytes. -/
import Derived.Test.YtnpchkohfomagaaDoorSparse
import Derived.Test.YtnpchkohfomagaaDoorRgPa
import Derived.Test.YtnpchkohfomagaaDoorShE
import Derived.StillTailTactics
namespace Go.Proofs.YtnpchkohfomagaaDoor.Rgw
open Go.ChangeShapes Go.WideShapes Go.ChangeAt Go.RowKit Go.Trav Go.Pk Go.Rg Go.Proofs.YtnpchkohfomagaaDoor.Sparse
set_option linter.unusedVariables false
set_option maxRecDepth 100000
def bN (x : Nat) : Value := .int .u8 (x : Int)
theorem Tryd.info5 : (Tryd.prog.info? 5).map (fun i => (i.zero, i.size, i.bytes)) = some (some (.int .u8 0), 1, 1) := by kernel_rfl
theorem setCells_mid {g : Nat} {T : TypeId} (vs : List Value) : ∀ (w : World) (A B C : List Value) (o : Nat), w.heap[g]? = some (.cells (A ++ B ++ C).toArray T (0, 0)) → A.length = o → B.length = vs.length →
    (w.setCells g o vs).heap[g]? = some (.cells (A ++ vs ++ C).toArray T (0, 0)) ∧ Mod (fun k => k = g) w (w.setCells g o vs) := by
  induction vs with
  | nil =>
    intro w A B C o h h1 h2
    obtain rfl : B = [] := List.eq_nil_of_length_eq_zero h2
    exact ⟨h, Mod.refl _ _⟩
  | cons v r ih =>
    intro w A B C o h h1 h2
    cases B with
    | nil => simp at h2
    | cons b B' =>
      have hs : (w.setCell ⟨g, o, none⟩ v).heap[g]? = some (.cells ((A ++ [v]) ++ B' ++ C).toArray T (0, 0)) := by
        rw [block_set h]
        congr 2
        simp only [List.append_assoc, List.cons_append, List.nil_append, List.setIfInBounds_toArray]
        rw [List.set_append_right _ _ (by omega), h1, Nat.sub_self]
        rfl
      obtain ⟨i1, i2⟩ := ih _ (A ++ [v]) B' C (o + 1) hs (by simp [h1]) (by simpa using h2)
      refine ⟨by simpa [World.setCells] using i1, ?_⟩
      exact (Mod.setCell (F := fun k => k = g) (Mod.refl _ _) (p := ⟨g, o, none⟩) (fun _ => rfl) _).trans i2
theorem le_packed (n : Nat) : ∀ v, Lib.byteCells (Lib.leBytes n v) = (packed v n).map bN := by
  induction n with
  | zero => intro v; simp [Lib.leBytes, Lib.byteCells, packed]
  | succ n ih =>
    intro v
    rw [packed_head]
    simp only [Lib.leBytes, Lib.byteCells, List.map_cons]
    have := ih (v / 256)
    simp only [Lib.byteCells] at this
    rw [this]
    congr 1
    unfold bN
    congr 1
    simp
theorem list8 {B : List Value} (h : B.length = 8) : ∃ b0 b1 b2 b3 b4 b5 b6 b7, B = [b0, b1, b2, b3, b4, b5, b6, b7] := by
  match B, h with
  | [b0, b1, b2, b3, b4, b5, b6, b7], _ => exact ⟨b0, b1, b2, b3, b4, b5, b6, b7, rfl⟩
theorem put_any (g o n c v : Nat) (T : TypeId) (A B C : List Value) (w : World) (hv : v < 18446744073709551616) (h : w.heap[g]? = some (.cells (A ++ B ++ C).toArray T (0, 0))) (hA : A.length = o) (hB : B.length = 8) (hn : 8 ≤ n) :
    Calls Tryd.prog 100 #[.agg #[], .slice (some ⟨g, o, none⟩) n c, .int .u64 v] w fun e w' => e = .returned (.tuple #[]) ∧ w'.heap[g]? = some (.cells (A ++ (packed v 8).map bN ++ C).toArray T (0, 0)) ∧ Mod (fun k => k = g) w w' := by
  obtain ⟨b0, b1, b2, b3, b4, b5, b6, b7, rfl⟩ := list8 hB
  have hc : ∀ j b, [b0, b1, b2, b3, b4, b5, b6, b7][j]? = some b → w.cell? ⟨g, o + j, none⟩ = some b := by
    intro j b hj
    refine block_cell h ?_
    rw [List.getElem?_toArray, List.append_assoc, List.getElem?_append_right (by omega), hA, Nat.add_sub_cancel_left, List.getElem?_append_left (by have := (List.getElem?_eq_some_iff.1 hj).1; exact this)]
    exact hj
  have hf : ∀ j, w.frozen? ⟨g, o + j, none⟩ = false := fun j => block_free h
  refine (Tryd.binary_LE_PutUint64 g o n c v hv b0 b1 b2 b3 b4 b5 b6 b7 w hn (hc 0 b0 rfl) (hc 1 b1 rfl) (hc 2 b2 rfl) (hc 3 b3 rfl) (hc 4 b4 rfl) (hc 5 b5 rfl) (hc 6 b6 rfl) (hc 7 b7 rfl) (hf 0) (hf 1) (hf 2) (hf 3) (hf 4) (hf 5) (hf 6) (hf 7)).mono ?_
  rintro e w' ⟨rfl, rfl⟩
  rw [le_packed]
  obtain ⟨h1, h2⟩ := setCells_mid ((packed v 8).map bN) (w.alloc (.cells #[] 201)) A [b0, b1, b2, b3, b4, b5, b6, b7] C o (block_alloc h) hA (by simp [packed_len])
  exact ⟨rfl, h1, ((Mod.refl _ _).alloc _).trans h2⟩
/-- A block of bytes that begins with the keys of K. -/
def KeyIn (w : World) (g cap : Nat) (K : List Nat) : Prop := ∃ rest : List Value, w.heap[g]? = some (.cells ((keyB K).map bN ++ rest).toArray 5 (0, 0)) ∧ 8 * K.length + rest.length = cap
theorem keyIn_put {w' : World} {g cap x : Nat} {K : List Nat} {rest : List Value} (h : w'.heap[g]? = some (.cells ((keyB K).map bN ++ (packed x 8).map bN ++ rest.drop 8).toArray 5 (0, 0))) (hc : 8 * K.length + rest.length = cap) (h8 : 8 ≤ rest.length) : KeyIn w' g cap (K ++ [x]) := by
  refine ⟨rest.drop 8, ?_, by simp; omega⟩
  rw [keyB_snoc, List.map_append]; exact h
theorem key_own {w : World} {g cap base : Nat} {K : List Nat} (h : KeyIn w g cap K) (hg : base ≤ g) (hc : cap ≤ 9223372036854775807) : w.ownsRow base 5 1 (.slice (some ⟨g, 0, none⟩) (8 * K.length) cap) (8 * K.length) ((keyB K).map bN) := by
  obtain ⟨rest, h1, h2⟩ := h
  refine ⟨by simp [keyB_len], Or.inr ⟨g, cap, _, rfl, hg, h1, by omega, hc, by simp [keyB_len]; omega, ?_⟩⟩
  rw [List.take_left' (by simp [keyB_len])]
def capOf : Value → Nat
  | .slice _ _ c => c
  | _ => 0
def blkOf : Value → Nat
  | .slice (some a) _ _ => a.block
  | _ => 0
set_option maxHeartbeats 2000000 in
/-- instsKey: the bytes lie in the row that was handed in, where it has room, else in a new one. -/
theorem key_any (base : Nat) (K : List Nat) (iv kv : Value) (m : Nat) (xs : List Value) (w : World) (hb0 : base ≤ w.heap.size) (hK : ∀ x ∈ K, x < 18446744073709551616) (hn : K.length ≤ 1000000) (hi : Reads w iv K.length 1 (K.map uV)) (h0 : 0 < K.length)
    (hne : ∀ k, kv.ownBlock = some k → iv.ownBlock ≠ some k) (hk : w.ownsRow base 5 1 kv m xs) :
    Calls Tryd.prog 86 #[iv, kv] w fun e w' => ∃ g cap, e = .returned (.slice (some ⟨g, 0, none⟩) (8 * K.length) cap) ∧ base ≤ g ∧ cap ≤ 9223372036854775807 ∧ KeyIn w' g cap K ∧ Mod (fun k => kv.ownBlock = some k) w w' ∧ (kv.ownBlock = some g ∨ w.heap.size ≤ g) := by
  obtain ⟨ko, kc, rfl⟩ := ownsRow_form hk
  obtain ⟨io, ic, rfl⟩ := hi.form
  have hmk := fun w => run_make_row' (P := Tryd.prog) 49 5 (.int .u8 0) 1 Tryd.underlying49 Tryd.info5 rfl .i64 .i64 (8 * K.length) (by omega) (by omega) w
  have HI := Lib.hid hi
  have HK := Lib.hid hk
  have HB := Lib.hid hK
  obtain ⟨F, hF⟩ : ∃ F : Nat → Prop, F = fun k => (Value.slice ko m kc).ownBlock = some k := ⟨_, rfl⟩
  have HNE : Hid (∀ k, (Value.slice io K.length ic).ownBlock = some k → ¬ F k) := Lib.hid (by rw [hF]; exact fun k h1 h2 => hne k h2 h1)
  have HF := Lib.hid hF
  clear hi hk hK hne hF
  have h8 : ((8 * K.length : Nat) : Int) = 8 * (K.length : Int) := by omega
  simp only [h8] at hmk
  by_cases hc : (kc : Nat) < 8 * K.length
  all_goals
    first
    | have hq : decide ((kc : Int) < 8 * (K.length : Int)) = true := decide_eq_true (by omega)
    | have hq : decide ((kc : Int) < 8 * (K.length : Int)) = false := decide_eq_false (by omega)
    go_enter Tryd.func86, Tryd.ntmps86
    go_wp2_with fail
    first
    | (have hc' : kc < 8 * K.length := hc
       have KI : Hid (KeyIn (w.alloc (.cells (madeCells #[.int .u8 0] (8 * K.length)) 5)) w.heap.size (8 * K.length) []) := Lib.hid ⟨(madeCells #[Value.int .u8 0] (8 * K.length)).toList, by simpa [keyB] using heap_alloc_new w _, by simp [size_madeCells]⟩
       have M1 : Hid (Mod F w (w.alloc (.cells (madeCells #[.int .u8 0] (8 * K.length)) 5))) := Lib.hid ((Mod.refl _ _).alloc _)
       generalize w.alloc (.cells (madeCells #[.int .u8 0] (8 * K.length)) 5) = w1 at *
       obtain ⟨g, hg⟩ : ∃ g, g = w.heap.size := ⟨_, rfl⟩
       obtain ⟨cp, hcp⟩ : ∃ cp : Nat, cp = 8 * K.length := ⟨_, rfl⟩
       rw [← hg, ← hcp] at KI
       rw [← hg]
       have hG : base ≤ g ∧ (g < w.heap.size → F g) := ⟨by omega, fun h => by omega⟩
       have hcap : 8 * K.length ≤ cp ∧ cp ≤ 9223372036854775807 := ⟨by omega, by omega⟩)
    | (obtain ⟨cp, hcp⟩ : ∃ cp : Nat, cp = kc := ⟨_, rfl⟩
       obtain ⟨g, hg⟩ : ∃ g, ko = some ⟨g, 0, none⟩ := by
         rcases HK.out.2 with ⟨e, _⟩ | ⟨g, cap, cur, e, _⟩
         · cases e; omega
         · cases e; exact ⟨g, rfl⟩
       subst hg
       have hg := trivial
       have KI : Hid (KeyIn w g cp []) := Lib.hid (by
         rcases HK.out.2 with ⟨e, _⟩ | ⟨g', cap, cur, e, h1, h2, h3, h4, h5, h6⟩
         · cases e
         · cases e
           exact ⟨cur.toList, by simpa [keyB] using h2, by simp [hcp]; omega⟩)
       have M1 : Hid (Mod F w w) := Lib.hid (Mod.refl _ _)
       have hG : base ≤ g ∧ (g < w.heap.size → F g) := by
         rcases HK.out.2 with ⟨e, _⟩ | ⟨g', cap, cur, e, h1, h2, h3, h4, h5, h6⟩
         · cases e
         · cases e
           exact ⟨h1, fun _ => by rw [HF.out]; rfl⟩
       have hcap : 8 * K.length ≤ cp ∧ cp ≤ 9223372036854775807 := by
         rcases HK.out.2 with ⟨e, _⟩ | ⟨g', cap, cur, e, h1, h2, h3, h4, h5, h6⟩
         · cases e
         · cases e
           refine ⟨by omega, ?_⟩
           unfold maxLen at h4
           omega)
    have HG := Lib.hid hG
    have HCP := Lib.hid hcp
    have h8c := hcap.1
    clear hG hg hcp
    go_loopw [24] (fun ix wr => ∃ k : Nat, ix = .int .i64 k ∧ k ≤ K.length ∧ Hid (KeyIn wr g cp (K.take k)) ∧ Hid (Mod F w wr)) (fun ix _ => K.length - (intOf ix).toNat)
    case atStart => exact ⟨0, rfl, Nat.zero_le _, KI, M1⟩
    case round =>
      obtain ⟨k, rfl, hk, HK1, HM⟩ := hrel
      by_cases hlt : k < K.length
      · obtain ⟨ib, ioff, icap, x, e0, ex, hcell⟩ := Reads.one uV (HI.out.mod HM.out HNE.out) hlt
        cases e0
        have hx := HB.out x (List.mem_of_getElem? ex)
        obtain ⟨rest, hr1, hr2⟩ := HK1.out
        have hkl : (K.take k).length = k := by rw [List.length_take]; omega
        rw [hkl] at hr2
        have hr8 : 8 ≤ rest.length := by omega
        have hput := fun n c hn8 => put_any g (8 * k) n c x 5 ((keyB (K.take k)).map bN) (rest.take 8) (rest.drop 8) wr.drew hx (by rw [show wr.drew.heap = wr.heap from rfl, List.append_assoc, List.take_append_drop]; exact hr1) (by rw [List.length_map, keyB_len, hkl]) (by rw [List.length_take]; omega) hn8
        have EX := Lib.hid ex
        have HR2 := Lib.hid hr2
        have HPUT := Lib.hid hput
        clear hr1 ex hput hx hkl hr2
        unfold uV at hcell
        have hw : IntKind.i64.wrap ((k : Int) * 8) = (k : Int) * 8 := IntWalk.i64_in _ (by omega)
        have hb1 : (0 : Int) ≤ (k : Int) * 8 ∧ (k : Int) * 8 ≤ 8 * (K.length : Int) := by omega
        have ht : ((k : Int) * 8).toNat = 8 * k := by omega
        have hn1 : ¬ (8 * K.length = 8 * k) := by omega
        have hn2 : ¬ (cp = 8 * k) := by omega
        rw [HCP.out] at hn2
        go_wp2_with fail
        go_still_tail 6, (by kernel_rfl)
        change wpList _ _ _ _ _ wr.drew
        go_wp2_with fail
        have hdr : Mod F wr wr.drew := Mod.drewN (Mod.refl _ _) 1
        have h88 : 8 ≤ 8 * K.length - 8 * k := by omega
        refine (HPUT.out (8 * K.length - 8 * k) _ h88).mono ?_
        rintro e w2 ⟨rfl, hg2, hm2⟩
        have HG2 := Lib.hid hg2
        have HM2 : Hid (Mod F w w2) := Lib.hid ((HM.out.trans hdr).step hm2 fun k hk e => by subst e; exact HG.out.2 hk)
        clear hg2 hm2 hdr
        go_wp2_with fail
        go_roundw
        case rel => exact ⟨k + 1, by go_num, hlt, Lib.hid (by rw [take_snoc' _ _ _ EX.out]; exact keyIn_put HG2.out (by rw [List.length_take, Nat.min_eq_left (by omega)]; exact HR2.out) hr8), HM2⟩
        case measure => simp [intOf]; omega
      · obtain rfl : k = K.length := by omega
        go_wp2_with fail
        go_ret
        refine ⟨g, _, rfl, HG.out.1, by have := HCP.out; omega, ?_, ?_, ?_⟩
        · have := HK1.out
          rw [List.take_length] at this
          rw [← HCP.out]; exact this
        · rw [← HF.out]; exact HM.out
        · by_cases hgl : g < w.heap.size
          · have := HG.out.2 hgl
            rw [HF.out] at this
            exact Or.inl this
          · exact Or.inr (by omega)
end Go.Proofs.YtnpchkohfomagaaDoor.Rgw
