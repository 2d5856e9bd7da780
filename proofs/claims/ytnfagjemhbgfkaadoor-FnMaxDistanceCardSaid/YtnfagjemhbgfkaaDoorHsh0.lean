/- The map from digests to numbers: its keys. The hash as it lies in memory; newHash. -/
import Derived.Test.YtnfagjemhbgfkaaDoorJsn1
import Derived.Test.YtnfagjemhbgfkaaDoorNfa0
import Derived.WideKeyArr
import Derived.BigQuiet
import Derived.StillTailTactics
import Derived.Maps.Keyed
import Derived.Maps.OwnSet
import Derived.Maps.Views
namespace Go.Proofs.YtnfagjemhbgfkaaDoor.Hsh
open Go.ChangeShapes Go.WideShapes Go.ChangeAt Go.RowKit Go.Trav Go.Nor Go.Maps Go.WideMaps Go.Proofs.YtnfagjemhbgfkaaDoor.Sha Go.Proofs.YtnfagjemhbgfkaaDoor.Nfa Go.Proofs.YtnfagjemhbgfkaaDoor.Srt Go.Proofs.YtnfagjemhbgfkaaDoor.Jsn
set_option linter.unusedVariables false
set_option linter.unusedSimpArgs false
set_option maxRecDepth 100000
/-- In a walk in one order: a whole array out of its block. -/
theorem quiet_load_row {P : Program} {C : World → Prop} {K : Act → Prop} {o : Oper} {a : Act} (ty : TypeId) (x : Operand) (ho : o.op = .load ty x) (g : Nat) (hx : a.eval x = .pointer (some ⟨g, 0, none⟩)) (t : TypeId) (cs : Array Value) (fr : Nat × Nat) (d : TypeDesc)
    (hg : ∀ w, C w → w.heap[g]? = some (.cells cs t fr)) (hu : P.underlying ty = some d) (hd : (match d with | .struct _ | .array _ _ => true | _ => false) = true) (hi : (P.info? ty).map (·.size) = some cs.size) (hk : K (a.put o.dst (.agg cs))) : o.quiet P a C K :=
  ⟨_, fun w hw => by
    unfold Oper.quietAt execOp
    simp only [ho, hx, Instr.loadAt, Instr.sureAddr, Sem.run_bind, Sem.run_pure, Result.andThen_ok, run_loadVar_row w g t ty cs fr d (hg w hw) hu hd hi]
    exact ⟨rfl, rfl⟩, hk⟩
theorem still_load_row {P : Program} {ops : Array Oper} {w : World} {Q : Act → Prop} {o : Oper} {rest : List Oper} {a : Act} (hgd : o.guard = none) (ty : TypeId) (x : Operand) (ho : o.op = .load ty x) (g : Nat) (hx : a.eval x = .pointer (some ⟨g, 0, none⟩)) (t : TypeId) (cs : Array Value) (fr : Nat × Nat) (d : TypeDesc)
    (hg : w.heap[g]? = some (.cells cs t fr)) (hu : P.underlying ty = some d) (hd : (match d with | .struct _ | .array _ _ => true | _ => false) = true) (hi : (P.info? ty).map (·.size) = some cs.size) (hk : wpStill P ops w Q rest (a.put o.dst (.agg cs))) : wpStill P ops w Q (o :: rest) a := by
  refine wpStill_step (fun K hK => ?_)
  rw [if_pos (show Region.wanted o (yielded ops a.tmps) = true by simp [Region.wanted, hgd])]
  unfold Oper.still execOp
  simp only [ho, hx, Instr.loadAt, Instr.sureAddr, Sem.run_bind, Sem.run_pure, Result.andThen_ok, run_loadVar_row w g t ty cs fr d hg hu hd hi]
  exact ⟨rfl, hK _ hk⟩
theorem arr32 : ArrKey Tryd.prog 67 5 32 := ⟨Tryd.underlying67, by kernel_rfl, by kernel_rfl, by kernel_rfl⟩
theorem law32 : Keyed Tryd.prog 67 := Keyed.of_law arr32.law
theorem mapM_some {α β : Type} {f : α → Option β} : ∀ (l : List α), (∀ a ∈ l, ∃ b, f a = some b) → ∃ bs, l.mapM f = some bs
  | [], _ => ⟨[], rfl⟩
  | a :: l, h => by
    obtain ⟨b, hb⟩ := h a (by simp)
    obtain ⟨bs, hbs⟩ := mapM_some l (fun x hx => h x (by simp [hx]))
    exact ⟨b :: bs, by simp [List.mapM_cons, hb, hbs]⟩
theorem key32 {l : List Int} (hl : l.length = 32) (hb : ∀ x ∈ l, 0 ≤ x ∧ x < 256) : ∃ kl, keyOf Tryd.prog 67 (.agg (l.map u8V).toArray) = some kl := by
  have hsz : 0 < (Tryd.prog).types.size := of_decide_eq_true (by kernel_rfl)
  obtain ⟨m, hm⟩ : ∃ m, (Tryd.prog).types.size = m + 1 := ⟨_, (Nat.succ_pred_eq_of_pos hsz).symm⟩
  have hk : (Tryd.prog).keyType 67 = true := arr32.keyType ⟨m, hm⟩
  have hce : (Tryd.prog).cellsOf 67 = 32 := by kernel_rfl
  have hc1 : (Tryd.prog).cellsOf 5 = 1 := by kernel_rfl
  have hf : (Value.agg (l.map u8V).toArray).formed Tryd.prog 67 = true := by simp [Value.formed, Tryd.underlying67, hce, hl]
  have hls : ∃ ls, (Tryd.prog).keyLits ((Tryd.prog).types.size + 1) 67 (l.map u8V) = some ls := by
    rw [hm]
    unfold Program.keyLits
    rw [Tryd.underlying67]
    simp only [hce, hc1, List.length_map, hl, if_true]
    obtain ⟨bs, hbs⟩ := mapM_some (f := fun i => (Tryd.prog).keyLits (m + 1) 5 (((l.map u8V).drop (i * 1)).take 1)) (List.range 32) (fun i hi => by
      have hi32 : i < 32 := List.mem_range.1 hi
      have hx : l[i]? = some l[i] := List.getElem?_eq_getElem (by omega)
      have e : ((l.map u8V).drop (i * 1)).take 1 = [u8V l[i]] := by
        rw [Nat.mul_one, List.drop_eq_getElem_cons (by simpa [hl] using hi32)]
        simp
      rw [e]
      refine ⟨[.int .u8 l[i]], ?_⟩
      unfold Program.keyLits
      rw [Tryd.underlying5]
      have hw := hb l[i] (List.getElem_mem _)
      have : (Lit.int .u8 l[i]).wf = true := by simp [Lit.wf, IntKind.min, IntKind.max, IntKind.bits, IntKind.signed]; omega
      simp [u8V, this])
    exact ⟨bs.flatten, by rw [hbs]; rfl⟩
  obtain ⟨ls, hls⟩ := hls
  refine ⟨.string (keyBytes ls), ?_⟩
  unfold keyOf
  rw [Tryd.underlying67]
  show (if ((Tryd.prog).keyType 67 && (Value.agg (l.map u8V).toArray).formed Tryd.prog 67) = true then ((Tryd.prog).keyLits ((Tryd.prog).types.size + 1) 67 (l.map u8V)).map (fun ls => Lit.string (keyBytes ls)) else none) = _
  rw [if_pos (by rw [hk, hf]; rfl), hls]
  rfl
theorem hash_len (K : Nat → Int) (S : List Plc) : (hashOf K S).length = 32 := rfl
theorem outB_bd (h : List Int) : ∀ x ∈ outB h, 0 ≤ x ∧ x < 256 := by
  intro x hx
  obtain ⟨y, -, hy⟩ := List.mem_flatMap.1 hx
  simp only [be4, List.mem_cons, List.not_mem_nil, or_false] at hy
  rcases hy with rfl | rfl | rfl | rfl <;> omega
/-- A set's digest, as a value. -/
def hV (K : Nat → Int) (S : List Plc) : Value := .agg ((hashOf K S).map u8V).toArray
theorem hash_key (K : Nat → Int) (S : List Plc) : ∃ kl, keyOf Tryd.prog 67 (hV K S) = some kl := key32 (hash_len K S) (outB_bd _)
/-- The hash in memory: its map has the digests of all its sets. -/
structure HAt (K : Nat → Int) (w : World) (base H M : Nat) (iv : Value) (vs : List Value) (Ss : List (List Plc)) : Prop where
  blk : w.heap[H]? = some (.cells #[.map (some M), iv] 58 (0, 0))
  row : w.ownsRow base 50 1 iv vs.length vs
  len : vs.length = Ss.length
  map : ∃ (n : Nat) (D : DataW Unit), n ≤ Ss.length ∧ w.ownsMap Tryd.prog 67 (plainElem Tryd.prog 3) M n D ∧ ∀ S ∈ Ss, ∀ kl, keyOf Tryd.prog 67 (hV K S) = some kl → Maps.has D kl = true
  vals : ∀ (i : Nat) (v : Value) (S : List Plc), vs[i]? = some v → Ss[i]? = some S → ∃ n, Reads w v n 3 (S.flatMap pC)
  own : ∀ v ∈ vs, ∀ k, v.ownBlock = some k → k < w.heap.size ∧ k ≠ H ∧ k ≠ M ∧ iv.ownBlock ≠ some k
  ne : H ≠ M ∧ iv.ownBlock ≠ some H ∧ iv.ownBlock ≠ some M
  ge : base ≤ H ∧ base ≤ M
theorem Tryd.info50 : (Tryd.prog.info? 50).map (fun i => (i.zero, i.size, i.bytes)) = some (some (.agg #[.slice none 0 0]), 1, 24) := by kernel_rfl
theorem run_makeMap_hint {P : Program} {t k e : TypeId} (h : P.underlying t = some (.map k e)) (q : IntKind) (n : Int) (w : World) : (Instr.makeMap t (some (.int q n))).run P w = .ok (.map (some w.heap.size)) (w.alloc (.map #[] 0)) := by
  simp [Instr.makeMap, run_underlying h, asInt, newObj, go_sem]
  rfl
set_option maxHeartbeats 4000000 in
theorem newh_any (K : Nat → Int) (w : World) : Calls Tryd.prog 9 #[] w fun e w' => ∃ H M iv, e = .returned (.pointer (some ⟨H, 0, none⟩)) ∧ HAt K w' w.heap.size H M iv [] [] ∧ Below w.heap.size w w' := by
  have hmm := fun (q : IntKind) (n : Int) (w : World) => run_makeMap_hint Tryd.underlying55 q n w
  obtain ⟨i0, hi, hz0, hz1, hz2⟩ := info_parts Tryd.info50
  have HI := Lib.hid hi
  clear hi
  go_enter Tryd.func9, Tryd.ntmps9
  go_wp2_with (refine wpList_make_own _ rfl _ _ 56 rfl w.heap.size 50 i0 (.agg #[.slice none 0 0]) 1 Tryd.underlying56 HI.out hz0 hz1 .i64 .i64 _ 100 rfl rfl rfl (by rw [hz2]; decide) (by unfold maxLen; omega) (by simp) ?_; intro w1 hown1 hgr1)
  have hM0 := World.ownsMap_made (H := Unit) w Tryd.prog 67 (plainElem Tryd.prog 3)
  have hM1 := (hM0.kept hgr1 (by simp)).alloc (.cells #[.map (some w.heap.size), .slice (some ⟨w.heap.size + 1, 0, none⟩) 0 100] 58)
  have hB1 : Below w.heap.size w w1 := ((Below.refl _ _).alloc (Nat.le_refl _) _).grown hgr1 (by simp) (fun k hk => by cases hk)
  have hsz : (w.alloc (Obj.map #[] 0)).heap.size = w.heap.size + 1 := by simp
  rw [hsz] at hown1
  have hs1 : w.heap.size + 1 < w1.heap.size := (hown1.lt _ rfl).2
  go_ret
  refine ⟨_, _, _, rfl, ⟨heap_alloc_new w1 _, hown1.alloc _, rfl, ⟨0, _, Nat.le_refl _, hM1, (fun S hS => by cases hS)⟩, (fun i v S hv => by simp at hv), (fun v hv => by cases hv), ⟨by omega, ?_, ?_⟩, by omega, Nat.le_refl _⟩, hB1.alloc (by omega) _⟩
  · intro e
    have : w.heap.size + 1 = w1.heap.size := by simpa [Value.ownBlock] using e
    omega
  · intro e
    simp [Value.ownBlock] at e
end Go.Proofs.YtnfagjemhbgfkaaDoor.Hsh
