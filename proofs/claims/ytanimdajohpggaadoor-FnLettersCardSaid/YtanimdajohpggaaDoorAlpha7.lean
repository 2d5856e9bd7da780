/- levenshtein.ZzLetters, ZzNext; append of a slice of another type's name. -/
import Derived.Test.YtanimdajohpggaaDoorAlpha6
import Derived.Test.YtanimdajohpggaaDoorAlpha2
namespace Go.Trav
open Go.RowKit Go.WideShapes Go.ChangeAt
theorem append_types {P : Program} {t t2 e e2 : TypeId} (h : P.underlying t = some (.slice e)) (h2 : P.underlying t2 = some (.slice e2)) (ty : TypeId) (args : Array Value) (w : World) :
    (Builtin.append_ #[t, t2] ty args).run P w = (Builtin.append_ #[t, t] ty args).run P w := by
  unfold Builtin.append_
  simp only [List.getElem?_toArray, List.getElem?_cons_zero, List.getElem?_cons_succ]
  cases args[0]? with
  | none => rfl
  | some s =>
    cases args[1]? with
    | none => rfl
    | some x =>
      simp only [Sem.run_bind, run_underlying h, run_underlying h2, Result.andThen]
      cases s <;> simp [Sem.run_bind, run_underlying h, run_underlying h2, Result.andThen]
/-- 'append(out, ys...)' where ys is a row that reads, of a type of another name. -/
theorem wpList_append_two {P : Program} {w : World} {ops : Array Oper} {rest : List Oper} {o : Oper} {a : Act} {Q : Exit → Act → World → Prop} (hgd : o.guard = none) (s x : Operand) (t t2 : TypeId)
    (ho : o.op = .call { callee := .builtin .append, args := #[s, x], argTypes := #[t, t2] })
    (base : Nat) (e e2 : TypeId) (z : Value) (size bytes : Nat) (ht : P.underlying t = some (.slice e)) (ht2 : P.underlying t2 = some (.slice e2)) (hinf : (P.info? e).map (fun i => (i.zero, i.size, i.bytes)) = some (some z, size, bytes)) (hzs : z.cells.size = size) (hsz : 0 < size) (hby : bytes ≤ 1024)
    (v : Value) (n : Nat) (xs : List Value) (hs : a.eval s = v) (hown : w.ownsRow base e size v n xs)
    (xv : Value) (m : Nat) (news : List Value) (hx : a.eval x = xv) (hr : Reads w xv m size news) (hm : 0 < m) (h1 : ∀ u ∈ news, u.oneCell' = true)
    (hn : n + m ≤ 68719476736) (hbase : base ≤ w.heap.size)
    (h : ∀ ao cap w', w'.ownsRow base e size (.slice ao (n + m) cap) (n + m) (xs ++ news) → w.grownBy w' v.ownBlock → ((Value.slice ao (n + m) cap).ownBlock = v.ownBlock ∨ (Value.slice ao (n + m) cap).ownBlock = some w.heap.size) → wpList P ops Q rest (a.put o.dst (.slice ao (n + m) cap)) w') : wpList P ops Q (o :: rest) a w := by
  obtain ⟨i, hi, hz0, hz1, hz2⟩ := info_parts hinf
  obtain ⟨ao, cap, rfl, k1, k2, k3, k4, k5⟩ := hr
  cases ao with
  | none =>
    obtain rfl : cap = 0 := k3 rfl
    omega
  | some ad =>
    have hnews : ∀ j u, news[j]? = some u → w.cell? (ad.add j) = some u := by
      intro j u hj
      have hj2 : j < news.length := (List.getElem?_eq_some_iff.1 hj).1
      obtain ⟨b, off, e1, hc⟩ := k5 (by omega)
      obtain rfl : ad = ⟨b, off, none⟩ := by simpa using e1
      rw [addr_add]
      exact hc j u hj
    have hbt : (n + m) * bytes ≤ 140737488355328 := by
      calc (n + m) * bytes ≤ 68719476736 * 1024 := Nat.mul_le_mul hn hby
        _ ≤ 140737488355328 := by decide
    refine wpList_plain hgd fun K hK => ?_
    obtain ⟨v', w', hr, h2, h3, h4, h5⟩ := run_append_own_at (P := P) w base t o.type e i z size bytes ht hi hz0 hz1 hz2 hzs hsz v n xs hown ad m cap news k4 hnews h1 (by unfold maxLen; omega) hbt hbase
    obtain ⟨ao, cap, rfl⟩ := ownsRow_form h2
    unfold Oper.wp execOp
    simp only [ho, resolve, invoke, builtin, Sem.run_bind, Sem.run_pure, Result.andThen_ok, List.map_toArray, List.map_cons, List.map_nil, hs, hx, append_types ht ht2, hr]
    exact hK _ _ (h ao cap w' h2 h3 h5)
end Go.Trav
namespace Go.Proofs.YtanimdajohpggaaDoor.Utf0
open Go.ChangeShapes Go.WideShapes Go.ChangeAt Go.RowKit Go.Trav Go.Utf
set_option linter.unusedVariables false
set_option maxRecDepth 100000
theorem zzn_end (B : Nat) (ao : Option Addr) (n cap i : Nat) (w : World) (hB : w.heap[B]? = some (.cells #[.slice ao n cap, .int .u32 (i : Int)] 93 (0, 0))) (h : n ≤ i) (hi : i < 4294967296) :
    Calls Tryd.prog 45 #[.pointer (some ⟨B, 0, none⟩)] w fun e w' => ∃ t x, e = .returned (.tuple #[.int .i32 0, .slice none 0 0, .iface t x]) ∧ Below w.heap.size w w' := by
  have hc := next_end B ao n cap i w hB h hi
  clear hB h hi
  go_enter Tryd.func45, Tryd.ntmps45
  go_wp2_with fail
  refine hc.mono ?_
  rintro e w' ⟨t, x, rfl, hb⟩
  go_wp2_with fail
  go_ret3
  exact ⟨t, x, rfl, hb⟩
theorem zzn_more (B b off n cap i : Nat) (ch : Int) (fa : Option Addr) (fn fc : Nat) (w : World) (hB : w.heap[B]? = some (.cells #[.slice (some ⟨b, off, none⟩) n cap, .int .u32 (i : Int)] 93 (0, 0))) (h : i < n) (hn : n ≤ 1000000) (hc : w.cell? ⟨b, off + i * 2, none⟩ = some (.int .i32 ch)) (hf : w.cell? ⟨b, off + i * 2 + 1, none⟩ = some (.slice fa fn fc)) :
    Calls Tryd.prog 45 #[.pointer (some ⟨B, 0, none⟩)] w fun e w' => e = .returned (.tuple #[.int .i32 ch, .slice fa fn fc, .nilIface]) ∧ w'.heap[B]? = some (.cells #[.slice (some ⟨b, off, none⟩) n cap, .int .u32 ((i + 1 : Nat) : Int)] 93 (0, 0)) ∧ Mod (fun k => k = B) w w' := by
  have hc := next_more B b off n cap i ch fa fn fc w hB h hn hc hf
  clear hB h hn hf
  go_enter Tryd.func45, Tryd.ntmps45
  go_wp2_with fail
  refine hc.mono ?_
  rintro e w' ⟨rfl, hb⟩
  go_wp2_with fail
  go_ret3
  exact ⟨rfl, hb⟩
theorem zzl_any (s : ByteArray) (qs : List Int) (w : World) (h : IsText (bytesL s) qs) (hs : s.size ≤ 1000000) (hN : Narrow qs.length s.size) (hT : Tabs w) :
    Calls Tryd.prog 44 #[.string s] w fun e w' => ∃ (L : List Int) (O : Value) (fvs : List Value), e = .returned (.agg #[O, .int .u32 0]) ∧ L.Perm (once qs) ∧ L.Pairwise (· ≤ ·) ∧ fvs.length = L.length ∧ Sets w' w.heap.size O qs L fvs ∧ Below w.heap.size w w' := by
  obtain ⟨W1, hW1⟩ : ∃ W1, W1 = w.alloc (.cells #[.slice none 0 0, .int .u32 0] 93) := ⟨_, rfl⟩
  have hW0 : Below w.heap.size w W1 := by rw [hW1]; exact (Below.refl _ _).alloc (Nat.le_refl _) _
  have hWb : W1.heap[w.heap.size]? = some (.cells #[.slice none 0 0, .int .u32 0] 93 (0, 0)) := by rw [hW1]; exact heap_alloc_new w _
  have hWs : W1.heap.size = w.heap.size + 1 := by rw [hW1]; simp
  have hq := query_any s qs W1 h hs hN (Tabs.below hT hW0)
  clear h hs hN hT
  go_enter Tryd.func44, Tryd.ntmps44
  go_wp2_with fail
  rw [← hW1]
  clear hW1
  refine hq.mono ?_
  rintro e wr ⟨L, O, fvs, rfl, hP, hS, hl, hset, hb⟩
  obtain ⟨oo, ocap, rfl⟩ := ownsRow_form hset.own
  have hs1 : W1.heap.size ≤ wr.heap.size := hb.size
  have hblk : wr.heap[w.heap.size]? = some (.cells #[.slice none 0 0, .int .u32 0] 93 (0, 0)) := block_below hWb hb (by omega)
  have c0 := block_cell (i := 0) hblk rfl
  have c1 := block_cell (i := 1) hblk rfl
  have f0 := block_free (i := 0) hblk
  have f1 := block_free (i := 1) hblk
  have hst : ((wr.setCell ⟨w.heap.size, 0, none⟩ (.slice oo fvs.length ocap)).setCell ⟨w.heap.size, 1, none⟩ (.int .u32 0)).heap[w.heap.size]? = some (.cells #[.slice oo fvs.length ocap, .int .u32 0] 93 (0, 0)) := by
    have h1 := block_set (i := 1) (u := .int .u32 0) (block_set (i := 0) (u := .slice oo fvs.length ocap) hblk)
    exact h1
  have HST := Lib.hid hst
  have hmm : Mod (fun k => k = w.heap.size) wr ((wr.setCell ⟨w.heap.size, 0, none⟩ (.slice oo fvs.length ocap)).setCell ⟨w.heap.size, 1, none⟩ (.int .u32 0)) := ((Mod.refl (fun k => k = w.heap.size) wr).setCell (p := ⟨w.heap.size, 0, none⟩) (fun _ => rfl) _).setCell (p := ⟨w.heap.size, 1, none⟩) (fun _ => rfl) _
  have HSET := Lib.hid (hset.mod hmm (fun g hg => by omega) (base' := w.heap.size) (by omega))
  have HBF := Lib.hid ((hW0.trans (hb.mono (by omega))).trans (hmm.toBelow (B := w.heap.size) (by omega) (fun k _ e => by omega)))
  have HP := Lib.hid hP
  have HS := Lib.hid hS
  have HL := Lib.hid hl
  clear hP hS hl hset hblk hst hmm hq hb
  go_wp2_with fail
  try simp only [Exit.inBlock, Exit.then]
  refine bodyPost_ret (results_cell_row rfl _ _ w.heap.size 93 _ (0, 0) _ rfl HST.out Tryd.underlying93 rfl (by kernel_rfl)) rfl ?_
  exact ⟨L, _, fvs, rfl, HP.out, HS.out, HL.out, HSET.out, HBF.out⟩
end Go.Proofs.YtanimdajohpggaaDoor.Utf0
