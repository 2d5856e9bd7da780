/- sha256: Sum, New. -/
import Derived.Test.YtnfagjemhbgfkaaDoorSha4
namespace Go.Proofs.YtnfagjemhbgfkaaDoor.Sha
open Go.ChangeShapes Go.WideShapes Go.ChangeAt Go.RowKit Go.Trav
set_option linter.unusedVariables false
set_option linter.unusedSimpArgs false
set_option maxRecDepth 100000
set_option maxHeartbeats 2000000 in
theorem rec_any (w : World) : Calls Tryd.prog 79 #[] w fun e w' => e = .returned (.tuple #[]) ∧ w' = w := by
  have h1 : ∀ w, (callFunc 82 #[]).run Tryd.prog w = .ok (.value (.int .u8 0)) w := fun w => by kernel_rfl
  have h2 : ∀ w, (callFunc 83 #[.int .u8 2]).run Tryd.prog w = .ok (.value (.tuple #[])) w := fun w => by kernel_rfl
  go_enter Tryd.func79, Tryd.ntmps79
  go_wp2_with fail
  go_end0
  exact ⟨rfl, rfl⟩
theorem zero119 : Tryd.zeroCells119 = Dg.cells ⟨List.replicate 8 0, List.replicate 64 0, 0, 0⟩ := by kernel_rfl
set_option maxHeartbeats 2000000 in
theorem fnew_any (w : World) : Calls Tryd.prog 46 #[] w fun e w' => e = .returned (.pointer (some ⟨w.heap.size, 0, none⟩)) ∧ DAt w' w.heap.size ⟨hOf H0, List.replicate 64 0, 0, 0⟩ ∧ Below w.heap.size w w' := by
  go_enter Tryd.func46, Tryd.ntmps46
  go_wp2_with fail
  have hD : DAt (w.alloc (Obj.cells Tryd.zeroCells119 119)) w.heap.size ⟨List.replicate 8 0, List.replicate 64 0, 0, 0⟩ := ⟨by rw [zero119]; exact heap_alloc_new w _, by simp, by simp⟩
  refine (reset_any w.heap.size _ _ hD).mono ?_
  rintro e w' ⟨rfl, h1, h2⟩
  have hB : Below w.heap.size w w' := ((Below.refl _ _).alloc (Nat.le_refl _) _).trans (h2.toBelow (by simp) (fun k _ e => by omega))
  have HP := Lib.hid (And.intro h1 hB)
  clear h1 h2 hB hD
  go_wp2_with fail
  go_ret
  exact ⟨rfl, HP.out⟩
set_option maxHeartbeats 2000000 in
theorem new_any (w : World) : Calls Tryd.prog 34 #[] w fun e w' => e = .returned (.iface 107 (.pointer (some ⟨w.heap.size, 0, none⟩))) ∧ DAt w' w.heap.size ⟨hOf H0, List.replicate 64 0, 0, 0⟩ ∧ Below w.heap.size w w' := by
  go_enter Tryd.func34, Tryd.ntmps34
  go_wp2_with fail
  refine (fnew_any w).mono ?_
  rintro e w' ⟨rfl, h1, h2⟩
  have HP := Lib.hid (And.intro h1 h2)
  clear h1 h2
  go_wp2_with fail
  go_ret
  exact ⟨rfl, HP.out⟩
/-- append, by what it comes to. -/
theorem wpList_append_run {P : Program} {ops : Array Oper} {rest : List Oper} {o : Oper} {a : Act} {w : World} {Q : Exit → Act → World → Prop} (hgd : o.guard = none) (s x : Operand) (t tx : TypeId)
    (ho : o.op = .call { callee := .builtin .append, args := #[s, x], argTypes := #[t, tx] }) (v u r : Value) (w' : World) (hs : a.eval s = v) (hx : a.eval x = u)
    (hr : (Builtin.append_ #[t, tx] o.type #[v, u]).run P w = .ok r w') (h : wpList P ops Q rest (a.put o.dst r) w') : wpList P ops Q (o :: rest) a w :=
  wpList_plain hgd fun _ hK => by
    unfold Oper.wp execOp
    simp only [ho, resolve, invoke, builtin, Sem.run_bind, Sem.run_pure, Result.andThen_ok, List.map_toArray, List.map_cons, List.map_nil, hs, hx, hr]
    exact hK _ _ h
/-- append into a row that has the room, whatever the block's type. -/
theorem append_room_t {P : Program} (w : World) (t ty e T : TypeId) (i : TypeInfo) (ht : P.underlying t = some (.slice e)) (hi : P.info? e = some i) (g n cap : Nat) (cur : Array Value) (hg : w.heap[g]? = some (.cells cur T (0, 0)))
    (a : Addr) (m c : Nat) (news : List Value) (hl : news.length = m * i.size) (hnews : ∀ j u, news[j]? = some u → w.cell? (a.add j) = some u) (h1 : ∀ u ∈ news, u.oneCell' = true)
    (hroom : n + m ≤ cap) (hfit : n * i.size + news.length ≤ cur.size) :
    (Builtin.append_ #[t, t] ty #[.slice (some ⟨g, 0, none⟩) n cap, .slice (some a) m c]).run P w =
      .ok (.slice (some ⟨g, 0, none⟩) (n + m) cap) (w.setRow g (cur.toList.take (n * i.size) ++ news ++ cur.toList.drop (n * i.size + news.length)).toArray) := by
  have h2 := run_firstCells_some (P := P) w i.size m a m c news hl hnews
  have h3 := run_storeCells_at P g (n * i.size) T news 0 cur w hg (by simpa using hfit) h1
  simp only [Nat.add_zero] at h3
  simp [Builtin.append_, run_underlying ht, sizeOf, typeInfo, hi, Builtin.lenOf, hroom, h2, Addr.add_lit, h3]
/-- All of a digest's 32 bytes onto a row of 32 that is empty. -/
theorem append32 {w : World} {S B : Nat} {T1 T2 : TypeId} {l0 l : List Int} (h0 : BAt w S T1 l0) (h1 : BAt w B T2 l) (hl0 : l0.length = 32) (hl : l.length = 32) :
    (Builtin.append_ #[38, 38] 38 #[.slice (some ⟨S, 0, none⟩) 0 32, .slice (some ⟨B, 0, none⟩) 32 32]).run Tryd.prog w = .ok (.slice (some ⟨S, 0, none⟩) 32 32) (w.setRow S (l.map u8V).toArray) := by
  obtain ⟨i0, hi, -, hz1, -⟩ := info_parts Tryd.info5
  have := append_room_t (P := Tryd.prog) w 38 38 5 T1 i0 Tryd.underlying38 hi S 0 32 _ h0.blk ⟨B, 0, none⟩ 32 32 (l.map u8V) (by rw [hz1]; simpa using hl) (fun j u hj => by
    rw [addr_add, Nat.zero_add]
    rw [List.getElem?_map] at hj
    cases hz : l[j]? with
    | none => rw [hz] at hj; cases hj
    | some z =>
      rw [hz] at hj
      obtain rfl : u8V z = u := by simpa using hj
      exact h1.cell hz) (u8V_one l) (by omega) (by simp [hl0, hl])
  rw [this]
  congr 2
  simp [hl, hl0]
set_option maxHeartbeats 4000000 in
theorem sum_any (D S L : Nat) (d : Dg) (l0 : List Int) (K : Nat → Int) (w : World) (h : DAt w D d) (hK : KAt w K) (hL : d.ln = (L : Int)) (hLn : L ≤ 65536) (hnx : d.nx = L % 64) (hS : BAt w S 67 l0) (hl0 : l0.length = 32) :
    Calls Tryd.prog 77 #[.pointer (some ⟨D, 0, none⟩), .slice (some ⟨S, 0, none⟩) 0 32] w fun e w' => e = .returned (.slice (some ⟨S, 0, none⟩) 32 32) ∧ BAt w' S 67 (outB (sumD K d L).h) ∧ Mod (fun q => q = S) w w' := by
  have HH := Lib.hid h
  have HK := Lib.hid hK
  have HS := Lib.hid hS
  have hD := block_lt h.blk
  have hSl := block_lt hS.blk
  have hKl := kat_lt hK
  have HL := Lib.hid hL
  have HNX := Lib.hid hnx
  have HL0 := Lib.hid hl0
  clear h hK hS hL hnx hl0
  have hsd : (Tryd.prog.info? 119).map (·.size) = some 75 := by kernel_rfl
  have hsz : d.cells.size = 75 := by simp [Dg.cells, HH.out.hl, HH.out.xl]
  have hI0 : (Tryd.prog.info? 119).map (·.size) = some d.cells.size := by rw [hsz]; exact hsd
  have hO0 : (Tryd.zeroCells119).size = d.cells.size := by rw [hsz, zero119]; simp [Dg.cells]
  have hone : d.cells.all (·.oneCell') = true := by
    refine Array.all_eq_true_iff_forall_mem.2 (fun v hv => ?_)
    simp only [Dg.cells, List.mem_toArray, List.mem_append, List.mem_map, List.mem_cons, List.not_mem_nil, or_false] at hv
    rcases hv with (⟨y, -, rfl⟩ | ⟨y, -, rfl⟩) | rfl | rfl | rfl <;> rfl
  have HI0 := Lib.hid hI0
  have HO0 := Lib.hid hO0
  have H10 := Lib.hid hone
  clear hsd hsz hI0 hO0 hone
  go_enter Tryd.func77, Tryd.ntmps77
  go_wp2_with fail
  refine (rec_any w).mono ?_
  rintro e w' ⟨rfl, rfl⟩
  have HN := Lib.hid (heap_alloc_new w' (.cells Tryd.zeroCells119 119))
  go_wp2_with (first | (refine wpList_load_row rfl 119 (.tmp 9) rfl D rfl 119 _ (0, 0) _ HH.out.blk Tryd.underlying119 rfl HI0.out ?_) | (refine wpList_store_row rfl 119 (.tmp 5) (.tmp 10) rfl w'.heap.size _ rfl rfl 119 _ HN.out HI0.out HO0.out H10.out ?_))
  have hBl : Below w'.heap.size w' ((w'.alloc (.cells Tryd.zeroCells119 119)).setRow w'.heap.size d.cells) := below_setRow ((Below.refl _ _).alloc (Nat.le_refl _) _) (Nat.le_refl _) _
  have hsz2 : ((w'.alloc (.cells Tryd.zeroCells119 119)).setRow w'.heap.size d.cells).heap.size = w'.heap.size + 1 := by simp
  have hD2 : DAt ((w'.alloc (.cells Tryd.zeroCells119 119)).setRow w'.heap.size d.cells) w'.heap.size d := ⟨setRow_heap _ _ _ _ _ _ HN.out, HH.out.hl, HH.out.xl⟩
  have hK2 := HK.out.mod (Mod.of_below (F := fun _ => False) hBl) (fun h => h)
  have HS2 := Lib.hid (HS.out.mod (Mod.of_below (F := fun _ => False) hBl) (fun h => h))
  have HM2 : Hid (Mod (fun q => q = S) w' ((w'.alloc (.cells Tryd.zeroCells119 119)).setRow w'.heap.size d.cells)) := Lib.hid (Mod.of_below hBl)
  refine (check_any w'.heap.size L d K _ hD2 hK2 (by omega) HL.out hLn HNX.out).mono ?_
  rintro e w3 ⟨rfl, hm3, hD3⟩
  have hle3 : w'.heap.size + 1 ≤ w3.heap.size := by rw [← hsz2]; exact hm3.size
  have HM3 : Hid (Mod (fun q => q = S) w' w3) := Lib.hid (HM2.out.step hm3 (fun i hi e => by omega))
  have HS3 := Lib.hid (HS2.out.mod hm3 (by omega))
  clear hBl hsz2 hD2 hK2 hm3
  obtain ⟨l, hl⟩ : ∃ l, l = outB (sumD K d L).h := ⟨_, rfl⟩
  have hll : l.length = 32 := by
    rw [hl]
    obtain ⟨g0, g1, g2, g3, g4, g5, g6, g7, hg⟩ := list8i (h := hD3.hl)
    rw [hg]
    rfl
  rw [← hl]
  have hs8 : ((l.map u8V).toArray).size = 32 := by simpa using hll
  have hi8 : (Tryd.prog.info? 67).map (·.size) = some ((l.map u8V).toArray).size := by
    rw [hs8]
    obtain ⟨i0, hi0, -, hz1, -⟩ := info_parts Tryd.info67
    rw [hi0]
    simp [hz1]
  obtain ⟨V0, hV0, hBV, hBlV, hszV⟩ := alloc1 w3
  have hb := hBV.blk
  rw [hV0] at hb
  have hBB : BAt ((w3.alloc (.cells #[.int .u8 0, .int .u8 0, .int .u8 0, .int .u8 0, .int .u8 0, .int .u8 0, .int .u8 0, .int .u8 0, .int .u8 0, .int .u8 0, .int .u8 0, .int .u8 0, .int .u8 0, .int .u8 0, .int .u8 0, .int .u8 0, .int .u8 0, .int .u8 0, .int .u8 0, .int .u8 0, .int .u8 0, .int .u8 0, .int .u8 0, .int .u8 0, .int .u8 0, .int .u8 0, .int .u8 0, .int .u8 0, .int .u8 0, .int .u8 0, .int .u8 0, .int .u8 0] 67)).setRow w3.heap.size (l.map u8V).toArray) w3.heap.size 67 l := ⟨setRow_heap _ _ _ _ _ _ hb⟩
  have hMB : Mod (fun q => q = S) w' ((w3.alloc (.cells #[.int .u8 0, .int .u8 0, .int .u8 0, .int .u8 0, .int .u8 0, .int .u8 0, .int .u8 0, .int .u8 0, .int .u8 0, .int .u8 0, .int .u8 0, .int .u8 0, .int .u8 0, .int .u8 0, .int .u8 0, .int .u8 0, .int .u8 0, .int .u8 0, .int .u8 0, .int .u8 0, .int .u8 0, .int .u8 0, .int .u8 0, .int .u8 0, .int .u8 0, .int .u8 0, .int .u8 0, .int .u8 0, .int .u8 0, .int .u8 0, .int .u8 0, .int .u8 0] 67)).setRow w3.heap.size (l.map u8V).toArray) := mod_setRow (HM3.out.alloc _) (fun h => by omega) _
  have hSB : BAt ((w3.alloc (.cells #[.int .u8 0, .int .u8 0, .int .u8 0, .int .u8 0, .int .u8 0, .int .u8 0, .int .u8 0, .int .u8 0, .int .u8 0, .int .u8 0, .int .u8 0, .int .u8 0, .int .u8 0, .int .u8 0, .int .u8 0, .int .u8 0, .int .u8 0, .int .u8 0, .int .u8 0, .int .u8 0, .int .u8 0, .int .u8 0, .int .u8 0, .int .u8 0, .int .u8 0, .int .u8 0, .int .u8 0, .int .u8 0, .int .u8 0, .int .u8 0, .int .u8 0, .int .u8 0] 67)).setRow w3.heap.size (l.map u8V).toArray) S 67 l0 := ⟨by rw [setRow_other _ _ _ _ (by have := block_lt HS3.out.blk; omega)]; exact block_alloc HS3.out.blk⟩
  have hap := append32 hSB hBB HL0.out hll
  have c74 : ((w3.alloc (.cells #[.int .u8 0, .int .u8 0, .int .u8 0, .int .u8 0, .int .u8 0, .int .u8 0, .int .u8 0, .int .u8 0, .int .u8 0, .int .u8 0, .int .u8 0, .int .u8 0, .int .u8 0, .int .u8 0, .int .u8 0, .int .u8 0, .int .u8 0, .int .u8 0, .int .u8 0, .int .u8 0, .int .u8 0, .int .u8 0, .int .u8 0, .int .u8 0, .int .u8 0, .int .u8 0, .int .u8 0, .int .u8 0, .int .u8 0, .int .u8 0, .int .u8 0, .int .u8 0] 67)).setRow w3.heap.size (l.map u8V).toArray).cell? ⟨w'.heap.size, 74, none⟩ = some (.bool false) := cell_is (d := sumD K d L) ⟨by rw [setRow_other _ _ _ _ (by omega)]; exact block_alloc hD3.blk, hD3.hl, hD3.xl⟩
  have HB := Lib.hid hb
  have HI8 := Lib.hid hi8
  have HO8 : Hid (((List.replicate 32 (0 : Int)).map u8V).toArray.size = ((l.map u8V).toArray).size) := Lib.hid (by rw [hs8]; simp)
  have H18 : Hid (((l.map u8V).toArray).all (·.oneCell') = true) := Lib.hid (Array.all_eq_true_iff_forall_mem.2 (fun v hv => u8V_one l v (by simpa using hv)))
  have HSB := Lib.hid hSB
  have HMB := Lib.hid hMB
  have HAP := Lib.hid hap
  have HLE := Lib.hid hl
  clear hb hi8 hs8 hV0 hBV hBlV hszV hD3 hBB hMB hSB hl hap
  go_wp2_with (first | (refine wpList_store_row rfl 67 (.tmp 6) (.tmp 11) rfl w3.heap.size _ rfl rfl 67 _ HB.out HI8.out HO8.out H18.out ?_) | (refine wpList_append_run rfl (.tmp 17) (.tmp 18) 38 38 rfl (.slice (some ⟨S, 0, none⟩) 0 32) (.slice (some ⟨w3.heap.size, 0, none⟩) 32 32) _ _ rfl rfl HAP.out ?_))
  go_ret
  rw [← HLE.out]
  refine ⟨rfl, ⟨setRow_heap _ _ _ _ _ _ HSB.out.blk⟩, mod_setRow HMB.out (fun _ => rfl) _⟩
end Go.Proofs.YtnfagjemhbgfkaaDoor.Sha
