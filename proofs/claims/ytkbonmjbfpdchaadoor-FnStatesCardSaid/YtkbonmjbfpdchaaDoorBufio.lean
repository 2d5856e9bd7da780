/- bufio.Writer over a bytes.Buffer: what is written, and what it leaves. -/
import Derived.Test.YtkbonmjbfpdchaaDoorBuf2
import Derived.StillTailTactics
import Derived.Deep.RegionHeld3
import Derived.Deep.RegionWith
namespace Go.Proofs.YtkbonmjbfpdchaaDoor.Buf
open Go.ChangeShapes Go.WideShapes Go.ChangeAt Go.RowKit Go.Trav
set_option linter.unusedVariables false
set_option maxRecDepth 100000
def bN (x : Nat) : Value := .int .u8 (x : Int)
theorem bN_one (l : List Nat) : ∀ x ∈ l.map bN, x.oneCell' = true := by
  intro x hx
  obtain ⟨y, _, rfl⟩ := List.mem_map.1 hx
  rfl
/-- The blocks of a writer: bufio's, its buffer's, the bytes.Buffer's, with its row. -/
structure Ids where
  q : Nat
  f : Nat
  b : Nat
  v : Value
def Ids.F (i : Ids) (k : Nat) : Prop := k = i.q ∨ k = i.f ∨ k = i.b ∨ i.v.ownBlock = some k
structure At (w : World) (i : Ids) (done pend : List Nat) : Prop where
  bw : w.heap[i.q]? = some (.cells #[.nilIface, .slice (some ⟨i.f, 0, none⟩) 4096 4096, .int .i64 pend.length, .iface 100 (.pointer (some ⟨i.b, 0, none⟩))] 190 (0, 0))
  fb : ∃ arr : Array Value, w.heap[i.f]? = some (.cells arr 5 (0, 0)) ∧ arr.size = 4096 ∧ arr.toList.take pend.length = pend.map bN
  le : pend.length ≤ 4096
  bf : Is w i.b i.v (done.map bN)
  ne : i.q ≠ i.f ∧ i.q ≠ i.b ∧ i.f ≠ i.b ∧ i.v.ownBlock ≠ some i.q ∧ i.v.ownBlock ≠ some i.f
/-- From one state of a writer to another one. -/
def Goes (w w' : World) (i : Ids) (done pend : List Nat) : Prop :=
  ∃ v', At w' { i with v := v' } done pend ∧ Mod i.F w w' ∧ (v'.ownBlock = i.v.ownBlock ∨ ∃ g, v'.ownBlock = some g ∧ w.heap.size ≤ g)
theorem Is.lt {w : World} {b : Nat} {v : Value} {bs : List Value} (h : Is w b v bs) : b < w.heap.size := by obtain ⟨_, hb⟩ := h.blk; exact block_lt hb
theorem Is.row_lt {w : World} {b : Nat} {v : Value} {bs : List Value} (h : Is w b v bs) {k : Nat} (hk : v.ownBlock = some k) : k < w.heap.size := (h.row.lt k hk).2
theorem Is.mod {F : Nat → Prop} {w w' : World} {b : Nat} {v : Value} {bs : List Value} (h : Is w b v bs) (hm : Mod F w w') (hb : ¬ F b) (hv : ∀ k, v.ownBlock = some k → ¬ F k) : Is w' b v bs := by
  obtain ⟨lr, hl⟩ := h.blk
  exact ⟨⟨lr, hm.heap hl hb⟩, ownsRow_mod h.row hm hv, h.ex, h.ne⟩
theorem mod_of_heap {F : Nat → Prop} {w w' : World} (h : w'.heap = w.heap) (h1 : w'.os = w.os) (h2 : w'.tape = w.tape) (h3 : w'.output = w.output) : Mod F w w' := ⟨h1, h2, h3, by rw [h]; exact Nat.le_refl _, fun _ _ _ => by rw [h]⟩
theorem Is.same {w w' : World} {b : Nat} {v : Value} {bs : List Value} (h : Is w b v bs) (hh : w'.heap = w.heap) : Is w' b v bs := by
  obtain ⟨lr, hb⟩ := h.blk
  refine ⟨⟨lr, by rw [hh]; exact hb⟩, ?_, h.ex, h.ne⟩
  obtain ⟨h1, h2⟩ := h.row
  refine ⟨h1, ?_⟩
  rcases h2 with h2 | ⟨g, cap, cur, hv, hg, h3, r⟩
  · exact Or.inl h2
  · exact Or.inr ⟨g, cap, cur, hv, hg, by rw [hh]; exact h3, r⟩
theorem cell_same {w w' : World} {a : Addr} {x : Value} (h : w.cell? a = some x) (hh : w'.heap = w.heap) : w'.cell? a = some x := by
  rw [World.cell?_of_block (w := w) (by rw [hh])]; exact h
theorem At.mod {F : Nat → Prop} {w w' : World} {i : Ids} {done pend : List Nat} (h : At w i done pend) (hm : Mod F w w') (hF : ∀ k, i.F k → ¬ F k) : At w' i done pend := by
  obtain ⟨arr, h1, h2, h3⟩ := h.fb
  exact ⟨hm.heap h.bw (hF _ (Or.inl rfl)), ⟨arr, hm.heap h1 (hF _ (Or.inr (Or.inl rfl))), h2, h3⟩, h.le, h.bf.mod hm (hF _ (Or.inr (Or.inr (Or.inl rfl)))) (fun k hk => hF _ (Or.inr (Or.inr (Or.inr hk)))), h.ne⟩
theorem At.lt {w : World} {i : Ids} {done pend : List Nat} (h : At w i done pend) {k : Nat} (hk : i.F k) : k < w.heap.size := by
  obtain ⟨arr, h1, _⟩ := h.fb
  rcases hk with rfl | rfl | rfl | hk
  · exact block_lt h.bw
  · exact block_lt h1
  · exact h.bf.lt
  · exact h.bf.row_lt hk
theorem Goes.trans {w w1 w2 : World} {i : Ids} {v1 : Value} {done pend : List Nat} (h1 : Mod i.F w w1) (h2 : v1.ownBlock = i.v.ownBlock ∨ ∃ g, v1.ownBlock = some g ∧ w.heap.size ≤ g) (h : Goes w1 w2 { i with v := v1 } done pend) : Goes w w2 i done pend := by
  obtain ⟨v2, ha, hm, hv⟩ := h
  refine ⟨v2, ha, h1.step hm fun k hk hF => ?_, ?_⟩
  · rcases hF with h | h | h | h
    · exact Or.inl h
    · exact Or.inr (Or.inl h)
    · exact Or.inr (Or.inr (Or.inl h))
    · rcases h2 with h2 | ⟨g, h2, h3⟩
      · exact Or.inr (Or.inr (Or.inr (h2 ▸ h)))
      · rw [show ({ i with v := v1 } : Ids).v = v1 from rfl, h2] at h
        cases h
        omega
  · rcases hv with hv | ⟨g, hv, hg⟩
    · rw [hv]; exact h2
    · exact Or.inr ⟨g, hv, Nat.le_trans h1.size hg⟩
theorem avail_any (q f n : Nat) (x y : Value) (w : World) (h : w.heap[q]? = some (.cells #[x, .slice (some ⟨f, 0, none⟩) 4096 4096, .int .i64 n, y] 190 (0, 0))) (hn : n ≤ 4096) :
    Calls Tryd.prog 95 #[.pointer (some ⟨q, 0, none⟩)] w fun e w' => e = .returned (.int .i64 (4096 - (n : Int))) ∧ ∃ k, w' = w.drewN k := by
  have c1 : w.cell? ⟨q, 1, none⟩ = some (.slice (some ⟨f, 0, none⟩) 4096 4096) := block_cell h rfl
  have c2 : w.cell? ⟨q, 2, none⟩ = some (.int .i64 n) := block_cell h rfl
  clear h
  go_enter Tryd.func95, Tryd.ntmps95
  go_wp2_with fail
  go_quiet (fail)
  go_wp2_with fail
  go_ret
  exact ⟨rfl, _, rfl⟩
theorem buffered_any (q n : Nat) (x z y : Value) (w : World) (h : w.heap[q]? = some (.cells #[x, z, .int .i64 n, y] 190 (0, 0))) :
    Calls Tryd.prog 96 #[.pointer (some ⟨q, 0, none⟩)] w fun e w' => e = .returned (.int .i64 n) ∧ w = w' := by
  have c2 : w.cell? ⟨q, 2, none⟩ = some (.int .i64 n) := block_cell h rfl
  clear h
  go_enter Tryd.func96, Tryd.ntmps96
  go_wp2_with fail
  go_ret
  exact ⟨rfl, rfl⟩
theorem flush_any (i : Ids) (done pend : List Nat) (w : World) (h : At w i done pend) (hl : done.length ≤ 4294967296) :
    Calls Tryd.prog 89 #[.pointer (some ⟨i.q, 0, none⟩)] w fun e w' => e = .returned .nilIface ∧ Goes w w' i (done ++ pend) [] := by
  obtain ⟨arr, hf, hfs, hft⟩ := h.fb
  have hle := h.le
  have hbw := h.bw
  have hbf := h.bf
  obtain ⟨n1, n2, n3, n4, n5⟩ := h.ne
  have hlt := fun k hk => h.lt (k := k) hk
  have HL := Lib.hid hlt
  clear hlt
  generalize hpn : pend.length = n at *
  have c0 : w.cell? ⟨i.q, 0, none⟩ = some .nilIface := block_cell hbw rfl
  have c1 : w.cell? ⟨i.q, 1, none⟩ = some (.slice (some ⟨i.f, 0, none⟩) 4096 4096) := block_cell hbw rfl
  have c2 : w.cell? ⟨i.q, 2, none⟩ = some (.int .i64 n) := block_cell hbw rfl
  have c3 : w.cell? ⟨i.q, 3, none⟩ = some (.iface 100 (.pointer (some ⟨i.b, 0, none⟩))) := block_cell hbw rfl
  have f2 : w.frozen? ⟨i.q, 2, none⟩ = false := block_free hbw
  have HB := Lib.hid hbw
  have HF := Lib.hid hf
  have HFS := Lib.hid hfs
  have HFT := Lib.hid hft
  have HPN := Lib.hid hpn
  have HI := Lib.hid hbf
  have HH := Lib.hid h
  clear hbw hf hfs hft hpn hbf h
  by_cases hn : n = 0
  · have hz : ((n : Int) == 0) = true := beq_iff_eq.2 (by omega)
    have HN := Lib.hid hn
    clear hn
    go_enter Tryd.func89, Tryd.ntmps89
    go_wp2_with fail
    go_ret
    have e : pend = [] := List.eq_nil_of_length_eq_zero (by have := HPN.out; have := HN.out; omega)
    subst e
    exact ⟨rfl, i.v, by simpa using HH.out, Mod.refl _ _, Or.inl rfl⟩
  · have hn1 : 1 ≤ n := by omega
    have hz : ((n : Int) == 0) = false := beq_eq_false_iff_ne.2 (by omega)
    have mW : ∀ w, (method 323 100 (.pointer (some ⟨i.b, 0, none⟩)) "Write").run Tryd.prog w = .ok (129, .pointer (some ⟨i.b, 0, none⟩)) w := fun w => by kernel_rfl
    have nW : ∀ w, (nilAhead 323 100 (.pointer (some ⟨i.b, 0, none⟩)) "Write").run Tryd.prog w = .ok (some false) w := fun w => by kernel_rfl
    have eW := Tryd.call129
    have hI1 : (0 : Int) ≤ (n : Int) := by omega
    have hI2 : (n : Int) ≤ 4096 := by omega
    clear hn
    go_enter Tryd.func89, Tryd.ntmps89
    go_wp2_with fail
    have hfn : ¬ (i.q = i.b ∨ i.v.ownBlock = some i.q) := fun h => h.elim n2 n4
    go_region_held3 (fun w' => w'.cell? ⟨i.q, 1, none⟩ = some (.slice (some ⟨i.f, 0, none⟩) 4096 4096) ∧ w'.cell? ⟨i.q, 2, none⟩ = some (.int .i64 n) ∧ w'.cell? ⟨i.q, 3, none⟩ = some (.iface 100 (.pointer (some ⟨i.b, 0, none⟩))))
      (first | go_keep | exact ⟨hmm.cell (cell_same c1 rfl) hfn, hmm.cell (cell_same c2 rfl) hfn, hmm.cell (cell_same c3 rfl) hfn⟩)
      (first | (go_at_call 129; refine (write_any i.b i.v (done.map bN) (pend.map bN) ⟨i.f, 0, none⟩ n 4096 _ ?_ (bN_one _) (by simpa using HPN.out) hn1 n3 n5 ?_ (bN_one _) (by simpa using hl) (by omega)).mono ?_; exact HI.out.same rfl; (intro j x hj; rw [addr_add, Nat.zero_add]; exact cell_same (block_cell HF.out (by have := HFT.out; rw [← this, List.getElem?_take] at hj; split at hj <;> simp_all)) rfl); rintro e w2 ⟨rfl, v2, hI2, hmm, hv2⟩))
    have hq2 := hmm.heap (show (w.drewN _).heap[i.q]? = _ from HB.out) hfn
    have hf2 := hmm.heap (show (w.drewN _).heap[i.f]? = _ from HF.out) (fun h => h.elim n3 n5)
    have d2 : w2.cell? ⟨i.q, 2, none⟩ = some (.int .i64 n) := block_cell hq2 rfl
    have d0 : w2.frozen? ⟨i.q, 2, none⟩ = false := block_free hq2
    have HQ2 := Lib.hid hq2
    have HF2 := Lib.hid hf2
    have HI2 := Lib.hid hI2
    have HV2 := Lib.hid hv2
    have hnn : decide ((n : Int) < n) = false := by simp
    clear hq2 hf2 hI2 hv2
    go_wp2_with fail
    go_ret
    have hvq : ∀ k, i.F k → k < w.heap.size := HL.out
    have hq : i.q < w.heap.size := hvq _ (Or.inl rfl)
    have hf : i.f < w.heap.size := hvq _ (Or.inr (Or.inl rfl))
    have hv : ∀ k, k < w.heap.size → i.v.ownBlock ≠ some k → v2.ownBlock ≠ some k := by
      intro k hk h1 h2
      rcases HV2.out with h3 | ⟨g, h3, h4⟩
      · exact h1 (h3 ▸ h2)
      · rw [h3] at h2
        cases h2
        exact absurd hk (by simpa using h4)
    refine ⟨rfl, v2, ⟨?_, ⟨arr, block_set_ne HF2.out (by simpa using n1), HFS.out, by simp⟩, by simp, ?_, ⟨n1, n2, n3, hv _ hq n4, hv _ hf n5⟩⟩, ?_, ?_⟩
    · show (w2.setCell ⟨i.q, 2, none⟩ _).heap[i.q]? = _
      rw [block_set HQ2.out]
      rfl
    · have := HI2.out.mod (w' := w2.setCell ⟨i.q, 2, none⟩ (.int .i64 0)) (F := fun k => k = i.q) (Mod.setCell (F := fun k => k = i.q) (Mod.refl _ _) (p := ⟨i.q, 2, none⟩) (fun _ => rfl) _) (fun e => n2 e.symm) (fun k hk e => hv _ hq n4 (by rw [hk, e]))
      simpa [← List.map_append] using this
    · refine Mod.setCell (F := i.F) ((((Mod.refl _ _).drewN _).step hmm fun k _ hk => ?_)) (p := ⟨i.q, 2, none⟩) (fun _ => Or.inl rfl) _
      rcases hk with hk | hk
      · exact Or.inr (Or.inr (Or.inl hk))
      · exact Or.inr (Or.inr (Or.inr hk))
    · rcases HV2.out with h3 | ⟨g, h3, h4⟩
      · exact Or.inl h3
      · exact Or.inr ⟨g, h3, by simpa using h4⟩
end Go.Proofs.YtkbonmjbfpdchaaDoor.Buf
