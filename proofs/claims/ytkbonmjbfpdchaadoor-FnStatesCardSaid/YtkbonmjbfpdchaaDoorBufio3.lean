/- bufio.Writer: Write of some bytes. -/
import Derived.Test.YtkbonmjbfpdchaaDoorBufio2
import Derived.Laws.CopyOwn
namespace Go.Proofs.YtkbonmjbfpdchaaDoor.Buf
open Go.ChangeShapes Go.WideShapes Go.ChangeAt Go.RowKit Go.Trav
set_option linter.unusedVariables false
set_option maxRecDepth 100000
/-- What a copy of k bytes into the buffer leaves. -/
def poured (arr : Array Value) (n : Nat) (l : List Nat) : Array Value := (arr.toList.take n ++ (l.map bN ++ arr.toList.drop (n + l.length))).toArray
theorem At.pour {w : World} {i : Ids} {done pend l : List Nat} {arr : Array Value} (h : At w i done pend) (hf : w.heap[i.f]? = some (.cells arr 5 (0, 0))) (hs : arr.size = 4096) (ht : arr.toList.take pend.length = pend.map bN) (hn : pend.length + l.length ≤ 4096) :
    At ((w.setRow i.f (poured arr pend.length l)).setCell ⟨i.q, 2, none⟩ (.int .i64 (pend.length + l.length : Nat))) i done (pend ++ l) ∧ Mod i.F w ((w.setRow i.f (poured arr pend.length l)).setCell ⟨i.q, 2, none⟩ (.int .i64 (pend.length + l.length : Nat))) := by
  obtain ⟨n1, n2, n3, n4, n5⟩ := h.ne
  have hm : Mod i.F w ((w.setRow i.f (poured arr pend.length l)).setCell ⟨i.q, 2, none⟩ (.int .i64 (pend.length + l.length : Nat))) :=
    Mod.setCell (F := i.F) (mod_setRow (F := i.F) (Mod.refl _ _) (fun _ => Or.inr (Or.inl rfl)) _) (p := ⟨i.q, 2, none⟩) (fun _ => Or.inl rfl) _
  have hl1 : (arr.toList.take pend.length).length = pend.length := by rw [ht]; simp
  refine ⟨⟨?_, ⟨poured arr pend.length l, block_set_ne (setRow_heap _ _ _ _ _ _ hf) (by simpa using n1), ?_, ?_⟩, by simpa using hn, ?_, ⟨n1, n2, n3, n4, n5⟩⟩, hm⟩
  · have hb : (w.setRow i.f (poured arr pend.length l)).heap[i.q]? = some (.cells #[.nilIface, .slice (some ⟨i.f, 0, none⟩) 4096 4096, .int .i64 pend.length, .iface 100 (.pointer (some ⟨i.b, 0, none⟩))] 190 (0, 0)) := by rw [setRow_other _ _ _ _ n1]; exact h.bw
    rw [block_set hb]
    simp
  · unfold poured
    simp only [List.size_toArray, List.length_append, hl1, List.length_map, List.length_drop, Array.length_toList, hs]
    omega
  · unfold poured
    rw [List.length_append, ht, ← List.append_assoc, ← List.map_append, List.take_left' (by simp)]
  · refine h.bf.mod (F := fun k => k = i.f ∨ k = i.q) (Mod.setCell (F := fun k => k = i.f ∨ k = i.q) (mod_setRow (F := fun k => k = i.f ∨ k = i.q) (Mod.refl _ _) (fun _ => Or.inl rfl) _) (p := ⟨i.q, 2, none⟩) (fun _ => Or.inr rfl) _)
      (fun e => e.elim (fun e => n3 e.symm) (fun e => n2 e.symm)) (fun k hk e => e.elim (fun e => n5 (by rw [hk, e])) (fun e => n4 (by rw [hk, e])))
/-- The copy itself: as many bytes as there is room for, or as there are. -/
theorem pour_run (w1 : World) (f n room k c : Nat) (a : Addr) (l : List Nat) (sl : Nat) (arr : Array Value) (hg : w1.heap[f]? = some (.cells arr 5 (0, 0))) (hs : arr.size = 4096) (hr : room = 4096 - n) (hn : n ≤ 4096) (hk : l.length = min room sl)
    (hsrc : ∀ j x, (l.map bN)[j]? = some x → w1.cell? (a.add j) = some x) :
    (Builtin.copy_ #[35, 35] 3 #[.slice (some ⟨f, n, none⟩) room room, .slice (some a) sl c]).run Tryd.prog w1 = .ok (goInt l.length) (w1.setRow f (poured arr n l)) := by
  have hinfo : (Tryd.prog.info? 5).map (·.size) = some 1 := by
    obtain ⟨i0, hi, -, hz1, -⟩ := info_parts Tryd.info5
    rw [hi]; simp [hz1]
  have := run_copy_row (P := Tryd.prog) w1 35 35 3 5 f n room room a sl c arr 5 (l.map bN) Tryd.underlying35 hinfo hg (by rw [List.length_map, hk]; exact Nat.min_comm _ _) hsrc (by simp; omega) (bN_one l)
  simp only [List.length_map, List.append_assoc] at this
  exact this
theorem write_fit (i : Ids) (done pend l : List Nat) (ab ao n c : Nat) (w : World) (h : At w i done pend) (hn : l.length = n) (hfit : pend.length + n ≤ 4096) (hn1 : 1 ≤ n)
    (hsrc : ∀ j x, (l.map bN)[j]? = some x → w.cell? ⟨ab, ao + j, none⟩ = some x) (hF : ¬ i.F ab) :
    Calls Tryd.prog 82 #[.pointer (some ⟨i.q, 0, none⟩), .slice (some ⟨ab, ao, none⟩) n c] w fun e w' => e = .returned (.tuple #[.int .i64 n, .nilIface]) ∧ Goes w w' i done (pend ++ l) := by
  have hle := h.le
  have hz : decide ((4096 : Int) - pend.length < n) = false := by simp; omega
  obtain ⟨arr, hf, hfs, hft⟩ := h.fb
  have HS := Lib.hid hsrc
  have HH := Lib.hid h
  have HFF := Lib.hid hf
  have HFS := Lib.hid hfs
  have HFT := Lib.hid hft
  have HN := Lib.hid hn
  generalize hp : pend.length = k at *
  have HP := Lib.hid hp
  clear h hsrc hf hfs hft hp hn
  have c0 : w.cell? ⟨i.q, 0, none⟩ = some .nilIface := block_cell HH.out.bw rfl
  have c1 : w.cell? ⟨i.q, 1, none⟩ = some (.slice (some ⟨i.f, 0, none⟩) 4096 4096) := block_cell HH.out.bw rfl
  have c2 : w.cell? ⟨i.q, 2, none⟩ = some (.int .i64 k) := by have := block_cell (i := 2) HH.out.bw rfl; rw [HP.out] at this; exact this
  have hI1 : (0 : Int) ≤ (k : Int) := by omega
  have hI2 : (k : Int) ≤ 4096 := by omega
  have hne : ¬ 4096 = k := by omega
  go_enter Tryd.func82, Tryd.ntmps82
  go_wp2_with fail
  go_loopw [1, 4] (fun p nn wr => p = .slice (some ⟨ab, ao, none⟩) n c ∧ nn = .int .i64 0 ∧ w = wr) (fun _ _ _ => 0)
  case atStart => exact ⟨rfl, rfl, rfl⟩
  case round =>
    obtain ⟨rfl, rfl, rfl⟩ := hrel
    go_wp2_with fail
    refine (avail_any i.q i.f k _ _ _ (by have := HH.out.bw; rw [HP.out] at this; exact this) hle).mono ?_
    rintro e w1 ⟨rfl, q, hw1⟩
    have hh : w1.heap = w.heap := by rw [hw1]; rfl
    have hm1 : Mod i.F w w1 := by rw [hw1]; exact (Mod.refl _ _).drewN q
    have c1' := cell_same c1 hh
    have c2' := cell_same c2 hh
    have c0' := cell_same c0 hh
    have hA1 : At w1.drew i done pend := HH.out.same hh
    have hcp := pour_run w1.drew i.f k (4096 - k) 0 c ⟨ab, ao, none⟩ l n arr (by rw [show w1.drew.heap = w.heap from hh]; exact HFF.out) HFS.out rfl hle (by rw [HN.out]; omega) (fun j x hj => by rw [addr_add]; exact cell_same (HS.out j x hj) hh)
    rw [HN.out] at hcp
    have hput := hA1.pour (l := l) (arr := arr) (by rw [show w1.drew.heap = w.heap from hh]; exact HFF.out) HFS.out (by rw [HP.out]; exact HFT.out) (by rw [HP.out, HN.out]; exact hfit)
    rw [HP.out, HN.out] at hput
    have hqb : (w1.drew.setRow i.f (poured arr k l)).heap[i.q]? = some (.cells #[.nilIface, .slice (some ⟨i.f, 0, none⟩) 4096 4096, .int .i64 k, .iface 100 (.pointer (some ⟨i.b, 0, none⟩))] 190 (0, 0)) := by
      rw [setRow_other _ _ _ _ HH.out.ne.1]; have := hA1.bw; rw [HP.out] at this; exact this
    have d2 : (w1.drew.setRow i.f (poured arr k l)).cell? ⟨i.q, 2, none⟩ = some (.int .i64 k) := block_cell hqb rfl
    have d3 : (w1.drew.setRow i.f (poured arr k l)).frozen? ⟨i.q, 2, none⟩ = false := block_free hqb
    have HPUT := Lib.hid hput
    clear hw1 hh hA1 hput hqb
    go_wp2_with fail
    go_still_tail 10, (by kernel_rfl)
    change wpList _ _ _ _ _ w1.drew
    go_wp2_with fail
    go_ret2
    obtain ⟨hp1, hp2⟩ := HPUT.out
    refine ⟨rfl, i.v, ?_, ?_, Or.inl rfl⟩
    · rw [← Int.natCast_add]; exact hp1
    · rw [← Int.natCast_add]; exact hm1.trans ((mod_of_heap rfl rfl rfl rfl : Mod i.F w1 w1.drew).trans hp2)
end Go.Proofs.YtkbonmjbfpdchaaDoor.Buf
