/- Places: ZzNormal, impl.Normal; laws.needed. -/
import Derived.Test.YtpkkagiplockiaaNfa4
import Derived.Test.YtpkkagiplockiaaNfa5
import Derived.StillTailTactics
namespace Go.Proofs.Ytpkkagiplockiaa.Nfa
open Go.ChangeShapes Go.WideShapes Go.ChangeAt Go.RowKit Go.Trav Go.Nor Go.Proofs.Ytpkkagiplockiaa.Srt
set_option linter.unusedVariables false
set_option linter.unusedSimpArgs false
set_option maxRecDepth 100000
theorem all_mem {l : List Plc} {x : Plc} (h : x ∈ all l) : x ∈ l := (says_all l).of x h
theorem all_ne {l : List Plc} (h : l ≠ []) : all l ≠ [] := by
  obtain ⟨x, r, rfl⟩ := List.exists_cons_of_ne_nil h
  obtain ⟨s, hs, _⟩ := (says_all (x :: r)).cov x (by simp)
  exact List.ne_nil_of_mem hs
/-- The answer of ZzNormal and Normal. -/
def IsN (S : List Plc) (w' : World) (e : Ending) : Prop := ∃ (v' : Value) (G : List Plc), e = .returned (.tuple #[.int .u32 (least (all S) : Nat), v']) ∧ G.Perm ((all S).map (back (least (all S)))) ∧ Reads w' v' G.length 3 (G.flatMap pC)
set_option maxHeartbeats 8000000 in
theorem zznormal_any (v : Value) (n : Nat) (S : List Plc) (w : World) (h : Reads w v n 3 (S.flatMap pC)) (hs : ∀ s ∈ S, Sm s) (hne : S ≠ []) (hn : n ≤ 1000) :
    Calls Try.prog 15 #[v] w fun e w' => IsN S w' e ∧ Below w.heap.size w w' := by
  obtain ⟨ao, cap, rfl⟩ := h.form
  have hS : S.length = n := h.recs pC pC_len (by omega)
  have HR := Lib.hid h
  have HN := Lib.hid hS
  have HS := Lib.hid hs
  have HE := Lib.hid (all_ne hne)
  clear h hS hs hne
  go_enter Try.func15, Try.ntmps15
  go_wp2_with fail
  refine (newms_any w).mono ?_
  rintro e w1 ⟨M, v0, rfl, hM, hb⟩
  have HM := Lib.hid hM
  have HB := Lib.hid hb
  have hMge := hM.ge
  clear hM hb
  go_wp2_with fail
  go_loopw [11] (fun iv wr => ∃ (k : Nat) (v1 : Value), iv = .int .i64 k ∧ k ≤ n ∧ Hid (Below w.heap.size w wr) ∧ Hid (MsAt wr w.heap.size M v1 (all (S.take k)))) (fun iv _ => n - (intOf iv).toNat)
  case atStart => exact ⟨0, v0, rfl, Nat.zero_le _, HB, HM⟩
  case round =>
    clear HB HM
    obtain ⟨k, v1, rfl, h1, HB, HM⟩ := hrel
    rename World => wr
    by_cases hk : k < n
    · obtain ⟨b, off, cap', x, e, hx, c0, c1, c2⟩ := reads_at (HR.out.below HB.out) hk
      simp only [Value.slice.injEq] at e
      obtain ⟨rfl, -, rfl⟩ := e
      have hnb : (wr.alloc (.cells #[.int .u32 (x.o : Nat), .int .u8 (x.d : Nat), .bool x.t] 50)).heap[wr.heap.size]? = some (.cells #[.int .u32 (x.o : Nat), .int .u8 (x.d : Nat), .bool x.t] 50 (0, 0)) := heap_alloc_new wr _
      have D0 := block_cell (i := 0) (u := .int .u32 (x.o : Nat)) hnb rfl
      have D1 := block_cell (i := 1) (u := .int .u8 (x.d : Nat)) hnb rfl
      have D2 := block_cell (i := 2) (u := .bool x.t) hnb rfl
      have hlen := all_len (S.take k)
      rw [List.length_take] at hlen
      have HC := Lib.hid (add_any w.heap.size M v1 (all (S.take k)) x (wr.alloc (.cells #[.int .u32 (x.o : Nat), .int .u8 (x.d : Nat), .bool x.t] 50)) (HM.out.alloc _) (fun s hs => HS.out s (List.mem_of_mem_take (all_mem hs))) (HS.out x (List.mem_of_getElem? hx)) (by omega))
      have HX := Lib.hid hx
      have HBa := Lib.hid (HB.out.alloc HB.out.size (.cells #[.int .u32 (x.o : Nat), .int .u8 (x.d : Nat), .bool x.t] 50))
      clear hx hnb hlen
      unfold pV at HC
      go_wp2_with fail
      refine HC.out.mono ?_
      rintro e w2 ⟨rfl, ⟨v2, hm2⟩, hb2⟩
      have HM2 := Lib.hid hm2
      have HB2 := Lib.hid (HBa.out.trans hb2)
      clear hm2 hb2
      go_wp2_with fail
      go_roundw
      case rel => exact ⟨k + 1, v2, by go_num, by omega, HB2, by rw [all_take HX.out]; exact HM2⟩
      case measure => simp [intOf] <;> omega
    · obtain rfl : k = n := by omega
      have eS : S.take k = S := List.take_of_length_le (by have := HN.out; omega)
      have hlen := all_len S
      have HC := Lib.hid (norm_any w.heap.size M v1 (all S) wr (by rw [← eS]; rw [eS]; have := HM.out; rw [eS] at this; exact this) (fun s hs => HS.out s (all_mem hs)) HE.out (by have := HN.out; omega))
      have HNN := Lib.hid (show S.length = k from HN.out)
      clear eS hlen
      go_wp2_with fail
      refine HC.out.mono ?_
      rintro e w2 ⟨rfl, ⟨G, hp, hm2⟩, hb2⟩
      obtain ⟨av, cv, rfl⟩ := ownsRow_form hm2.row
      have c0 := block_cell (i := 0) (u := .slice av G.length cv) hm2.blk rfl
      have HM2 := Lib.hid hm2
      have HP := Lib.hid hp
      have HB2 := Lib.hid (HB.out.trans hb2)
      clear hm2 hp hb2
      go_wp2_with fail
      go_quiet (fail)
      go_wp2_with fail
      go_ret2
      exact ⟨⟨_, G, rfl, HP.out, (reads_of_owns HM2.out.row).drewN _⟩, below_drewN HB2.out _⟩
set_option maxHeartbeats 4000000 in
theorem normal_any (v : Value) (n : Nat) (S : List Plc) (w : World) (h : Reads w v n 3 (S.flatMap pC)) (hs : ∀ s ∈ S, Sm s) (hne : S ≠ []) (hn : n ≤ 1000) :
    Calls Try.prog 5 #[v] w fun e w' => IsN S w' e ∧ Below w.heap.size w w' := by
  obtain ⟨ao, cap, rfl⟩ := h.form
  have hS : S.length = n := h.recs pC pC_len (by omega)
  have HI := Lib.hid (in_any _ n S w h (by omega))
  have HN := Lib.hid hS
  have HS := Lib.hid hs
  have HE := Lib.hid hne
  clear h hS hs hne
  go_enter Try.func5, Try.ntmps5
  go_wp2_with fail
  refine HI.out.mono ?_
  rintro e w1 ⟨v1, rfl, ho, hb⟩
  have HZ := Lib.hid (zznormal_any v1 n S w1 (reads_of_owns ho) HS.out HE.out hn)
  have HB := Lib.hid hb
  clear ho hb
  go_wp2_with fail
  refine HZ.out.mono ?_
  rintro e w2 ⟨⟨v2, G, rfl, hp, hr⟩, hb⟩
  have hGl : G.length ≤ 1000 := by
    rw [hp.length_eq, List.length_map]
    have := all_len S
    have := HN.out
    omega
  have HO := Lib.hid (out_any v2 G.length G w2 hr (by omega))
  have HB2 := Lib.hid (HB.out.trans (hb.mono HB.out.size))
  have HP := Lib.hid hp
  obtain ⟨av, cv, rfl⟩ := hr.form
  clear hb hp hr
  go_wp2_with fail
  refine HO.out.mono ?_
  rintro e w3 ⟨v3, rfl, ho, hb⟩
  have HB3 := Lib.hid (HB2.out.trans (hb.mono HB2.out.size))
  have HO3 := Lib.hid (reads_of_owns ho)
  clear ho hb
  go_wp2_with fail
  go_ret2
  exact ⟨⟨_, G, rfl, HP.out, HO3.out⟩, HB3.out⟩
set_option maxHeartbeats 8000000 in
theorem needed_any (v : Value) (n : Nat) (S : List Plc) (w : World) (h : Reads w v n 3 (S.flatMap pC)) (hs : ∀ s ∈ S, Sm s) (hn : n ≤ 1000) (hA : S.Pairwise Apart) :
    Calls Try.prog 8 #[v] w fun e w' => e = .returned (.bool true) ∧ Below w.heap.size w w' := by
  obtain ⟨ao, cap, rfl⟩ := h.form
  have hS : S.length = n := h.recs pC pC_len (by omega)
  have hap : ∀ i k x y, S[i]? = some x → S[k]? = some y → i ≠ k → imp x y = false := fun i k x y hx hy hik => by
    obtain ⟨a1, a2⟩ := List.getElem?_eq_some_iff.1 hx
    obtain ⟨b1, b2⟩ := List.getElem?_eq_some_iff.1 hy
    rcases Nat.lt_or_gt_of_ne hik with hlt | hlt
    · have := List.pairwise_iff_getElem.1 hA i k a1 b1 hlt
      rw [a2, b2] at this
      exact this.1
    · have := List.pairwise_iff_getElem.1 hA k i b1 a1 hlt
      rw [a2, b2] at this
      exact this.2
  have HR := Lib.hid h
  have HN := Lib.hid hS
  have HS := Lib.hid hs
  have HA := Lib.hid hap
  clear h hS hs hA hap
  go_enter Try.func8, Try.ntmps8
  go_wp2_with fail
  go_loopw [3] (fun iv wr => ∃ i : Nat, iv = .int .i64 i ∧ i ≤ n ∧ Hid (Below w.heap.size w wr)) (fun iv _ => n - (intOf iv).toNat)
  case atStart => exact ⟨0, rfl, Nat.zero_le _, Lib.hid (Below.refl _ _)⟩
  case round =>
    obtain ⟨i, rfl, h1, HB⟩ := hrel
    rename World => wr
    by_cases hi : i < n
    · go_wp2_with fail
      go_loopw [4] (fun kv wr => ∃ k : Nat, kv = .int .i64 k ∧ k ≤ n ∧ Hid (Below w.heap.size w wr)) (fun kv _ => n - (intOf kv).toNat)
      case atStart => exact ⟨0, rfl, Nat.zero_le _, HB⟩
      case round =>
        obtain ⟨k, rfl, h2, HB2⟩ := hrel
        rename World => wq
        by_cases hk : k < n
        · obtain ⟨b, off, cap', x, e, hx, c0, c1, c2⟩ := reads_at (HR.out.below HB2.out) hi
          simp only [Value.slice.injEq] at e
          obtain ⟨rfl, -, rfl⟩ := e
          obtain ⟨b', off', cap2, y, e', hy, d0, d1, d2⟩ := reads_at (HR.out.below HB2.out) hk
          simp only [Value.slice.injEq, Option.some.injEq, Addr.mk.injEq, and_true] at e'
          obtain ⟨⟨rfl, rfl⟩, -, rfl⟩ := e'
          have C0 := cell_regrown c0
          have C1 := cell_regrown c1
          have C2 := cell_regrown c2
          have D0 := cell_regrown d0
          have D1 := cell_regrown d1
          have D2 := cell_regrown d2
          have HX := Lib.hid hx
          have HY := Lib.hid hy
          have HI := Lib.hid (fun W => implies_any x y W (HS.out x (List.mem_of_getElem? hx)) (HS.out y (List.mem_of_getElem? hy)))
          unfold pV at HI
          by_cases hik : i = k
          · have hz : (((i : Nat) : Int) != ((k : Nat) : Int)) = false := by simp [hik]
            clear hx hy
            go_wp2_with fail
            go_quiet (fail)
            go_wp2_with fail
            go_roundw
            case rel => exact ⟨k + 1, by go_num, by omega, Lib.hid (by repeat (first | exact HB2.out | refine below_drewN ?_ _))⟩
            case measure => simp [intOf] <;> omega
          · have hz : (((i : Nat) : Int) != ((k : Nat) : Int)) = true := by simp; omega
            rw [HA.out i k x y hx hy hik] at HI
            clear hx hy
            go_wp2_with fail
            refine wp_region_quiet_below (by kernel_rfl) (by kernel_rfl) ?_
            repeat (first | go_big_quiet_step ((go_at_call 7; exact Calls.regrown_of (HI.out _))) | quiet_step ((go_at_call 7; exact Calls.regrown_of (HI.out _))))
            refine wpQuiet_nil ?_
            intro _ hw'
            obtain ⟨⟨dq, osq⟩, hw''⟩ := hw'
            subst hw''
            go_wp2_with fail
            go_roundw
            case rel => exact ⟨k + 1, by go_num, by omega, Lib.hid (HB2.out.trans ((below_regrown _ _ _).mono HB2.out.size))⟩
            case measure => simp [intOf] <;> omega
        · go_wp2_with fail
          go_roundw
          case rel => exact ⟨i + 1, by go_num, by omega, HB2⟩
          case measure => simp [intOf] <;> omega
    · go_wp2_with fail
      go_ret
      exact ⟨rfl, HB.out⟩
end Go.Proofs.Ytpkkagiplockiaa.Nfa
