/- The decoder: the methods of a state, as it was read. -/
import Derived.Test.YtkbonmjbfpdchaaDoorDec1
import Derived.Test.YtkbonmjbfpdchaaDoorShI
import Derived.Lib.Bytealg
namespace Go.Proofs.YtkbonmjbfpdchaaDoor.Dec
open Go.ChangeShapes Go.WideShapes Go.ChangeAt Go.RowKit Go.Trav Go.Pk Go.Dec Go.Proofs.YtkbonmjbfpdchaaDoor.PkS
set_option linter.unusedVariables false
set_option linter.unusedSimpArgs false
set_option maxRecDepth 100000
/-- The first place of a byte. -/
theorem indexByte_first (l : List UInt8) (c : UInt8) (k : Nat) (h : l[k]? = some c) (hm : ∀ j, j < k → l[j]? ≠ some c) : Lib.indexByte l c = (k : Int) := by
  induction l generalizing k with
  | nil => simp at h
  | cons x r ih =>
    cases k with
    | zero =>
      simp at h
      subst h
      simp [Lib.indexByte]
    | succ k =>
      have h0 := hm 0 (by omega)
      simp at h0
      have := ih k (by simpa using h) (fun j hj => by have := hm (j + 1) (by omega); simpa using this)
      have hne : (x == c) = false := by simpa using h0
      simp only [Lib.indexByte, hne, Bool.false_eq_true, if_false]
      rw [this]
      have : ((k : Int) == -1) = false := beq_eq_false_iff_ne.2 (by omega)
      rw [this]
      simp
theorem indexByte_none (l : List UInt8) (c : UInt8) (hm : ∀ j : Nat, l[j]? ≠ some c) : Lib.indexByte l c = -1 := by
  induction l with
  | nil => rfl
  | cons x r ih =>
    have h0 := hm 0
    simp at h0
    have := ih (fun j => by have := hm (j + 1); simpa using this)
    have hne : (x == c) = false := by simpa using h0
    simp only [Lib.indexByte, hne, Bool.false_eq_true, if_false]
    rw [this]
    rfl
theorem fin_any (S o : Nat) (dv : Value) (D : List Nat) (d : Desc) (f : Bool) (fo : Nat) (l : List NA) (w : World) (h : StAt w S o dv D d) (hs : Says D d f fo l) :
    Calls Tryd.prog 137 #[.pointer (some ⟨S, o, none⟩)] w fun e w' => e = .returned (.bool f) ∧ w = w' := by
  have k : w.cell? ⟨S, o + 10, none⟩ = some (.bool f) := by
    cases hs with
    | single => exact (h.cells 10 _ rfl).1
    | multi => exact (h.cells 10 _ rfl).1
  clear h hs
  go_enter Tryd.func137, Tryd.ntmps137
  go_wp2_with fail
  go_ret
  exact ⟨rfl, rfl⟩
theorem num_any (S o : Nat) (dv : Value) (D : List Nat) (d : Desc) (f : Bool) (fo : Nat) (l : List NA) (w : World) (h : StAt w S o dv D d) (hs : Says D d f fo l) :
    Calls Tryd.prog 139 #[.pointer (some ⟨S, o, none⟩)] w fun e w' => e = .returned (.int .i64 (l.length : Nat)) ∧ w = w' := by
  have k : w.cell? ⟨S, o + 3, none⟩ = some (.int .i64 (l.length : Nat)) := by
    cases hs with
    | single => exact (h.cells 3 _ rfl).1
    | multi top bot s0 n ts os tv f fo l h1 h2 hb hM hi => rw [hM.len]; exact (h.cells 3 _ rfl).1
  clear h hs
  go_enter Tryd.func139, Tryd.ntmps139
  go_wp2_with fail
  go_ret
  exact ⟨rfl, rfl⟩
theorem StAt.drewN {w : World} {S o : Nat} {dv : Value} {D : List Nat} {d : Desc} (h : StAt w S o dv D d) (k : Nat) : StAt (w.drewN k) S o dv D d :=
  ⟨h.cells, h.data.drewN k, h.small, h.bytes⟩
theorem finOut_any (S o : Nat) (dv : Value) (D : List Nat) (d : Desc) (f : Bool) (fo : Nat) (l : List NA) (w : World) (h : StAt w S o dv D d) (hs : Says D d f fo l) :
    Calls Tryd.prog 138 #[.pointer (some ⟨S, o, none⟩)] w fun e w' => e = .returned (.int .u64 (fo : Nat)) ∧ ∃ k, w' = w.drewN k := by
  cases hs with
  | single top bot nx ts os tv x h1 h2 h3 h4 =>
    have k : w.cell? ⟨S, o + 10, none⟩ = some (.bool false) := (h.cells 10 _ rfl).1
    clear h h1 h2 h3 h4
    go_enter Tryd.func138, Tryd.ntmps138
    go_wp2_with fail
    go_ret
    exact ⟨rfl, 0, rfl⟩
  | multi top bot s0 n ts os tv f fo l h1 h2 hb hM hi =>
    have k10 : w.cell? ⟨S, o + 10, none⟩ = some (.bool f) := (h.cells 10 _ rfl).1
    have k9 : w.cell? ⟨S, o + 9, none⟩ = some (.int .i64 (os : Nat)) := (h.cells 9 _ rfl).1
    have k17 := (h.cells 17 _ rfl).1
    cases f with
    | false =>
      have hfo := hM.fin rfl
      subst hfo
      clear h h1 h2 hb hM hi k17
      go_enter Tryd.func138, Tryd.ntmps138
      go_wp2_with fail
      go_ret
      exact ⟨rfl, 0, rfl⟩
    | true =>
      by_cases ho : os = 0
      · subst ho
        have hfo : fo = 0 := by have := hM.fol; simpa using this
        subst hfo
        replace k9 : w.cell? ⟨S, o + 9, none⟩ = some (.int .i64 0) := k9
        clear h h1 h2 hb hM hi k17
        go_enter Tryd.func138, Tryd.ntmps138
        go_wp2_with fail
        go_ret
        exact ⟨rfl, 0, rfl⟩
      · rw [if_neg ho, if_pos rfl] at k17
        have k0 := (h.cells 0 _ rfl).1
        rw [Nat.add_zero] at k0
        have hin : s0 + os ≤ D.length := by
          have e1 : tbOf s0 n ts os true = s0 + os + n * os + n * ts := by simp [tbOf, dbOf, obOf]
          omega
        obtain ⟨b, off, cap, rfl, -, -⟩ := data_at h.data (i := s0) (x := D[s0]'(by omega)) (List.getElem?_eq_getElem (by omega))
        have hlen := h.small
        have hcap : D.length ≤ cap ∧ cap ≤ 9223372036854775807 := by
          obtain ⟨_, _, e, q1, q2, _⟩ := h.data
          cases e
          unfold maxLen at q2
          omega
        have hr := reads_slc h.data (a := s0) (n := os) (c' := cap - s0) hin (by omega) (by omega)
        have hq := fun j : Nat => PkS.read_any _ os (slc D s0 os) (w.drewN j) (hr.drewN j) hM.os8 (slc_lt h.bytes _ _)
        rw [hM.fins rfl, unpacked_packed_of_lt hM.fol] at hq
        have ho8 := hM.os8
        have HQ := Lib.hid hq
        have hos : decide (0 < os) = true := by simp; omega
        have hI1 : (0 : Int) ≤ (s0 : Int) := by omega
        have hI2 : (s0 : Int) ≤ (s0 : Int) + (os : Int) := by omega
        have hI3 : (s0 : Int) + (os : Int) ≤ (cap : Int) := by omega
        have hI4 : ¬ cap = s0 := by omega
        have hw : IntKind.i64.wrap ((s0 : Int) + os) = (s0 : Int) + os := IntWalk.i64_in _ (by omega)
        have hn1 : ((s0 : Int) + os).toNat = s0 + os := by omega
        have hn2 : s0 + os - s0 = os := by omega
        unfold iI at k17
        clear h h1 h2 hb hM hi hr hq ho8 hlen hin hcap
        generalize D.length = dl at *
        go_enter Tryd.func138, Tryd.ntmps138
        go_wp2_with fail
        go_quiet ((exact Calls.quiet_of_same ((HQ.out _).mono fun _ _ ⟨p, q⟩ => ⟨p, q.symm⟩)))
        go_wp2_with fail
        go_ret
        exact ⟨rfl, _, rfl⟩
theorem isEnc_says (S o : Nat) (dv : Value) (D : List Nat) (d : Desc) (f : Bool) (fo : Nat) (l : List NA) (w : World) (h : StAt w S o dv D d) (hs : Says D d f fo l) :
    Calls Tryd.prog 76 #[.pointer (some ⟨S, o, none⟩)] w fun e w' => e = .returned (.bool (match d with | .single .. => true | .multi .. => false)) ∧ ∃ k, w' = w.drewN k := by
  cases hs with
  | single top bot nx ts os tv x h1 h2 h3 h4 =>
    have := isEnc_any S o dv D _ tv top w h rfl rfl h1
    rwa [show decide (128 ≤ tv) = true by simpa using h2] at this
  | multi top bot s0 n ts os tv f fo l h1 h2 hb hM hi =>
    have := isEnc_any S o dv D _ tv top w h rfl rfl h1
    rwa [show decide (128 ≤ tv) = false by simpa using h2] at this
/-- The data's slice, and its bounds. -/
theorem data_form {w : World} {S o : Nat} {dv : Value} {D : List Nat} {d : Desc} (h : StAt w S o dv D d) (hp : 0 < D.length) : ∃ b off cap, dv = .slice (some ⟨b, off, none⟩) D.length cap ∧ D.length ≤ cap ∧ cap ≤ 9223372036854775807 := by
  obtain ⟨b, off, cap, rfl, -, -⟩ := data_at h.data (i := 0) (x := D[0]'hp) (List.getElem?_eq_getElem hp)
  obtain ⟨_, _, e, q1, q2, _⟩ := h.data
  cases e
  unfold maxLen at q2
  exact ⟨b, off, cap, rfl, by omega, by omega⟩
theorem trAt_any (S o : Nat) (dv : Value) (D : List Nat) (d : Desc) (f : Bool) (fo : Nat) (l : List NA) (i : Nat) (x : NA) (w : World) (h : StAt w S o dv D d) (hs : Says D d f fo l) (hi : l[i]? = some x) :
    Calls Tryd.prog 140 #[.pointer (some ⟨S, o, none⟩), .int .i64 (i : Nat)] w fun e w' => e = .returned (.int .u8 (x.1 : Nat)) ∧ ∃ k, w' = w.drewN k := by
  cases hs with
  | single top bot nx ts os tv y h1 h2 h3 h4 =>
    have hE := isEnc_any S o dv D _ tv top w h rfl rfl h1
    rw [show decide (128 ≤ tv) = true by simpa using h2] at hE
    replace hE := Lib.hid hE
    have hy : y = x := by
      cases i with
      | zero => simpa using hi
      | succ i => simp at hi
    subst hy
    have k4 := (h.cells 4 _ rfl).1
    clear h h1 h2 h3 h4 hi
    go_enter Tryd.func140, Tryd.ntmps140
    go_wp2_with fail
    refine hE.out.mono ?_
    rintro e w2 ⟨rfl, k, rfl⟩
    go_wp2_with fail
    go_ret
    exact ⟨rfl, _, rfl⟩
  | multi top bot s0 n ts os tv f fo l h1 h2 hb hM hii =>
    have hE := isEnc_any S o dv D _ tv top w h rfl rfl h1
    rw [show decide (128 ≤ tv) = false by simpa using h2] at hE
    replace hE := Lib.hid hE
    have hil := (List.getElem?_eq_some_iff.1 hi).1
    have hin : i < n := by rw [← hM.len]; exact hil
    have hkey := hM.keys i x hi
    obtain ⟨tb, htb⟩ : ∃ tb, tb = tbOf s0 n ts os f := ⟨_, rfl⟩
    have hlen := h.small
    obtain ⟨b, off, cap, rfl, hcap1, hcap2⟩ := data_form h (by omega)
    obtain ⟨b', off', cap', e2, c0, hlt⟩ := data_at h.data hkey
    cases e2
    have k0 := (h.cells 0 _ rfl).1
    have k3 := (h.cells 3 _ rfl).1
    have k11 := (h.cells 11 _ rfl).1
    have k12 := (h.cells 12 _ rfl).1
    rw [Nat.add_zero] at k0
    simp only [iI, ← htb] at k3 k11 k12
    rw [← htb] at c0 hii
    obtain ⟨j, hj⟩ : ∃ j, j = n - 1 - i := ⟨_, rfl⟩
    rw [← hj] at c0
    have hI1 : (0 : Int) ≤ (tb : Int) := by omega
    have hI2 : (tb : Int) ≤ ((tb + n : Nat) : Int) := by omega
    have hI2' : (tb : Int) ≤ (tb : Int) + (n : Int) := by omega
    have hI3 : ((tb + n : Nat) : Int) ≤ (cap : Int) := by omega
    have hI3' : (tb : Int) + (n : Int) ≤ (cap : Int) := by omega
    have hI4 : ¬ cap = tb := by omega
    have hw1 : IntKind.i64.wrap ((n : Int) - i) = (n : Int) - i := IntWalk.i64_in _ (by omega)
    have hw2 : IntKind.i64.wrap ((n : Int) - i - 1) = (j : Int) := (congrArg IntKind.i64.wrap (by omega)).trans (IntWalk.i64_in _ (by omega))
    have hJ : (n : Int) - i - 1 = (j : Int) := by omega
    have hn1 : tb + n - tb = n := by omega
    have hn2 : ((tb : Int) + n).toNat = tb + n := by omega
    have hJ1 : (0 : Int) ≤ (j : Int) := by omega
    have hJ2 : (j : Int) < (n : Int) := by omega
    rw [← Nat.add_assoc] at c0
    have HJ := Lib.hid hj
    have HTB := Lib.hid htb
    clear h h1 h2 hb hM hii hi hkey hj htb
    generalize D.length = dl at *
    go_enter Tryd.func140, Tryd.ntmps140
    go_wp2_with fail
    refine hE.out.mono ?_
    rintro e w2 ⟨rfl, k, rfl⟩
    go_wp2_with fail
    go_quiet (fail)
    go_wp2_with fail
    go_ret
    exact ⟨rfl, _, rfl⟩
theorem slc_at {D : List Nat} {a n k : Nat} (hk : k < n) : (slc D a n)[k]? = D[a + k]? := by
  simp only [slc, List.getElem?_take, List.getElem?_drop, hk, if_true]
theorem ib_any {w : World} {b off cap : Nat} {D : List Nat} (h : Reads w (.slice (some ⟨b, off, none⟩) D.length cap) D.length 1 (D.map bN)) (hD : ∀ y ∈ D, y < 256) (a n c j v : Nat) (ha : a + n ≤ D.length) (hj : j < n) (hv : D[a + j]? = some v) (hm : ∀ i, i < j → D[a + i]? ≠ some v) :
    Calls Tryd.prog 142 #[.slice (some ⟨b, off + a, none⟩) n c, .int .u8 (v : Nat)] w fun e w' => e = .returned (.int .i64 (j : Nat)) ∧ w' = w := by
  have hl : (slc D a n).length = n := by simp [slc]; omega
  have hv256 : v < 256 := hD v (List.mem_of_getElem? hv)
  have hq := Tryd.bytes_IndexByte b (off + a) n c ((slc D a n).map fun x : Nat => (x : Int)) (v : Int) w (by rw [List.length_map, hl]) (fun i hi => by
    have hx : D[a + i]? = some (D[a + i]'(by omega)) := List.getElem?_eq_getElem (by omega)
    obtain ⟨b', off', cap', e, c0, -⟩ := data_at h hx
    cases e
    rw [Nat.add_assoc, c0]
    congr 2
    rw [List.getD_eq_getElem?_getD, List.getElem?_map, slc_at hi, hx]
    rfl)
  have e1 : Lib.indexByte (Lib.bytesOf ((slc D a n).map fun x : Nat => (x : Int))) ((v : Int).toNat.toUInt8) = (j : Int) := by
    have hb : Lib.bytesOf ((slc D a n).map fun x : Nat => (x : Int)) = (slc D a n).map fun x => UInt8.ofNat x := by
      simp only [Lib.bytesOf, List.map_map]
      rfl
    rw [hb]
    refine indexByte_first _ _ j ?_ (fun i hi he => ?_)
    · rw [List.getElem?_map, slc_at hj, hv]
      rfl
    · rw [List.getElem?_map, slc_at (by omega)] at he
      cases e : D[a + i]? with
      | none => rw [e] at he; simp at he
      | some y =>
        rw [e] at he
        simp only [Option.map_some, Option.some.injEq] at he
        have hy : y < 256 := hD y (List.mem_of_getElem? e)
        have : y = v := by
          have h2 := congrArg UInt8.toNat he
          simp at h2
          omega
        exact hm i hi (by rw [e, this])
  rw [e1] at hq
  exact hq
theorem trFor_single (S o : Nat) (dv : Value) (D : List Nat) (top bot : Nat) (nx : Bool) (ts os tv : Nat) (x : NA) (w : World) (h : StAt w S o dv D (.single top bot x.1 nx x.2.2 x.2.1 ts os)) (h1 : D[top]? = some tv) (h2 : 128 ≤ tv) (ha : x.2.2 ≤ 4294967296) :
    Calls Tryd.prog 141 #[.pointer (some ⟨S, o, none⟩), .int .u8 (x.1 : Nat)] w fun e w' => e = .returned (.tuple #[.int .i64 (0 : Nat), .int .i64 (x.2.2 : Nat), .int .u64 (x.2.1 : Nat)]) ∧ ∃ k, w' = w.drewN k := by
  have hE := isEnc_any S o dv D _ tv top w h rfl rfl h1
  rw [show decide (128 ≤ tv) = true by simpa using h2] at hE
  replace hE := Lib.hid hE
  obtain ⟨xi, xo, xa⟩ := x
  have k4 := (h.cells 4 _ rfl).1
  have k6 := (h.cells 6 _ rfl).1
  have k7 := (h.cells 7 _ rfl).1
  simp only at k4 k6 k7 ha ⊢
  have hw : IntKind.i64.wrap (xa : Int) = xa := IntWalk.i64_in _ (by omega)
  have hq : ((xi : Int) == xi) = true := beq_self_eq_true _
  clear h h1 h2
  go_enter Tryd.func141, Tryd.ntmps141
  go_wp2_with fail
  refine hE.out.mono ?_
  rintro e w2 ⟨rfl, k, rfl⟩
  go_wp2_with fail
  go_quiet (fail)
  go_wp2_with fail
  go_ret3
  exact ⟨rfl, _, World.drewN_drewN _ _ _⟩
end Go.Proofs.YtkbonmjbfpdchaaDoor.Dec
