/- The decoder: TransitionFor of a state of many arcs, for a byte that it has. -/
import Derived.Test.YtkbonmjbfpdchaaDoorDec5
namespace Go.Proofs.YtkbonmjbfpdchaaDoor.Dec
open Go.ChangeShapes Go.WideShapes Go.ChangeAt Go.RowKit Go.Trav Go.Pk Go.Dec Go.Proofs.YtkbonmjbfpdchaaDoor.PkS
set_option linter.unusedVariables false
set_option linter.unusedSimpArgs false
set_option maxRecDepth 100000
set_option maxHeartbeats 2000000 in
theorem trFor_multi (S o : Nat) (dv : Value) (D : List Nat) (top bot s0 n ts os tv : Nat) (f : Bool) (fo : Nat) (l : List NA) (i : Nat) (x : NA) (w : World) (h : StAt w S o dv D (.multi top bot s0 n ts os f)) (h1 : D[top]? = some tv) (h2 : tv < 128) (hb : n ≠ 0 → bot = s0) (hM : SaysM D s0 n ts os f fo l) (hi : tbOf s0 n ts os f + n ≤ D.length) (hx : l[i]? = some x) :
    Calls Tryd.prog 141 #[.pointer (some ⟨S, o, none⟩), .int .u8 (x.1 : Nat)] w fun e w' => e = .returned (.tuple #[.int .i64 (i : Nat), .int .i64 (x.2.2 : Nat), .int .u64 (x.2.1 : Nat)]) ∧ ∃ k, w' = w.drewN k := by
  have hE := isEnc_any S o dv D _ tv top w h rfl rfl h1
  rw [show decide (128 ≤ tv) = false by simpa using h2] at hE
  replace hE := Lib.hid hE
  have hil := (List.getElem?_eq_some_iff.1 hx).1
  have hin : i < n := by rw [← hM.len]; exact hil
  have hn256 := hM.n256
  obtain rfl := hb (by omega)
  obtain ⟨j, hj⟩ : ∃ j, j = n - 1 - i := ⟨_, rfl⟩
  have hjn : j < n := by omega
  have hkey := hM.keys i x hx
  have hdest := hM.dests i x hx
  have hout := hM.outs i x hx
  obtain ⟨hd1, ho1, hx256, hlo⟩ := hM.arcs x (List.mem_of_getElem? hx)
  rw [← hj] at hkey hdest hout
  have hdist : ∀ q, q < j → D[tbOf bot n ts os f + q]? ≠ some x.1 := fun q hq he => by
    have hqx : l[n - 1 - q]? = some (l[n - 1 - q]'(by rw [hM.len]; omega)) := List.getElem?_eq_getElem (by rw [hM.len]; omega)
    have hk2 := hM.keys (n - 1 - q) _ hqx
    rw [show n - 1 - (n - 1 - q) = q by omega, he] at hk2
    have hlt := (List.pairwise_iff_getElem.1 hM.up) i (n - 1 - q) hil (by rw [hM.len]; omega) (by omega)
    have e2 : l[i] = x := by rw [List.getElem?_eq_getElem hil] at hx; exact Option.some.inj hx
    rw [e2] at hlt
    have := Option.some.inj hk2
    omega
  obtain ⟨tb, htb⟩ : ∃ tb, tb = tbOf bot n ts os f := ⟨_, rfl⟩
  obtain ⟨db, hdb⟩ : ∃ db, db = dbOf bot n os f := ⟨_, rfl⟩
  obtain ⟨ob, hob⟩ : ∃ ob, ob = obOf bot os f := ⟨_, rfl⟩
  obtain ⟨m1, hm1⟩ : ∃ m1, m1 = n * ts := ⟨_, rfl⟩
  obtain ⟨m2, hm2⟩ : ∃ m2, m2 = n * os := ⟨_, rfl⟩
  have e1 : tb = db + m1 := by rw [htb, hdb, hm1]; rfl
  have e2 : db = ob + m2 := by rw [hdb, hob, hm2]; rfl
  have hlen := h.small
  obtain ⟨b, off, cap, rfl, hcap1, hcap2⟩ := data_form h (by omega)
  have k0 := (h.cells 0 _ rfl).1
  have k2 := (h.cells 2 _ rfl).1
  have k3 := (h.cells 3 _ rfl).1
  have k8 := (h.cells 8 _ rfl).1
  have k9 := (h.cells 9 _ rfl).1
  have k11 := (h.cells 11 _ rfl).1
  have k12 := (h.cells 12 _ rfl).1
  have k13 := (h.cells 13 _ rfl).1
  have k14 := (h.cells 14 _ rfl).1
  have k15 := (h.cells 15 _ rfl).1
  have k16 := (h.cells 16 _ rfl).1
  rw [Nat.add_zero] at k0
  simp only [iI, ← htb, ← hdb, ← hob] at k2 k3 k8 k9 k11 k12 k13 k14 k15 k16
  rw [← htb] at hi hkey hdist
  rw [← hdb] at hdest
  rw [← hob] at hout
  have hts8 := hM.ts8
  have hos8 := hM.os8
  obtain ⟨p1, hp1⟩ : ∃ p1, p1 = j * ts := ⟨_, rfl⟩
  obtain ⟨p2, hp2⟩ : ∃ p2, p2 = j * os := ⟨_, rfl⟩
  have hp1m : p1 + ts ≤ m1 := by rw [hp1, hm1]; have := Nat.mul_le_mul_right ts (show j + 1 ≤ n by omega); rw [Nat.add_mul, Nat.one_mul] at this; exact this
  have hp2m : p2 + os ≤ m2 := by rw [hp2, hm2]; have := Nat.mul_le_mul_right os (show j + 1 ≤ n by omega); rw [Nat.add_mul, Nat.one_mul] at this; exact this
  rw [← hp1] at hdest
  rw [← hp2] at hout
  have hIB := fun k : Nat => ib_any (h.data.drewN k) h.bytes tb n (cap - tb) j x.1 (by omega) hjn hkey hdist
  have hRD := fun (k c' : Nat) (z1 : ts ≤ c') (z2 : c' ≤ cap) => PkS.read_any _ ts (slc D (db + p1) ts) (w.drewN k) (reads_slc (h.data.drewN k) (a := db + p1) (n := ts) (c' := c') (by omega) z1 z2) hts8 (slc_lt h.bytes _ _)
  have hRO := fun (k c' : Nat) (z1 : os ≤ c') (z2 : c' ≤ cap) => PkS.read_any _ os (slc D (ob + p2) os) (w.drewN k) (reads_slc (h.data.drewN k) (a := ob + p2) (n := os) (c' := c') (by omega) z1 z2) hos8 (slc_lt h.bytes _ _)
  rw [hdest, unpacked_packed_of_lt hd1] at hRD
  rw [hout, unpacked_packed_of_lt ho1] at hRO
  have HIB := Lib.hid hIB
  have HRD := Lib.hid hRD
  have HRO := Lib.hid hRO
  obtain ⟨xi, xo, xa⟩ := x
  simp only at hlo hx256 HIB HRD HRO ho1 ⊢
  have hxo : os = 0 → xo = 0 := fun e => by rw [e] at ho1; simpa using ho1
  have HXO := Lib.hid hxo
  simp only [← Nat.add_assoc] at HRD HRO
  have hm1i : (j : Int) * (ts : Int) = (p1 : Int) := by rw [hp1]; simp
  have hm2i : (j : Int) * (os : Int) = (p2 : Int) := by rw [hp2]; simp
  have a1 : (0 : Int) ≤ (tb : Int) := by omega
  have a2 : (tb : Int) ≤ (tb : Int) + (n : Int) := by omega
  have a3 : (tb : Int) + (n : Int) ≤ (cap : Int) := by omega
  have a4 : ¬ cap = tb := by omega
  have a5 : tb + n - tb = n := by omega
  have a6 : ((tb : Int) + n).toNat = tb + n := by omega
  have b1 : (0 : Int) ≤ (db : Int) := by omega
  have b2 : (db : Int) ≤ (tb : Int) := by omega
  have b3 : (tb : Int) ≤ (cap : Int) := by omega
  have b4 : ¬ cap = db := by omega
  have b5 : tb - db = m1 := by omega
  have c1 : (0 : Int) ≤ (p1 : Int) := by omega
  have c2 : (p1 : Int) ≤ (p1 : Int) + (ts : Int) := by omega
  have c3 : (p1 : Int) + (ts : Int) ≤ ((cap - db : Nat) : Int) := by omega
  have c4 : ¬ cap - db = p1 := by omega
  have c5 : p1 + ts - p1 = ts := by omega
  have c6 : ((p1 : Int) + ts).toNat = p1 + ts := by omega
  have c7 : IntKind.i64.wrap (p1 : Int) = p1 := IntWalk.i64_in _ (by omega)
  have c8 : IntKind.i64.wrap ((p1 : Int) + ts) = (p1 : Int) + ts := IntWalk.i64_in _ (by omega)
  have d1 : (0 : Int) ≤ (ob : Int) := by omega
  have d2 : (ob : Int) ≤ (db : Int) := by omega
  have d3 : (db : Int) ≤ (cap : Int) := by omega
  have d4 : ¬ cap = ob := by omega
  have d5 : db - ob = m2 := by omega
  have g1 : (0 : Int) ≤ (p2 : Int) := by omega
  have g2 : (p2 : Int) ≤ (p2 : Int) + (os : Int) := by omega
  have g3 : (p2 : Int) + (os : Int) ≤ ((cap - ob : Nat) : Int) := by omega
  have g4 : ¬ cap - ob = p2 := by omega
  have g5 : p2 + os - p2 = os := by omega
  have g6 : ((p2 : Int) + os).toNat = p2 + os := by omega
  have g7 : IntKind.i64.wrap (p2 : Int) = p2 := IntWalk.i64_in _ (by omega)
  have g8 : IntKind.i64.wrap ((p2 : Int) + os) = (p2 : Int) + os := IntWalk.i64_in _ (by omega)
  have q1 : IntKind.i64.wrap ((n : Int) - j - 1) = (i : Int) := (congrArg IntKind.i64.wrap (by omega)).trans (IntWalk.i64_in _ (by omega))
  have q2 : (n : Int) - j - 1 = (i : Int) := by omega
  have q3 : decide ((j : Int) < 0) = false := by simp
  have HQ := Lib.hid (And.intro hj (And.intro hp1 hp2))
  have hbot : bot ≤ ob := by rw [hob]; simp [obOf]
  have hfar : far bot xa = 0 ∨ (far bot xa = bot - xa ∧ xa < bot) := by
    unfold far
    split
    · exact Or.inl rfl
    · rcases hlo with e | e
      · omega
      · exact Or.inr ⟨rfl, e⟩
  have hfz : far bot xa = 0 → xa = 0 := fun e => by
    unfold far at e
    split at e
    · assumption
    · rcases hlo with e' | e' <;> omega
  obtain ⟨q, hq⟩ : ∃ q, q = far bot xa := ⟨_, rfl⟩
  rw [← hq] at HRD hfar hfz
  have hbb : bot ≤ 4294967296 := by omega
  have hqb : q ≤ 4294967296 := by rcases hfar with e | ⟨e, _⟩ <;> omega
  have r1 : IntKind.i64.wrap (q : Int) = q := IntWalk.i64_in _ (by omega)
  have HF := Lib.hid hfar
  have HFZ := Lib.hid hfz
  clear h h1 h2 hb hM hi hx hkey hdest hout hd1 ho1 hlo hdist htb hdb hob hm1 hm2 e1 e2 hp1m hp2m hIB hRD hRO hxo hj hp1 hp2 hil hq hfar hfz hts8 hos8 hbot hx256
  generalize D.length = dl at *
  clear hlen hcap1 hcap2
  by_cases hq0 : q = 0
  · have s1 : (q : Int) = 0 := by omega
    have hxa := HFZ.out hq0
    have HXA := Lib.hid hxa
    have HQ0 := Lib.hid hq0
    rw [hq0] at HRD
    clear hxa s1 r1 hqb
    clear hq0
    by_cases ho : os = 0
    · have HO := Lib.hid ho
      rw [if_pos ho] at k15 k16
      have k9' : w.cell? ⟨S, o + 9, none⟩ = some (.int .i64 0) := by rw [k9, ho]; rfl
      have t1 : decide (0 < os) = false := by simp [ho]
      have u1 : ¬ cap = 0 := by omega
      clear ho k9
      go_enter Tryd.func141, Tryd.ntmps141
      go_wp2_with fail
      refine hE.out.mono ?_
      rintro e w2 ⟨rfl, k, rfl⟩
      go_wp2_with fail
      go_quiet (fail)
      go_wp2_with fail
      refine (HIB.out _).mono ?_
      rintro e w3 ⟨rfl, rfl⟩
      go_wp2_with fail
      go_quiet (fail)
      go_wp2_with fail
      go_quiet ((exact (HRD.out _ _ (by omega) (by omega)).mono fun _ _ ⟨p, q⟩ => ⟨p, _, q.symm⟩))
      go_wp2_with fail
      go_quiet (fail)
      go_wp2_with fail
      go_ret3
      rw [HXA.out, HXO.out HO.out]
      exact ⟨rfl, _, rfl⟩
    · have HO := Lib.hid ho
      rw [if_neg ho] at k15 k16
      have t1 : decide (0 < os) = true := by simp; omega
      clear ho
      go_enter Tryd.func141, Tryd.ntmps141
      go_wp2_with fail
      refine hE.out.mono ?_
      rintro e w2 ⟨rfl, k, rfl⟩
      go_wp2_with fail
      go_quiet (fail)
      go_wp2_with fail
      refine (HIB.out _).mono ?_
      rintro e w3 ⟨rfl, rfl⟩
      go_wp2_with fail
      go_quiet (fail)
      go_wp2_with fail
      go_quiet ((exact (HRD.out _ _ (by omega) (by omega)).mono fun _ _ ⟨p, q⟩ => ⟨p, _, q.symm⟩))
      go_wp2_with fail
      go_quiet (fail)
      go_wp2_with fail
      go_quiet ((exact (HRO.out _ _ (by omega) (by omega)).mono fun _ _ ⟨p, q⟩ => ⟨p, _, q.symm⟩))
      go_wp2_with fail
      go_ret3
      rw [HXA.out]
      exact ⟨rfl, _, rfl⟩
  · obtain ⟨hqe, hql⟩ := HF.out.resolve_left hq0
    have hxab : xa ≤ 4294967296 := by omega
    have s1 : decide (0 < q) = true := by simp; omega
    have s2 : IntKind.i64.wrap ((bot : Int) - q) = xa := (congrArg IntKind.i64.wrap (by omega)).trans (IntWalk.i64_in _ (by omega))
    have s3 : (bot : Int) - q = xa := by omega
    clear hqe hql
    clear hq0
    by_cases ho : os = 0
    · have HO := Lib.hid ho
      rw [if_pos ho] at k15 k16
      have k9' : w.cell? ⟨S, o + 9, none⟩ = some (.int .i64 0) := by rw [k9, ho]; rfl
      have t1 : decide (0 < os) = false := by simp [ho]
      have u1 : ¬ cap = 0 := by omega
      clear ho k9
      go_enter Tryd.func141, Tryd.ntmps141
      go_wp2_with fail
      refine hE.out.mono ?_
      rintro e w2 ⟨rfl, k, rfl⟩
      go_wp2_with fail
      go_quiet (fail)
      go_wp2_with fail
      refine (HIB.out _).mono ?_
      rintro e w3 ⟨rfl, rfl⟩
      go_wp2_with fail
      go_quiet (fail)
      go_wp2_with fail
      go_quiet ((exact (HRD.out _ _ (by omega) (by omega)).mono fun _ _ ⟨p, q⟩ => ⟨p, _, q.symm⟩))
      go_wp2_with fail
      go_quiet (fail)
      go_wp2_with fail
      go_ret3
      rw [HXO.out HO.out]
      exact ⟨rfl, _, rfl⟩
    · have HO := Lib.hid ho
      rw [if_neg ho] at k15 k16
      have t1 : decide (0 < os) = true := by simp; omega
      clear ho
      go_enter Tryd.func141, Tryd.ntmps141
      go_wp2_with fail
      refine hE.out.mono ?_
      rintro e w2 ⟨rfl, k, rfl⟩
      go_wp2_with fail
      go_quiet (fail)
      go_wp2_with fail
      refine (HIB.out _).mono ?_
      rintro e w3 ⟨rfl, rfl⟩
      go_wp2_with fail
      go_quiet (fail)
      go_wp2_with fail
      go_quiet ((exact (HRD.out _ _ (by omega) (by omega)).mono fun _ _ ⟨p, q⟩ => ⟨p, _, q.symm⟩))
      go_wp2_with fail
      go_quiet (fail)
      go_wp2_with fail
      go_quiet ((exact (HRO.out _ _ (by omega) (by omega)).mono fun _ _ ⟨p, q⟩ => ⟨p, _, q.symm⟩))
      go_wp2_with fail
      go_ret3
      exact ⟨rfl, _, rfl⟩
end Go.Proofs.YtkbonmjbfpdchaaDoor.Dec
