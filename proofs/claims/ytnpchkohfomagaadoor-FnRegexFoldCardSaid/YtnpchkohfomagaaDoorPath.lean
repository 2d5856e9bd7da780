/- impl.path over any automaton whose methods' contracts are given. -/
import Derived.Test.YtnpchkohfomagaaDoorRows
import Derived.Test.YtnpchkohfomagaaDoorLib
import Derived.Deep.QuietTactic
import Derived.BigQuiet
import Derived.WalkLawsBesides
import Derived.WalkSpells
import Derived.Deep.RegionWith
import Derived.Lib.QuietBelow
namespace Go.Trav
open Go.RowKit
theorem Mod.toBelow' {F : Nat → Prop} {w0 w w' : World} (h : Mod F w w') (hb : Below w0.heap.size w0 w) (hF : ∀ k, F k → w0.heap.size ≤ k) : Below w0.heap.size w0 w' :=
  hb.trans (h.toBelow hb.size fun k _ hk => hF k hk)
end Go.Trav
namespace Go.Proofs.YtnpchkohfomagaaDoor.Path
open Go.ChangeShapes Go.WideShapes Go.ChangeAt Go.RowKit Go.Trav
set_option linter.unusedVariables false
set_option maxRecDepth 100000
/-- An automaton as an interface value: how its methods are found, and what they do. ok: its states. -/
structure Aut (T : TypeId) (v rv : Value) (ok : Int → Prop) (start : Int) (mt cn al : Int → Bool) (ac : Int → Int → Int) (w0 : World) where
  fS : FuncId
  fI : FuncId
  fC : FuncId
  fW : FuncId
  fA : FuncId
  mS : ∀ w, (method 331 T v "Start").run Tryd.prog w = .ok (fS, rv) w
  mI : ∀ w, (method 331 T v "IsMatch").run Tryd.prog w = .ok (fI, rv) w
  mC : ∀ w, (method 331 T v "CanMatch").run Tryd.prog w = .ok (fC, rv) w
  mW : ∀ w, (method 331 T v "WillAlwaysMatch").run Tryd.prog w = .ok (fW, rv) w
  mA : ∀ w, (method 331 T v "Accept").run Tryd.prog w = .ok (fA, rv) w
  nA : ∀ w, (nilAhead 331 T v "Accept").run Tryd.prog w = .ok (some false) w
  eS : ∀ args w, (callFunc fS args).run Tryd.prog w = .ok (.enter fS args) w
  eI : ∀ args w, (callFunc fI args).run Tryd.prog w = .ok (.enter fI args) w
  eC : ∀ args w, (callFunc fC args).run Tryd.prog w = .ok (.enter fC args) w
  eW : ∀ args w, (callFunc fW args).run Tryd.prog w = .ok (.enter fW args) w
  eA : ∀ args w, (callFunc fA args).run Tryd.prog w = .ok (.enter fA args) w
  cS : ∀ w, Below w0.heap.size w0 w → Calls Tryd.prog fS #[rv] w fun e w' => e = .returned (.int .i64 start) ∧ Below w.heap.size w w'
  cI : ∀ w s, Below w0.heap.size w0 w → ok s → Calls Tryd.prog fI #[rv, .int .i64 s] w fun e w' => e = .returned (.bool (mt s)) ∧ Below w.heap.size w w'
  cC : ∀ w s, Below w0.heap.size w0 w → ok s → Calls Tryd.prog fC #[rv, .int .i64 s] w fun e w' => e = .returned (.bool (cn s)) ∧ Below w.heap.size w w'
  cW : ∀ w s, Below w0.heap.size w0 w → ok s → Calls Tryd.prog fW #[rv, .int .i64 s] w fun e w' => e = .returned (.bool (al s)) ∧ Below w.heap.size w w'
  cA : ∀ w s b, Below w0.heap.size w0 w → ok s → 0 ≤ b → b ≤ 255 → Calls Tryd.prog fA #[rv, .int .i64 s, .int .u8 b] w fun e w' => e = .returned (.int .i64 (ac s b)) ∧ Below w.heap.size w w'
  ok0 : ok start
  okA : ∀ s b, ok s → 0 ≤ b → b ≤ 255 → ok (ac s b)
theorem Tryd.info4 : (Tryd.prog.info? 4).map (fun i => (i.zero, i.size, i.bytes)) = some (some (.bool false), 1, 1) := by kernel_rfl
/-- The state behind the first k bytes. -/
def at_ (start : Int) (ac : Int → Int → Int) (l : List UInt8) : Int := l.foldl (fun s b => ac s (b.toNat : Int)) start
def rowOf (f : Int → Bool) (start : Int) (ac : Int → Int → Int) (l : List UInt8) (k : Nat) : List Value := (List.range k).map fun i => .bool (f (at_ start ac (l.take i)))
theorem rowOf_len (f : Int → Bool) (start : Int) (ac : Int → Int → Int) (l : List UInt8) (k : Nat) : (rowOf f start ac l k).length = k := by simp [rowOf]
theorem rowOf_snoc (f : Int → Bool) (start : Int) (ac : Int → Int → Int) (l : List UInt8) (k : Nat) : rowOf f start ac l (k + 1) = rowOf f start ac l k ++ #[Value.bool (f (at_ start ac (l.take k)))].toList := by simp [rowOf, List.range_succ]
theorem at_snoc (start : Int) (ac : Int → Int → Int) (s : ByteArray) (k : Nat) (h : k < s.size) : at_ start ac (s.data.toList.take (k + 1)) = ac (at_ start ac (s.data.toList.take k)) (s[k].toNat : Int) := by
  have e : s.data.toList.take (k + 1) = s.data.toList.take k ++ [s[k]] := by
    rw [List.take_succ_eq_append_getElem (by simpa using h)]; rfl
  rw [e]
  unfold at_
  rw [List.foldl_append]
  rfl
/-- Three rows of the call's own, apart. -/
structure Three (w wr : World) (n1 n2 n3 : Nat) (v1 v2 v3 : Value) (l1 l2 l3 : List Value) : Prop where
  bel : Below w.heap.size w wr
  o1 : wr.ownsRow w.heap.size 4 1 v1 n1 l1
  o2 : wr.ownsRow w.heap.size 4 1 v2 n2 l2
  o3 : wr.ownsRow w.heap.size 4 1 v3 n3 l3
  a12 : ∀ k, v1.ownBlock = some k → v2.ownBlock ≠ some k
  a13 : ∀ k, v1.ownBlock = some k → v3.ownBlock ≠ some k
  a23 : ∀ k, v2.ownBlock = some k → v3.ownBlock ≠ some k
theorem Three.start (w : World) : Three w w 0 0 0 (.slice none 0 0) (.slice none 0 0) (.slice none 0 0) [] [] [] :=
  ⟨Below.refl _ _, World.ownsRow_nil _ _ _ _, World.ownsRow_nil _ _ _ _, World.ownsRow_nil _ _ _ _, by simp [Value.ownBlock], by simp [Value.ownBlock], by simp [Value.ownBlock]⟩
theorem Three.rot {w wr : World} {n1 n2 n3 : Nat} {v1 v2 v3 : Value} {l1 l2 l3 : List Value} (h : Three w wr n1 n2 n3 v1 v2 v3 l1 l2 l3) : Three w wr n2 n3 n1 v2 v3 v1 l2 l3 l1 :=
  ⟨h.bel, h.o2, h.o3, h.o1, h.a23, fun k h1 h2 => h.a12 k h2 h1, fun k h1 h2 => h.a13 k h2 h1⟩
theorem Three.below {w wr w1 : World} {n1 n2 n3 : Nat} {v1 v2 v3 : Value} {l1 l2 l3 : List Value} (h : Three w wr n1 n2 n3 v1 v2 v3 l1 l2 l3) (hb : Below wr.heap.size wr w1) : Three w w1 n1 n2 n3 v1 v2 v3 l1 l2 l3 :=
  ⟨h.bel.trans (hb.mono h.bel.size), ownsRow_below h.o1 hb fun g hg => (h.o1.lt g hg).2, ownsRow_below h.o2 hb fun g hg => (h.o2.lt g hg).2, ownsRow_below h.o3 hb fun g hg => (h.o3.lt g hg).2, h.a12, h.a13, h.a23⟩
theorem Three.put {w w1 w2 : World} {n1 n2 n3 : Nat} {v1 v2 v3 v1' : Value} {l1 l2 l3 l1' : List Value} {o : Obj} (h : Three w w1 n1 n2 n3 v1 v2 v3 l1 l2 l3)
    (hown : w2.ownsRow w.heap.size 4 1 v1' (n1 + 1) l1') (hgr : (w1.alloc o).grownBy w2 v1.ownBlock) (hat : v1'.ownBlock = v1.ownBlock ∨ v1'.ownBlock = some (w1.heap.size + 1)) : Three w w2 (n1 + 1) n2 n3 v1' v2 v3 l1' l2 l3 := by
  have hm : Mod (fun k => v1.ownBlock = some k) w1 w2 := ((Mod.refl _ _).alloc o).grown hgr fun k hk _ => hk
  have far : ∀ {v : Value} {n : Nat} {l : List Value}, w1.ownsRow w.heap.size 4 1 v n l → ∀ k, v1'.ownBlock = some k → (∀ k, v1.ownBlock = some k → v.ownBlock ≠ some k) → v.ownBlock ≠ some k := by
    intro v n l ho k hk ha
    rcases hat with e | e
    · exact ha k (by rw [← e]; exact hk)
    · intro hv
      have := (ho.lt k hv).2
      rw [e] at hk
      simp only [Option.some.injEq] at hk
      omega
  refine ⟨hm.toBelow' h.bel fun k hk => (h.o1.lt k hk).1, hown, ownsRow_mod h.o2 hm fun g hg he => h.a12 g he hg, ownsRow_mod h.o3 hm fun g hg he => h.a13 g he hg, fun k hk => far h.o2 k hk h.a12, fun k hk => far h.o3 k hk h.a13, h.a23⟩
set_option maxHeartbeats 2000000 in
theorem path_any {T : TypeId} {v rv : Value} {ok : Int → Prop} {start : Int} {mt cn al : Int → Bool} {ac : Int → Int → Int} (s : ByteArray) (w : World) (X : Aut T v rv ok start mt cn al ac w) (hs : s.size ≤ 2147483647) :
    Calls Tryd.prog 37 #[.iface T v, .string s] w fun e w' => ∃ v1 v2 v3 : Value, e = .returned (.tuple #[v1, v2, v3]) ∧ Reads w' v1 (s.size + 1) 1 (rowOf mt start ac s.data.toList (s.size + 1)) ∧ Reads w' v2 (s.size + 1) 1 (rowOf cn start ac s.data.toList (s.size + 1)) ∧ Reads w' v3 (s.size + 1) 1 (rowOf al start ac s.data.toList (s.size + 1)) ∧ Below w.heap.size w w' := by
  have h1 := X.mS
  have h2 := X.mI
  have h3 := X.mC
  have h4 := X.mW
  have h5 := X.mA
  have h6 := X.nA
  have h7 := X.eS
  have h8 := X.eI
  have h9 := X.eC
  have h10 := X.eW
  have h11 := X.eA
  go_enter Tryd.func37, Tryd.ntmps37
  go_wp2_with fail
  refine (X.cS _ (Below.refl _ _)).mono ?_
  rintro e w1 ⟨rfl, hb1⟩
  go_wp2_with fail
  go_loopw [4, 5, 6, 7, 8] (fun v1 v2 v3 st ix wr => ∃ k : Nat, ix = .int .i64 k ∧ k ≤ s.size ∧ st = .int .i64 (at_ start ac (s.data.toList.take k)) ∧ Hid (ok (at_ start ac (s.data.toList.take k))) ∧ Hid (Three w wr k k k v1 v2 v3 (rowOf mt start ac s.data.toList k) (rowOf cn start ac s.data.toList k) (rowOf al start ac s.data.toList k))) (fun _ _ _ _ ix _ => s.size - (intOf ix).toNat)
  case atStart => exact ⟨0, rfl, Nat.zero_le _, rfl, Lib.hid X.ok0, Lib.hid ((Three.start w).below hb1)⟩
  case round =>
    obtain ⟨k, rfl, hk, rfl, HO, HT⟩ := hrel
    by_cases hlt : k < s.size
    · have hat0 := at_snoc start ac s k hlt
      have HAT := Lib.hid hat0
      clear hat0
      have hsk : (s[k].toNat : Int) ≤ 255 := by have := s[k].toNat_lt; omega
      generalize hst : at_ start ac (s.data.toList.take k) = st at *
      have HST := Lib.hid hst
      clear hst
      go_wp2_with fail
      refine (X.cI _ _ HT.out.bel HO.out).mono ?_
      rintro e w2 ⟨rfl, hb2⟩
      have HT2 := Lib.hid (HT.out.below hb2)
      clear hb2 HT
      go_wp2_with (at_builtin; refine wpList_append_one rfl (.tmp 13) (.tmp 17) 25 rfl w.heap.size 4 _ 1 1 Tryd.underlying25 Tryd.info4 rfl (by decide) (by decide) _ _ _ rfl HT2.out.o1 #[.bool (mt st)] _ _ rfl (by simp) rfl (by simp [Value.oneCell']) (by omega) HT2.out.bel.size ?_; intro ao5 cap5 w5 hown5 hgr5 hat5; have HX := Lib.hid (HT2.out.put hown5 hgr5 hat5); clear hown5 hgr5 hat5)
      refine (X.cC _ _ HX.out.bel HO.out).mono ?_
      rintro e w6 ⟨rfl, hb6⟩
      have HT6 := Lib.hid (HX.out.below hb6).rot
      clear hb6 HX HT2
      go_wp2_with (at_builtin; refine wpList_append_one rfl (.tmp 19) (.tmp 23) 25 rfl w.heap.size 4 _ 1 1 Tryd.underlying25 Tryd.info4 rfl (by decide) (by decide) _ _ _ rfl HT6.out.o1 #[.bool (cn st)] _ _ rfl (by simp) rfl (by simp [Value.oneCell']) (by omega) HT6.out.bel.size ?_; intro ao7 cap7 w7 hown5 hgr5 hat5; have HX := Lib.hid (HT6.out.put hown5 hgr5 hat5); clear hown5 hgr5 hat5)
      refine (X.cW _ _ HX.out.bel HO.out).mono ?_
      rintro e w8 ⟨rfl, hb8⟩
      have HT8 := Lib.hid (HX.out.below hb8).rot
      clear hb8 HX HT6
      go_wp2_with (at_builtin; refine wpList_append_one rfl (.tmp 25) (.tmp 29) 25 rfl w.heap.size 4 _ 1 1 Tryd.underlying25 Tryd.info4 rfl (by decide) (by decide) _ _ _ rfl HT8.out.o1 #[.bool (al st)] _ _ rfl (by simp) rfl (by simp [Value.oneCell']) (by omega) HT8.out.bel.size ?_; intro ao9 cap9 w9 hown5 hgr5 hat5; have HX := Lib.hid (HT8.out.put hown5 hgr5 hat5).rot; clear hown5 hgr5 hat5; clear HT8)
      have hokA := X.okA st _ HO.out (Int.natCast_nonneg _) hsk
      have HOA := Lib.hid hokA
      clear hokA
      refine wp_region_quiet_below (by kernel_rfl) (by kernel_rfl) ?_
      repeat (first | go_big_quiet_step ((exact Calls.regrown_of (X.cA _ _ _ (HX.out.bel.trans ((below_regrown _ _ _).mono HX.out.bel.size)) HO.out (Int.natCast_nonneg _) hsk))) | quiet_step ((exact Calls.regrown_of (X.cA _ _ _ (HX.out.bel.trans ((below_regrown _ _ _).mono HX.out.bel.size)) HO.out (Int.natCast_nonneg _) hsk))))
      refine wpQuiet_nil ?_
      intro _ hw'
      obtain ⟨⟨dq, osq⟩, hw''⟩ := hw'
      subst hw''
      go_wp2_with fail
      go_roundw
      case rel =>
        have hT := HX.out.below (below_regrown w9 dq osq)
        refine ⟨k + 1, by go_num, by omega, by rw [HAT.out], Lib.hid (by rw [HAT.out]; exact HOA.out), Lib.hid ?_⟩
        rw [rowOf_snoc, rowOf_snoc, rowOf_snoc, HST.out]
        exact hT
      case measure => simp [intOf]; omega
    · obtain rfl : k = s.size := by omega
      have hss : ((s.size : Int) == (s.size : Int)) = true := by simp
      generalize hst : at_ start ac (s.data.toList.take s.size) = st at *
      have HST := Lib.hid hst
      clear hst
      go_wp2_with fail
      refine (X.cI _ _ HT.out.bel HO.out).mono ?_
      rintro e w2 ⟨rfl, hb2⟩
      have HT2 := Lib.hid (HT.out.below hb2)
      clear hb2 HT
      go_wp2_with (at_builtin; refine wpList_append_one rfl (.tmp 13) (.tmp 17) 25 rfl w.heap.size 4 _ 1 1 Tryd.underlying25 Tryd.info4 rfl (by decide) (by decide) _ _ _ rfl HT2.out.o1 #[.bool (mt st)] _ _ rfl (by simp) rfl (by simp [Value.oneCell']) (by omega) HT2.out.bel.size ?_; intro ao5 cap5 w5 hown5 hgr5 hat5; have HX := Lib.hid (HT2.out.put hown5 hgr5 hat5); clear hown5 hgr5 hat5)
      refine (X.cC _ _ HX.out.bel HO.out).mono ?_
      rintro e w6 ⟨rfl, hb6⟩
      have HT6 := Lib.hid (HX.out.below hb6).rot
      clear hb6 HX HT2
      go_wp2_with (at_builtin; refine wpList_append_one rfl (.tmp 19) (.tmp 23) 25 rfl w.heap.size 4 _ 1 1 Tryd.underlying25 Tryd.info4 rfl (by decide) (by decide) _ _ _ rfl HT6.out.o1 #[.bool (cn st)] _ _ rfl (by simp) rfl (by simp [Value.oneCell']) (by omega) HT6.out.bel.size ?_; intro ao7 cap7 w7 hown5 hgr5 hat5; have HX := Lib.hid (HT6.out.put hown5 hgr5 hat5); clear hown5 hgr5 hat5)
      refine (X.cW _ _ HX.out.bel HO.out).mono ?_
      rintro e w8 ⟨rfl, hb8⟩
      have HT8 := Lib.hid (HX.out.below hb8).rot
      clear hb8 HX HT6
      go_wp2_with (at_builtin; refine wpList_append_one rfl (.tmp 25) (.tmp 29) 25 rfl w.heap.size 4 _ 1 1 Tryd.underlying25 Tryd.info4 rfl (by decide) (by decide) _ _ _ rfl HT8.out.o1 #[.bool (al st)] _ _ rfl (by simp) rfl (by simp [Value.oneCell']) (by omega) HT8.out.bel.size ?_; intro ao9 cap9 w9 hown5 hgr5 hat5; have HX := Lib.hid (HT8.out.put hown5 hgr5 hat5).rot; clear hown5 hgr5 hat5; clear HT8)
      go_ret3
      have hT := HX.out
      rw [← HST.out] at hT
      refine ⟨_, _, _, rfl, ?_, ?_, ?_, hT.bel⟩
      · have := reads_of_owns hT.o1
        rw [← rowOf_snoc] at this
        exact this
      · have := reads_of_owns hT.o2
        rw [← rowOf_snoc] at this
        exact this
      · have := reads_of_owns hT.o3
        rw [← rowOf_snoc] at this
        exact this
end Go.Proofs.YtnpchkohfomagaaDoor.Path
