/- The compiler of expressions: c, what is said of it; the kinds without parts. (and what follows) -/
import Derived.Test.YtnpchkohfomagaaDoorRgW6
import Derived.Test.YtnpchkohfomagaaDoorRgZz
/-! The compiler of expressions: c, what is said of it; the kinds without parts. -/
namespace Go.Proofs.YtnpchkohfomagaaDoor.Rgw
open Go.ChangeShapes Go.WideShapes Go.ChangeAt Go.RowKit Go.Trav Go.Rg Go.Proofs.YtnpchkohfomagaaDoor.Seq Go.Utf Go.Proofs.YtnpchkohfomagaaDoor.Sparse
set_option linter.unusedVariables false
set_option linter.unusedSimpArgs false
set_option maxRecDepth 100000
/-- A block of a type that the compiler does not write. -/
def Off (w : World) (b : Nat) : Prop := ∃ T, T ∉ cA ∧ Ty w b T
theorem Off.mod {w w' : World} {base b : Nat} (h : Off w b) (m : Mod (TF cA base w) w w') : Off w' b := by
  obtain ⟨T, h1, h2⟩ := h; exact ⟨T, h1, ty_mod h2 m (TF.not h2 h1)⟩
theorem Off.keep {w w' : World} {base b : Nat} (h : Off w b) (m : Mod (TF cA base w) w w') {o : Obj} (ho : w.heap[b]? = some o) : w'.heap[b]? = some o := by
  obtain ⟨T, h1, h2⟩ := h; exact m.heap ho (TF.not h2 h1)
def ptr (b : Nat) : Value := .pointer (some ⟨b, 0, none⟩)
def flg (t : Tr) : Int := if t.lazy then 32 else 0
/-- The storage for short rows. -/
def Z0 (s0 r0 r1 : Value) : Prop := s0 = .pointer none ∧ ∃ a b : Int, r0 = .int .i32 a ∧ r1 = .int .i32 b
/-- An expression as the package has it, of at most so many floors. -/
def AstAt (w : World) : Nat → Tr → Nat → Prop
  | 0, _, _ => False
  | d + 1, t, b => (∃ sv s0 rv r0 r1 cp nm, w.heap[b]? = some (.cells #[.int .u8 (t.op : Int), .int .u16 (flg t), sv, s0, rv, r0, r1, .int .i64 t.mn, .int .i64 t.mx, cp, nm] 77 (0, 0)) ∧ RR w rv t.runes ∧
      ∃ bs : List Nat, bs.length = t.subs.length ∧ Reads w sv bs.length 1 (bs.map ptr) ∧ (∀ g, sv.ownBlock = some g → Off w g) ∧ (∀ (i : Nat) b' s, bs[i]? = some b' → t.subs[i]? = some s → AstAt w d s b') ∧ Z0 s0 r0 r1)
theorem AstAt.mod {w w' : World} {base : Nat} (m : Mod (TF cA base w) w w') : ∀ (d : Nat) (t : Tr) (b : Nat), AstAt w d t b → AstAt w' d t b := by
  intro d
  induction d with
  | zero => intro t b h; exact h
  | succ d ih =>
    rintro t b ⟨sv, s0, rv, r0, r1, cp, nm, h1, h2, bs, h3, h4, h5, h6, h7⟩
    refine ⟨sv, s0, rv, r0, r1, cp, nm, m.heap h1 (TF.not (T := 77) ⟨_, _, h1⟩ (by decide)), h2.mod m, bs, h3, h4.mod m fun g hg => ?_, fun g hg => (h5 g hg).mod m, fun i b' s hb hs => ih s b' (h6 i b' s hb hs), h7⟩
    obtain ⟨T, k1, k2⟩ := h5 g hg
    exact TF.not k2 k1
theorem AstAt.below {w w' : World} {d : Nat} {t : Tr} {b : Nat} (h : AstAt w d t b) (hb : Below w.heap.size w w') : AstAt w' d t b := AstAt.mod (base := 0) (Mod.of_below hb) d t b h
/-- The package's own variables. -/
structure Env (w : World) (base : Nat) (ad : Nat → Addr) : Prop where
  gl : Glob w
  nb : 8 < base ∧ 9 < base
  eb : 0 < base ∧ 1 < base ∧ 2 < base ∧ 3 < base
  h1 : w.cell? ⟨0, 0, none⟩ = some (.iface 211 (.pointer (some (ad 1))))
  h2 : w.cell? ⟨1, 0, none⟩ = some (.iface 211 (.pointer (some (ad 2))))
  h3 : w.cell? ⟨2, 0, none⟩ = some (.iface 211 (.pointer (some (ad 3))))
  h4 : w.cell? ⟨3, 0, none⟩ = some (.iface 211 (.pointer (some (ad 4))))
theorem Env.mod {w w' : World} {base : Nat} {ad : Nat → Addr} {Ts : List TypeId} (h : Env w base ad) (m : Mod (TF Ts base w) w w') : Env w' base ad := by
  have hn : ∀ {g : Nat}, g < base → ¬ TF Ts base w g := fun hg hf => by have := hf.1; omega
  exact ⟨glob_tf h.gl m h.nb, h.nb, h.eb, m.cell h.h1 (hn h.eb.1), m.cell h.h2 (hn h.eb.2.1), m.cell h.h3 (hn h.eb.2.2.1), m.cell h.h4 (hn h.eb.2.2.2)⟩
/-- What c answers. -/
def CPost (base C gs ge : Nat) (ad : Nat → Addr) (d : Nat) (t : Tr) (l : List In) (w : World) (e : Ending) (w' : World) : Prop :=
  ((e = .returned .nilIface ∧ bad d t = none ∧ ∃ q s c, CI w' base C gs ge q s (l ++ c) ∧ Ok (lang d t) (places d t) (size d t) l.length c) ∨
    ∃ k, e = .returned (.iface 211 (.pointer (some (ad k)))) ∧ (bad d t = some k ∨ (k = 4 ∧ 262144 < l.length + size d t))) ∧ Mod (TF cA base w) w w'
/-- The same, and X of the code. -/
def CPostX (X : Nat → List In → Prop) (base C gs ge : Nat) (ad : Nat → Addr) (d : Nat) (t : Tr) (l : List In) (w : World) (e : Ending) (w' : World) : Prop :=
  ((e = .returned .nilIface ∧ bad d t = none ∧ ∃ q s c, CI w' base C gs ge q s (l ++ c) ∧ Ok (lang d t) (places d t) (size d t) l.length c ∧ X l.length c) ∨
    ∃ k, e = .returned (.iface 211 (.pointer (some (ad k)))) ∧ (bad d t = some k ∨ (k = 4 ∧ 262144 < l.length + size d t))) ∧ Mod (TF cA base w) w w'
theorem CPostX.drop {X : Nat → List In → Prop} {base C gs ge : Nat} {ad : Nat → Addr} {d : Nat} {t : Tr} {l : List In} {w : World} {e : Ending} {w' : World} (h : CPostX X base C gs ge ad d t l w e w') : CPost base C gs ge ad d t l w e w' :=
  ⟨h.1.imp (fun ⟨a, b, q, s, c, x, y, _⟩ => ⟨a, b, q, s, c, x, y⟩) id, h.2⟩
theorem CPost.toX {base C gs ge : Nat} {ad : Nat → Addr} {d : Nat} {t : Tr} {l : List In} {w : World} {e : Ending} {w' : World} (h : CPost base C gs ge ad d t l w e w') : CPostX (fun _ _ => True) base C gs ge ad d t l w e w' :=
  ⟨h.1.imp (fun ⟨a, b, q, s, c, x, y⟩ => ⟨a, b, q, s, c, x, y, trivial⟩) id, h.2⟩
def CSpec (base C gs ge : Nat) (ad : Nat → Addr) (d : Nat) : Prop :=
  ∀ (t : Tr) (tb : Nat) (l : List In) (qv sv : Value) (w : World), WF d t → Env w base ad → CI w base C gs ge qv sv l → AstAt w d t tb → l.length + size d t ≤ 40000000000 →
    Calls Tryd.prog 64 #[.pointer (some ⟨C, 0, none⟩), .pointer (some ⟨tb, 0, none⟩)] w (CPost base C gs ge ad d t l w)
section
variable {base C gs ge : Nat} {ad : Nat → Addr} {d tb : Nat} {t : Tr} {l : List In} {qv sv : Value} {w : World}
theorem AstAt.cells (h : AstAt w (d + 1) t tb) : w.cell? ⟨tb, 0, none⟩ = some (.int .u8 (t.op : Int)) ∧ w.cell? ⟨tb, 1, none⟩ = some (.int .u16 (flg t)) := by
  obtain ⟨_, _, _, _, _, _, _, h1, _⟩ := h
  exact ⟨block_cell h1 rfl, block_cell h1 rfl⟩
theorem AstAt.rune (h : AstAt w (d + 1) t tb) : ∃ rv, CC w tb 4 rv ∧ RR w rv t.runes := by
  obtain ⟨_, _, rv, _, _, _, _, h1, h2, _⟩ := h
  exact ⟨rv, ⟨block_cell h1 rfl, 77, by decide, _, _, h1⟩, h2⟩
/-- A lazy part. -/
theorem c_lazy (hE : Env w base ad) (hA : AstAt w (d + 1) t tb) (hz : t.lazy = true) : Calls Tryd.prog 64 #[.pointer (some ⟨C, 0, none⟩), .pointer (some ⟨tb, 0, none⟩)] w (CPost base C gs ge ad (d + 1) t l w) := by
  obtain ⟨c0, c1⟩ := hA.cells
  have hf : flg t = 32 := by simp [flg, hz]
  rw [hf] at c1
  have g1 := hE.h1
  have hb : bad (d + 1) t = some 1 := by simp [bad, hz]
  have HB := Lib.hid hb
  clear hE hA hb hf
  go_enter Tryd.func64, Tryd.ntmps64
  go_wp2_with fail
  go_ret
  exact ⟨Or.inr ⟨1, rfl, Or.inl HB.out⟩, Mod.refl _ _⟩
theorem c_empty (hM : CI w base C gs ge qv sv l) (hA : AstAt w (d + 1) t tb) (hz : t.lazy = false) (ho : t.op = 2) : Calls Tryd.prog 64 #[.pointer (some ⟨C, 0, none⟩), .pointer (some ⟨tb, 0, none⟩)] w (CPost base C gs ge ad (d + 1) t l w) := by
  obtain ⟨c0, c1⟩ := hA.cells
  have hf : flg t = 0 := by simp [flg, hz]
  rw [hf] at c1
  rw [ho] at c0
  have hb : bad (d + 1) t = none := by simp [bad, hz, ho]
  have hok : Ok (lang (d + 1) t) (places (d + 1) t) (size (d + 1) t) l.length [] := ((Ok.empty l.length).congr fun s => by simp [lang, ho]).more (Nat.zero_le _) (Nat.zero_le _)
  have HB := Lib.hid (And.intro hb (And.intro hok hM))
  clear hM hA hb hf hok hz ho
  go_enter Tryd.func64, Tryd.ntmps64
  go_wp2_with fail
  go_ret
  exact ⟨Or.inl ⟨rfl, HB.out.1, _, _, [], by simpa using HB.out.2.2, HB.out.2.1⟩, Mod.refl _ _⟩
theorem c_anchor (k : Nat) (hE : Env w base ad) (hA : AstAt w (d + 1) t tb) (hz : t.lazy = false) (ho : (t.op = 7 ∨ t.op = 8 ∨ t.op = 9 ∨ t.op = 10) ∧ k = 2 ∨ (t.op = 11 ∨ t.op = 12) ∧ k = 3) : Calls Tryd.prog 64 #[.pointer (some ⟨C, 0, none⟩), .pointer (some ⟨tb, 0, none⟩)] w (CPost base C gs ge ad (d + 1) t l w) := by
  obtain ⟨c0, c1⟩ := hA.cells
  have hf : flg t = 0 := by simp [flg, hz]
  rw [hf] at c1
  have g2 := hE.h2
  have g3 := hE.h3
  have hb : bad (d + 1) t = some k := by
    rcases ho with ⟨h, rfl⟩ | ⟨h, rfl⟩
    · have : 7 ≤ t.op ∧ t.op ≤ 10 := by omega
      simp [bad, hz, this]
    · have h1 : ¬ (7 ≤ t.op ∧ t.op ≤ 10) := by omega
      simp [bad, hz, h1, h]
  have HB := Lib.hid hb
  clear hE hA hb hf hz
  rcases ho with ⟨ho | ho | ho | ho, rfl⟩ | ⟨ho | ho, rfl⟩ <;> rw [ho] at c0 <;> clear ho
  all_goals
    go_enter Tryd.func64, Tryd.ntmps64
    go_wp2_with fail
    go_ret
    exact ⟨Or.inr ⟨_, rfl, Or.inl HB.out⟩, Mod.refl _ _⟩
/-- A class. -/
theorem c_class_x (hW : WF (d + 1) t) (hE : Env w base ad) (hM : CI w base C gs ge qv sv l) (hA : AstAt w (d + 1) t tb) (hl : l.length + size (d + 1) t ≤ 40000000000) (hz : t.lazy = false) (ho : t.op = 4) :
    Calls Tryd.prog 64 #[.pointer (some ⟨C, 0, none⟩), .pointer (some ⟨tb, 0, none⟩)] w (CPostX (fun p c => ∀ a b, t.runes = [a, b] → RngC a b p c) base C gs ge ad (d + 1) t l w) := by
  obtain ⟨c0, c1⟩ := hA.cells
  have hf : flg t = 0 := by simp [flg, hz]
  rw [hf] at c1
  rw [ho] at c0
  obtain ⟨rv, hT, hR⟩ := hA.rune
  obtain ⟨h1, ⟨k, hk, hk30⟩, h3⟩ := hW.2.2.2.2.1 ho
  have hk1 : 1 ≤ k := by
    rcases Nat.eq_zero_or_pos k with e | e
    · subst e; exact absurd (List.eq_nil_of_length_eq_zero hk) h1
    · exact e
  have hcl := class_ci base C gs ge tb (2 * (k - 1)) (k - 1) qv sv rv t.runes l w hM hE.gl hE.nb hT hR (by omega) rfl (by omega) h3 (by omega)
  have hb : bad (d + 1) t = none := by simp [bad, hz, ho]
  have HCL := Lib.hid hcl
  have hrs : rsOf t = t.runes := by simp [rsOf, ho]
  have HB := Lib.hid (And.intro hb (And.intro ho hrs))
  clear hM hA hb hf hz ho hcl hW hE hT hR h1 h3 hrs
  go_enter Tryd.func64, Tryd.ntmps64
  go_wp2_with fail
  refine HCL.out.mono ?_
  rintro e w1 ⟨rfl, ⟨q1, s1, c, hC1, hok, hrc⟩, hm1⟩
  have HX := Lib.hid (And.intro hC1 (And.intro hok hm1))
  have HRC := Lib.hid hrc
  clear hC1 hok hm1 HCL hrc
  go_wp2_with fail
  go_ret
  obtain ⟨hb, ho, hrs⟩ := HB.out
  refine ⟨Or.inl ⟨rfl, hb, q1, s1, c, HX.out.1, ?_, fun a b hab => ?_⟩, HX.out.2.2⟩
  rotate_left
  · obtain ⟨a', b', h1, h2⟩ := HRC.out (by have := congrArg List.length hab; simp at this; omega)
    rw [hab] at h1
    simp [prs] at h1
    obtain ⟨rfl, rfl⟩ := h1
    exact h2
  have h9 := HX.out.2.1
  refine (h9.congr fun s => ?_).more ?_ ?_
  · simp [lang, ho, hrs]
  · simp [places, ho, hrs]
  · simp [size, ho, hrs]
theorem c_class (hW : WF (d + 1) t) (hE : Env w base ad) (hM : CI w base C gs ge qv sv l) (hA : AstAt w (d + 1) t tb) (hl : l.length + size (d + 1) t ≤ 40000000000) (hz : t.lazy = false) (ho : t.op = 4) :
    Calls Tryd.prog 64 #[.pointer (some ⟨C, 0, none⟩), .pointer (some ⟨tb, 0, none⟩)] w (CPost base C gs ge ad (d + 1) t l w) :=
  (c_class_x hW hE hM hA hl hz ho).mono fun e w' h => h.drop
theorem CPost.of {t' : Tr} {w w1 : World} {e : Ending} {w' : World} (h : CPost base C gs ge ad d t' l w1 e w') (hm : Mod (TF cA base w) w w1) (hb : bad d t' = bad d t) (hL : ∀ s, lang d t' s ↔ lang d t s) (hp : places d t' = places d t) (hs : size d t' = size d t) : CPost base C gs ge ad d t l w e w' := by
  refine ⟨?_, TF.trans hm h.2⟩
  rcases h.1 with ⟨a, b, q, s, c, h1, h2⟩ | ⟨k, a, b⟩
  · exact Or.inl ⟨a, hb ▸ b, q, s, c, h1, hp ▸ hs ▸ (h2.congr hL)⟩
  · exact Or.inr ⟨k, a, by rw [← hb, ← hs]; exact b⟩
theorem CPostX.of {X Y : Nat → List In → Prop} {t' : Tr} {w w1 : World} {e : Ending} {w' : World} (h : CPostX X base C gs ge ad d t' l w1 e w') (hm : Mod (TF cA base w) w w1) (hb : bad d t' = bad d t) (hL : ∀ s, lang d t' s ↔ lang d t s) (hp : places d t' = places d t) (hs : size d t' = size d t) (hX : ∀ p c, X p c → Y p c) : CPostX Y base C gs ge ad d t l w e w' := by
  refine ⟨?_, TF.trans hm h.2⟩
  rcases h.1 with ⟨a, b, q, s, c, h1, h2, h3⟩ | ⟨k, a, b⟩
  · exact Or.inl ⟨a, hb ▸ b, q, s, c, h1, hp ▸ hs ▸ (h2.congr hL), hX _ _ h3⟩
  · exact Or.inr ⟨k, a, by rw [← hb, ← hs]; exact b⟩
/-- What c answers is handed on. -/
theorem CPost.ret {w : World} {e : Ending} {w' : World} (h : CPost base C gs ge ad d t l w e w') : (∃ v, e = .returned v) := by
  rcases h.1 with ⟨a, _⟩ | ⟨k, a, _⟩
  · exact ⟨_, a⟩
  · exact ⟨_, a⟩
def clsTr (rs : List Int) : Tr := .mk 4 false false rs 0 0 []
theorem rsOf_cls (rs : List Int) : rsOf (clsTr rs) = rs := rfl
theorem op_cls (rs : List Int) : (clsTr rs).op = 4 ∨ (clsTr rs).op = 5 ∨ (clsTr rs).op = 6 := Or.inl rfl
theorem lang_cls {t : Tr} (h : t.op = 4 ∨ t.op = 5 ∨ t.op = 6) (s : List Nat) : lang (d + 1) t s ↔ Cls (rsOf t) s := by rcases h with h | h | h <;> simp [lang, h]
theorem places_cls {t : Tr} (h : t.op = 4 ∨ t.op = 5 ∨ t.op = 6) : places (d + 1) t = ((prs (rsOf t)).map fun q => rngN q.2).sum := by rcases h with h | h | h <;> simp [places, h]
theorem size_cls {t : Tr} (h : t.op = 4 ∨ t.op = 5 ∨ t.op = 6) : size (d + 1) t = ((prs (rsOf t)).map fun q => rngZ q.2 + 2).sum := by rcases h with h | h | h <;> simp [size, h]
theorem bad_cls {t : Tr} (h : t.op = 4 ∨ t.op = 5 ∨ t.op = 6) (hz : t.lazy = false) : bad (d + 1) t = none := by rcases h with h | h | h <;> simp [bad, h, hz]
/-- The block that holds a class of its own. -/
theorem cls_at {w : World} {nb : Nat} {rv : Value} {r0 r1 : Int} {cp nm : Value} {rs : List Int} (h : w.heap[nb]? = some (.cells #[.int .u8 4, .int .u16 0, .slice none 0 0, .pointer none, rv, .int .i32 r0, .int .i32 r1, .int .i64 0, .int .i64 0, cp, nm] 77 (0, 0))) (hr : RR w rv rs) : AstAt w (d + 1) (clsTr rs) nb :=
  ⟨_, _, _, _, _, _, _, h, hr, [], rfl, ⟨none, 0, rfl, Nat.le_refl _, Nat.zero_le _, fun _ => rfl, rfl, fun h => by simp at h⟩, fun g hg => by simp [Value.ownBlock] at hg, fun i b' s hb => by simp at hb, rfl, _, _, rfl, rfl⟩
theorem wf_cls (rs : List Int) (h0 : rs ≠ []) (h1 : ∃ k, rs.length = 2 * k ∧ k ≤ 30) (h2 : ∀ q ∈ prs rs, Let q.1 ∧ Let q.2 ∧ q.1 ≤ q.2) : WF (d + 1) (clsTr rs) :=
  ⟨rfl, (by decide : 2 ≤ 4), (by decide : 4 ≤ 19), fun h => absurd h (by decide : ¬ 4 = 3), fun _ => ⟨h0, h1, h2⟩, fun h => absurd h (by decide : ¬ 13 ≤ 4), fun h => absurd h (by decide : ¬ 4 = 17), fun h => absurd h (by decide : ¬ 18 ≤ 4)⟩
/-- All letters. -/
theorem c_all_x (hE : Env w base ad) (hM : CI w base C gs ge qv sv l) (hA : AstAt w (d + 1) t tb) (hl : l.length + size (d + 1) t ≤ 40000000000) (hz : t.lazy = false) (ho : t.op = 6) :
    Calls Tryd.prog 64 #[.pointer (some ⟨C, 0, none⟩), .pointer (some ⟨tb, 0, none⟩)] w (CPostX (RngC 0 1114111) base C gs ge ad (d + 1) t l w) := by
  obtain ⟨c0, c1⟩ := hA.cells
  have hf : flg t = 0 := by simp [flg, hz]
  rw [hf] at c1
  rw [ho] at c0
  have hrs : rsOf t = [0, 1114111] := by simp [rsOf, ho]
  have HB := Lib.hid (And.intro hz (And.intro ho (And.intro hrs hl)))
  have HE := Lib.hid hE
  have HM := Lib.hid hM
  clear hM hA hf hz ho hrs hE hl
  have h01 : bits BinOp.and IntKind.u16 0 1 = 0 := by kernel_rfl
  have hcl : ∀ w1 : World, w1 = w.alloc (.cells #[.int .u8 4, .int .u16 0, .slice none 0 0, .pointer none, .slice (some ⟨w.heap.size, 5, none⟩) 2 2, .int .i32 0, .int .i32 1114111, .int .i64 0, .int .i64 0, .int .i64 0, .string ByteArray.empty] 77) →
      Calls Tryd.prog 64 #[.pointer (some ⟨C, 0, none⟩), .pointer (some ⟨w.heap.size, 0, none⟩)] w1 (CPostX (RngC 0 1114111) base C gs ge ad (d + 1) t l w) := by
    intro w1 hw1
    have hbw : Below w.heap.size w w1 := by rw [hw1]; exact (Below.refl _ _).alloc (Nat.le_refl _) _
    have hm1 : Mod (TF cA base w) w w1 := Mod.of_below hbw
    have hnew : w1.heap[w.heap.size]? = some (.cells #[.int .u8 4, .int .u16 0, .slice none 0 0, .pointer none, .slice (some ⟨w.heap.size, 5, none⟩) 2 2, .int .i32 0, .int .i32 1114111, .int .i64 0, .int .i64 0, .int .i64 0, .string ByteArray.empty] 77 (0, 0)) := by rw [hw1]; exact heap_alloc_new w _
    obtain ⟨hz, ho, hrs, hl⟩ := HB.out
    have hop : t.op = 4 ∨ t.op = 5 ∨ t.op = 6 := Or.inr (Or.inr ho)
    have hsz : size (d + 1) (clsTr [0, 1114111]) = size (d + 1) t := by rw [size_cls (op_cls _), size_cls hop, rsOf_cls, hrs]
    have hr : RR w1 (.slice (some ⟨w.heap.size, 5, none⟩) 2 2) [0, 1114111] := by
      refine ⟨⟨_, 2, rfl, Nat.le_refl _, by unfold maxLen; omega, fun h => (by cases h), rfl, fun _ => ⟨_, _, rfl, fun j u hj => ?_⟩⟩, fun g hg => ?_⟩
      · match j with
        | 0 => simp at hj; subst hj; exact block_cell hnew rfl
        | 1 => simp at hj; subst hj; exact block_cell hnew rfl
        | j + 2 => simp at hj
      · simp [Value.ownBlock] at hg
        subst hg
        exact ⟨77, by decide, _, _, hnew⟩
    have hc := c_class_x (t := clsTr [0, 1114111]) (d := d) (base := base) (C := C) (gs := gs) (ge := ge) (ad := ad) (tb := w.heap.size) (l := l) (qv := qv) (sv := sv) (w := w1) (wf_cls _ (by decide) ⟨1, rfl, by decide⟩ (by intro q hq; simp [prs] at hq; subst hq; unfold Let; simp)) (HE.out.mod hm1) (HM.out.below hbw) (cls_at hnew hr) (by rw [hsz]; exact hl) rfl rfl
    refine hc.mono ?_
    intro e w' h
    refine h.of hm1 ?_ ?_ ?_ hsz fun p c hx => hx 0 1114111 rfl
    · rw [bad_cls (op_cls _) rfl, bad_cls hop hz]
    · intro s; rw [lang_cls (op_cls _), lang_cls hop, rsOf_cls, hrs]
    · rw [places_cls (op_cls _), places_cls hop, rsOf_cls, hrs]
  have HCL := Lib.hid hcl
  clear hcl
  go_enter Tryd.func64, Tryd.ntmps64
  go_wp2_with fail
  refine (HCL.out _ rfl).mono ?_
  intro e w' hp
  obtain ⟨v, rfl⟩ := hp.drop.ret
  have HP := Lib.hid hp
  clear hp HCL
  go_wp2_with fail
  go_ret
  exact HP.out
theorem c_all (hE : Env w base ad) (hM : CI w base C gs ge qv sv l) (hA : AstAt w (d + 1) t tb) (hl : l.length + size (d + 1) t ≤ 40000000000) (hz : t.lazy = false) (ho : t.op = 6) :
    Calls Tryd.prog 64 #[.pointer (some ⟨C, 0, none⟩), .pointer (some ⟨tb, 0, none⟩)] w (CPost base C gs ge ad (d + 1) t l w) :=
  (c_all_x hE hM hA hl hz ho).mono fun e w' h => h.drop
/-- All letters but the newline. -/
theorem c_line (hE : Env w base ad) (hM : CI w base C gs ge qv sv l) (hA : AstAt w (d + 1) t tb) (hl : l.length + size (d + 1) t ≤ 40000000000) (hz : t.lazy = false) (ho : t.op = 5) :
    Calls Tryd.prog 64 #[.pointer (some ⟨C, 0, none⟩), .pointer (some ⟨tb, 0, none⟩)] w (CPost base C gs ge ad (d + 1) t l w) := by
  obtain ⟨c0, c1⟩ := hA.cells
  have hf : flg t = 0 := by simp [flg, hz]
  rw [hf] at c1
  rw [ho] at c0
  have hrs : rsOf t = [0, 9, 11, 1114111] := by simp [rsOf, ho]
  have HB := Lib.hid (And.intro hz (And.intro ho (And.intro hrs hl)))
  have HE := Lib.hid hE
  have HM := Lib.hid hM
  clear hM hA hf hz ho hrs hE hl
  have h01 : bits BinOp.and IntKind.u16 0 1 = 0 := by kernel_rfl
  have hcl : ∀ w1 : World, w1 = (w.alloc (.cells #[.int .i32 0, .int .i32 9, .int .i32 11, .int .i32 1114111] 21)).alloc (.cells #[.int .u8 4, .int .u16 0, .slice none 0 0, .pointer none, .slice (some ⟨w.heap.size, 0, none⟩) 4 4, .int .i32 0, .int .i32 0, .int .i64 0, .int .i64 0, .int .i64 0, .string ByteArray.empty] 77) →
      Calls Tryd.prog 64 #[.pointer (some ⟨C, 0, none⟩), .pointer (some ⟨w.heap.size + 1, 0, none⟩)] w1 (CPost base C gs ge ad (d + 1) t l w) := by
    intro w1 hw1
    have hbw : Below w.heap.size w w1 := by rw [hw1]; exact ((Below.refl _ _).alloc (Nat.le_refl _) _).alloc (by simp) _
    have hm1 : Mod (TF cA base w) w w1 := Mod.of_below hbw
    have hrow : w1.heap[w.heap.size]? = some (.cells #[.int .i32 0, .int .i32 9, .int .i32 11, .int .i32 1114111] 21 (0, 0)) := by rw [hw1]; exact block_alloc (heap_alloc_new w _)
    have hnew : w1.heap[w.heap.size + 1]? = some (.cells #[.int .u8 4, .int .u16 0, .slice none 0 0, .pointer none, .slice (some ⟨w.heap.size, 0, none⟩) 4 4, .int .i32 0, .int .i32 0, .int .i64 0, .int .i64 0, .int .i64 0, .string ByteArray.empty] 77 (0, 0)) := by rw [hw1]; exact heap_alloc_at (w.alloc _) _ _ (by simp)
    obtain ⟨hz, ho, hrs, hl⟩ := HB.out
    have hop : t.op = 4 ∨ t.op = 5 ∨ t.op = 6 := Or.inr (Or.inl ho)
    have hsz : size (d + 1) (clsTr [0, 9, 11, 1114111]) = size (d + 1) t := by rw [size_cls (op_cls _), size_cls hop, rsOf_cls, hrs]
    have hr : RR w1 (.slice (some ⟨w.heap.size, 0, none⟩) 4 4) [0, 9, 11, 1114111] := by
      refine ⟨⟨_, 4, rfl, Nat.le_refl _, by unfold maxLen; omega, fun h => (by cases h), rfl, fun _ => ⟨_, _, rfl, fun j u hj => ?_⟩⟩, fun g hg => ?_⟩
      · match j with
        | 0 => simp at hj; subst hj; exact block_cell hrow rfl
        | 1 => simp at hj; subst hj; exact block_cell hrow rfl
        | 2 => simp at hj; subst hj; exact block_cell hrow rfl
        | 3 => simp at hj; subst hj; exact block_cell hrow rfl
        | j + 4 => simp at hj
      · simp [Value.ownBlock] at hg
        subst hg
        exact ⟨21, by decide, _, _, hrow⟩
    have hc := c_class (t := clsTr [0, 9, 11, 1114111]) (d := d) (base := base) (C := C) (gs := gs) (ge := ge) (ad := ad) (tb := w.heap.size + 1) (l := l) (qv := qv) (sv := sv) (w := w1) (wf_cls _ (by decide) ⟨2, rfl, by decide⟩ (by intro q hq; simp [prs] at hq; rcases hq with rfl | rfl <;> (unfold Let; simp))) (HE.out.mod hm1) (HM.out.below hbw) (cls_at hnew hr) (by rw [hsz]; exact hl) rfl rfl
    refine hc.mono ?_
    intro e w' h
    refine h.of hm1 ?_ ?_ ?_ hsz
    · rw [bad_cls (op_cls _) rfl, bad_cls hop hz]
    · intro s; rw [lang_cls (op_cls _), lang_cls hop, rsOf_cls, hrs]
    · rw [places_cls (op_cls _), places_cls hop, rsOf_cls, hrs]
  have HCL := Lib.hid hcl
  clear hcl
  go_enter Tryd.func64, Tryd.ntmps64
  go_wp2_with fail
  refine (HCL.out _ rfl).mono ?_
  intro e w' hp
  obtain ⟨v, rfl⟩ := hp.ret
  have HP := Lib.hid hp
  clear hp HCL
  go_wp2_with fail
  go_ret
  exact HP.out
end
end Go.Proofs.YtnpchkohfomagaaDoor.Rgw
/-! The compiler of expressions: c at the kinds with one part (but the repeat). -/
namespace Go.Proofs.YtnpchkohfomagaaDoor.Rgw
open Go.ChangeShapes Go.WideShapes Go.ChangeAt Go.RowKit Go.Trav Go.Rg Go.Proofs.YtnpchkohfomagaaDoor.Seq Go.Utf Go.Proofs.YtnpchkohfomagaaDoor.Sparse
set_option linter.unusedVariables false
set_option linter.unusedSimpArgs false
set_option maxRecDepth 100000
section
variable {base C gs ge : Nat} {ad : Nat → Addr} {d tb : Nat} {t : Tr} {l : List In} {qv sv : Value} {w : World}
theorem AstAt.one {x : Tr} (h : AstAt w (d + 1) t tb) (hs : t.subs = [x]) : ∃ sb so cap b, w.cell? ⟨tb, 2, none⟩ = some (.slice (some ⟨sb, so, none⟩) 1 cap) ∧ w.cell? ⟨sb, so, none⟩ = some (.pointer (some ⟨b, 0, none⟩)) ∧ AstAt w d x b := by
  obtain ⟨_, _, rv, _, _, _, _, h1, h2, bs, h3, h4, h5, h6, _⟩ := h
  rw [hs] at h3 h6
  obtain ⟨b, hb⟩ : ∃ b, bs[0]? = some b := ⟨_, List.getElem?_eq_getElem (by rw [h3]; simp)⟩
  obtain ⟨sb, so, cap, y, e, hy, hc⟩ := Reads.one ptr h4 (k := 0) (by rw [h3]; simp)
  rw [hb] at hy; cases hy
  subst e
  rw [h3] at h1
  exact ⟨sb, so, cap, b, block_cell h1 rfl, by simpa [ptr] using hc, h6 0 b x hb rfl⟩
theorem bad_sub {x : Tr} (h1 : 13 ≤ t.op) (h2 : t.op ≤ 17) (hz : t.lazy = false) (hs : t.subs = [x]) : bad (d + 1) t = bad d x := by
  have a1 : ¬ (7 ≤ t.op ∧ t.op ≤ 10) := by omega
  have a2 : ¬ (t.op = 11 ∨ t.op = 12) := by omega
  have a3 : ¬ t.op < 13 := by omega
  simp only [bad, hz, if_neg a1, if_neg a2, if_neg a3, if_pos h2, Tr.sub, hs, List.headD_cons]
  rfl
theorem CPost.good {w w' : World} {c : List In} {q s : Value} (hb : bad d t = none) (hC : CI w' base C gs ge q s (l ++ c)) (ho : Ok (lang d t) (places d t) (size d t) l.length c) (hm : Mod (TF cA base w) w w') : CPost base C gs ge ad d t l w (.returned .nilIface) w' :=
  ⟨Or.inl ⟨rfl, hb, q, s, c, hC, ho⟩, hm⟩
theorem CPost.huge {w w' : World} {c : List In} (ho : Ok (lang d t) (places d t) (size d t) l.length c) (hlen : ¬ (l ++ c).length ≤ 262144) (hm : Mod (TF cA base w) w w') : CPost base C gs ge ad d t l w (.returned (.iface 211 (.pointer (some (ad 4))))) w' :=
  ⟨Or.inr ⟨4, rfl, Or.inr ⟨rfl, by have := ho.len; rw [List.length_append] at hlen; omega⟩⟩, hm⟩
theorem CPost.fail {w w' : World} {k : Nat} (h : bad d t = some k ∨ (k = 4 ∧ 262144 < l.length + size d t)) (hm : Mod (TF cA base w) w w') : CPost base C gs ge ad d t l w (.returned (.iface 211 (.pointer (some (ad k))))) w' :=
  ⟨Or.inr ⟨k, rfl, h⟩, hm⟩
/-- The check at the end. -/
theorem check_post {w w5 : World} {c : List In} {q s : Value} (hE : Env w5 base ad) (hb : bad d t = none) (hC : CI w5 base C gs ge q s (l ++ c)) (ho : Ok (lang d t) (places d t) (size d t) l.length c) (hm : Mod (TF cA base w) w w5) (hl : l.length + size d t ≤ 40000000000) :
    Calls Tryd.prog 81 #[.pointer (some ⟨C, 0, none⟩)] w5 (CPost base C gs ge ad d t l w) := by
  by_cases h : (l ++ c).length ≤ 262144
  · refine (check_ok base C gs ge q s _ w5 hC h).mono ?_
    rintro e w6 ⟨rfl, hb6⟩
    exact .good hb (hC.below hb6) ho (TF.trans hm (Mod.of_below hb6))
  · refine (check_big base C gs ge q s _ _ w5 hC (by omega) (by have := ho.len; rw [List.length_append]; omega) hE.h4).mono ?_
    rintro e w6 ⟨rfl, hb6⟩
    exact .huge ho h (TF.trans hm (Mod.of_below hb6))
theorem c_capture (IH : CSpec base C gs ge ad d) (hW : WF (d + 1) t) (hE : Env w base ad) (hM : CI w base C gs ge qv sv l) (hA : AstAt w (d + 1) t tb) (hl : l.length + size (d + 1) t ≤ 40000000000) (hz : t.lazy = false) (ho : t.op = 13) :
    Calls Tryd.prog 64 #[.pointer (some ⟨C, 0, none⟩), .pointer (some ⟨tb, 0, none⟩)] w (CPost base C gs ge ad (d + 1) t l w) := by
  obtain ⟨c0, c1⟩ := hA.cells
  have hf : flg t = 0 := by simp [flg, hz]
  rw [hf] at c1
  rw [ho] at c0
  obtain ⟨x, hs, hx⟩ := hW.2.2.2.2.2.1 (by omega) (by omega)
  obtain ⟨sb, so, cap, b, k1, k2, k3⟩ := hA.one hs
  have hsz : size (d + 1) t = size d x := by simp [size, ho, Tr.sub, hs]
  have hcall := IH x b l qv sv w hx hE hM k3 (by omega)
  have hpost : ∀ e w', CPost base C gs ge ad d x l w e w' → CPost base C gs ge ad (d + 1) t l w e w' := by
    rintro e w' ⟨⟨a, b, q, s, c, h1, h2⟩ | ⟨k, a, b⟩, hm⟩
    · refine ⟨Or.inl ⟨a, by rw [bad_sub (by omega) (by omega) hz hs]; exact b, q, s, c, h1, (h2.congr fun s => ?_).more ?_ (by rw [hsz]; exact Nat.le_refl _)⟩, hm⟩
      · simp [lang, ho, Tr.sub, hs]
      · simp [places, ho, hs]
    · exact ⟨Or.inr ⟨k, a, by rw [bad_sub (by omega) (by omega) hz hs, hsz]; exact b⟩, hm⟩
  have HC := Lib.hid hcall
  have HP := Lib.hid hpost
  clear IH hW hE hM hA hl hz ho hf hs hx k3 hsz hcall hpost
  go_enter Tryd.func64, Tryd.ntmps64
  go_wp2_with fail
  refine HC.out.mono ?_
  intro e w' hp
  obtain ⟨v, rfl⟩ := hp.ret
  have HPP := Lib.hid (HP.out _ _ hp)
  clear hp HC
  go_wp2_with fail
  go_ret
  exact HPP.out
theorem c_quest (IH : CSpec base C gs ge ad d) (hW : WF (d + 1) t) (hE : Env w base ad) (hM : CI w base C gs ge qv sv l) (hA : AstAt w (d + 1) t tb) (hl : l.length + size (d + 1) t ≤ 40000000000) (hz : t.lazy = false) (ho : t.op = 16) :
    Calls Tryd.prog 64 #[.pointer (some ⟨C, 0, none⟩), .pointer (some ⟨tb, 0, none⟩)] w (CPost base C gs ge ad (d + 1) t l w) := by
  obtain ⟨c0, c1⟩ := hA.cells
  have hf : flg t = 0 := by simp [flg, hz]
  rw [hf] at c1
  rw [ho] at c0
  obtain ⟨x, hs, hx⟩ := hW.2.2.2.2.2.1 (by omega) (by omega)
  have hsz : size (d + 1) t = size d x + 1 := by simp [size, ho, Tr.sub, hs]
  have hbs := bad_sub (d := d) (by omega) (by omega) hz hs
  obtain ⟨p0, hp0⟩ : ∃ p0, l.length = p0 := ⟨_, rfl⟩
  obtain ⟨p1, hp1⟩ : ∃ p1, p1 = p0 + 1 := ⟨_, rfl⟩
  have e1 : (l ++ [In.spl 0 0]).length = p1 := by simp [hp0, hp1]
  have HB := Lib.hid (And.intro hs (And.intro hx (And.intro hsz (And.intro hbs (And.intro hl (And.intro ho (And.intro hp0 (And.intro hp1 (And.intro e1 hz)))))))))
  have HE := Lib.hid hE
  have HM := Lib.hid hM
  have HA := Lib.hid hA
  have HI := Lib.hid IH
  clear IH hW hE hM hA hz ho hf hs hx hsz hbs hp0 hp1 e1
  go_enter Tryd.func64, Tryd.ntmps64
  go_wp2_with fail
  refine (split_at HM.out HB.out.2.2.2.2.2.2.1 (by omega)).mono ?_
  rintro e w1 ⟨rfl, hC1, hm1⟩
  have hm1A := TF.mono hm1 cE_cA
  obtain ⟨sb, so, cap, b, k1, k2, k3⟩ := (AstAt.mod hm1A _ _ _ HA.out).one HB.out.1
  have HC1 := Lib.hid hC1
  have HM1 := Lib.hid hm1A
  have HK := Lib.hid k3
  clear hC1 hm1 hm1A k3
  go_wp2_with fail
  refine (top_at HC1.out HB.out.2.2.2.2.2.2.2.2.1).mono ?_
  rintro e w1' ⟨rfl, rfl⟩
  go_wp2_with fail
  refine (HI.out x b _ _ _ w1 HB.out.2.1 (HE.out.mod HM1.out) HC1.out HK.out (by have := HB.out.2.2.1; simp; omega)).mono ?_
  rintro e w2 ⟨⟨rfl, hbad, q2, s2, c, hC2, hok2⟩ | ⟨k, rfl, hk⟩, hm2⟩
  · obtain ⟨p2, hp2⟩ : ∃ p2, p2 = p1 + c.length := ⟨_, rfl⟩
    have e2 : (l ++ [In.spl 0 0] ++ c).length = p2 := by rw [List.length_append, HB.out.2.2.2.2.2.2.2.2.1, hp2]
    have hset := setS_ci base C gs ge p0 p1 p2 q2 s2 _ (In.spl 0 0) w2 hC2 (by rw [List.append_assoc]; exact get_mid _ _ _ _ HB.out.2.2.2.2.2.2.1.symm)
    have HS := Lib.hid hset
    have HC2 := Lib.hid hC2
    have HX := Lib.hid (And.intro hbad (And.intro hok2 (And.intro (TF.trans HM1.out hm2) (And.intro hp2 e2))))
    clear hbad hC2 hok2 hm2 hp2 e2 hset HC1 HM1 HK
    go_wp2_with fail
    refine (top_at HC2.out HX.out.2.2.2.2).mono ?_
    rintro e w2' ⟨rfl, rfl⟩
    go_wp2_with fail
    refine HS.out.mono ?_
    rintro e w3 ⟨rfl, hC3, hm3⟩
    have HC3 := Lib.hid hC3
    have HM3 := Lib.hid (TF.trans HX.out.2.2.1 (TF.mono hm3 cE_cA))
    clear hC3 hm3 HS HC2
    have hck : Calls Tryd.prog 81 #[.pointer (some ⟨C, 0, none⟩)] w3 (CPost base C gs ge ad (d + 1) t l w) := by
      obtain ⟨hs, hx, hsz, hbs, hl, ho, hp0, hp1, e1, hz⟩ := HB.out
      obtain ⟨hbad, hok2, hm2, hp2, e2⟩ := HX.out
      have h9 := HC3.out
      rw [List.append_assoc, List.singleton_append, set_mid _ _ _ _ _ hp0.symm] at h9
      rw [e1, hp1, ← hp0] at hok2
      have hq := hok2.quest
      refine check_post (c := In.spl p1 p2 :: c) (HE.out.mod HM3.out) (by rw [hbs]; exact hbad) h9 ?_ HM3.out hl
      rw [hp0] at hq
      rw [show p2 = p0 + c.length + 1 by omega, hp1, hp0]
      refine (hq.congr fun s => ?_).more ?_ (by rw [hsz]; exact Nat.le_refl _)
      · simp [lang, ho, Tr.sub, hs]
      · simp [places, ho, hs]
    have HCK := Lib.hid hck
    clear hck
    go_wp2_with fail
    refine HCK.out.mono ?_
    intro e w' hp
    obtain ⟨v, rfl⟩ := hp.ret
    have HPP := Lib.hid hp
    clear hp HCK
    go_wp2_with fail
    go_ret
    exact HPP.out
  · have HF := Lib.hid (show CPost base C gs ge ad (d + 1) t l w (.returned (.iface 211 (.pointer (some (ad k))))) w2 from .fail (by
      obtain ⟨hs, hx, hsz, hbs, hl, ho, hp0, hp1, e1, hz⟩ := HB.out
      rw [hbs, hsz]
      rcases hk with h | ⟨h1, h2⟩
      · exact Or.inl h
      · exact Or.inr ⟨h1, by simp at h2; omega⟩) (TF.trans HM1.out hm2))
    clear hk hm2
    go_wp2_with fail
    go_ret
    exact HF.out
theorem CI.c1 (h : CI w base C gs ge qv sv l) : ∃ ao cap, w.cell? ⟨C, 1, none⟩ = some (.slice ao l.length cap) := by
  obtain ⟨iv, pv, ps, h⟩ := h
  obtain ⟨ao, cap, rfl⟩ := ownsRow_form h.hi
  exact ⟨ao, cap, block_cell h.hC rfl⟩
theorem c_star (IH : CSpec base C gs ge ad d) (hW : WF (d + 1) t) (hE : Env w base ad) (hM : CI w base C gs ge qv sv l) (hA : AstAt w (d + 1) t tb) (hl : l.length + size (d + 1) t ≤ 40000000000) (hz : t.lazy = false) (ho : t.op = 14) :
    Calls Tryd.prog 64 #[.pointer (some ⟨C, 0, none⟩), .pointer (some ⟨tb, 0, none⟩)] w (CPost base C gs ge ad (d + 1) t l w) := by
  obtain ⟨c0, c1⟩ := hA.cells
  have hf : flg t = 0 := by simp [flg, hz]
  rw [hf] at c1
  rw [ho] at c0
  obtain ⟨x, hs, hx⟩ := hW.2.2.2.2.2.1 (by omega) (by omega)
  have hsz : size (d + 1) t = size d x + 2 := by simp [size, ho, Tr.sub, hs]
  have hbs := bad_sub (d := d) (by omega) (by omega) hz hs
  obtain ⟨p0, hp0⟩ : ∃ p0, l.length = p0 := ⟨_, rfl⟩
  obtain ⟨p1, hp1⟩ : ∃ p1, p1 = p0 + 1 := ⟨_, rfl⟩
  have e1 : (l ++ [In.spl 0 0]).length = p1 := by simp [hp0, hp1]
  have HB := Lib.hid (And.intro hs (And.intro hx (And.intro hsz (And.intro hbs (And.intro hl (And.intro ho (And.intro hp0 (And.intro hp1 (And.intro e1 hz)))))))))
  have HE := Lib.hid hE
  have HM := Lib.hid hM
  have HA := Lib.hid hA
  have HI := Lib.hid IH
  clear IH hW hE hM hA hz ho hf hs hx hsz hbs hp0 hp1 e1
  go_enter Tryd.func64, Tryd.ntmps64
  go_wp2_with fail
  refine (top_at HM.out HB.out.2.2.2.2.2.2.1).mono ?_
  rintro e w0 ⟨rfl, rfl⟩
  go_wp2_with fail
  refine (split_at HM.out HB.out.2.2.2.2.2.2.1 (by omega)).mono ?_
  rintro e w1 ⟨rfl, hC1, hm1⟩
  have hm1A := TF.mono hm1 cE_cA
  obtain ⟨sb, so, cap, b, k1, k2, k3⟩ := (AstAt.mod hm1A _ _ _ HA.out).one HB.out.1
  have HC1 := Lib.hid hC1
  have HM1 := Lib.hid hm1A
  have HK := Lib.hid k3
  clear hC1 hm1 hm1A k3
  go_wp2_with fail
  refine (top_at HC1.out HB.out.2.2.2.2.2.2.2.2.1).mono ?_
  rintro e w1' ⟨rfl, rfl⟩
  go_wp2_with fail
  refine (HI.out x b _ _ _ w1 HB.out.2.1 (HE.out.mod HM1.out) HC1.out HK.out (by have := HB.out.2.2.1; simp; omega)).mono ?_
  rintro e w2 ⟨⟨rfl, hbad, q2, s2, c, hC2, hok2⟩ | ⟨k, rfl, hk⟩, hm2⟩
  · obtain ⟨p2, hp2⟩ : ∃ p2, p2 = p1 + c.length := ⟨_, rfl⟩
    obtain ⟨p3, hp3⟩ : ∃ p3, p3 = p2 + 1 := ⟨_, rfl⟩
    have e2 : (l ++ [In.spl 0 0] ++ c).length = p2 := by rw [List.length_append, HB.out.2.2.2.2.2.2.2.2.1, hp2]
    have e3 : (l ++ [In.spl 0 0] ++ c ++ [In.jmp 0]).length = p3 := by rw [List.length_append, e2, hp3]; rfl
    have hb3 : p3 ≤ 45000000000 := by have := hok2.len; have := HB.out.2.2.1; have := HB.out.2.2.2.2.2.2.1; have := HB.out.2.2.2.2.2.2.2.1; omega
    have HC2 := Lib.hid hC2
    have HX := Lib.hid (And.intro hbad (And.intro hok2 (And.intro (TF.trans HM1.out hm2) (And.intro hp2 (And.intro hp3 (And.intro e2 e3))))))
    clear hbad hC2 hok2 hm2 hp2 e2 HC1 HM1 HK hp3
    go_wp2_with fail
    refine (jump_at HC2.out HX.out.2.2.2.2.2.1 (by rw [HX.out.2.2.2.2.2.1]; have := HX.out.2.2.2.2.1; omega)).mono ?_
    rintro e w3 ⟨rfl, hC3, hm3⟩
    obtain ⟨ao, cp, k4⟩ := hC3.c1
    rw [e3] at k4
    have hwp : IntKind.u64.wrap (p3 : Int) = (p3 : Int) := IntWalk.u64_in _ (by omega)
    have hset := setJ_ci base C gs ge p2 p0 q2 s2 _ (In.jmp 0) w3 hC3 (by exact get_mid _ [] _ _ HX.out.2.2.2.2.2.1.symm)
    have HS := Lib.hid hset
    have HM3 := Lib.hid (TF.trans HX.out.2.2.1 (TF.mono hm3 cE_cA))
    clear hC3 hm3 HC2 e3 hset
    go_wp2_with fail
    refine HS.out.mono ?_
    rintro e w4 ⟨rfl, hC4, hm4⟩
    have hset2 := setS_ci base C gs ge p0 p1 p3 q2 s2 _ (In.spl 0 0) w4 hC4 (by
      rw [set_mid _ [] _ _ _ HX.out.2.2.2.2.2.1.symm, List.append_assoc, List.append_assoc]; exact get_mid _ _ _ _ HB.out.2.2.2.2.2.2.1.symm)
    have HS2 := Lib.hid hset2
    have HM4 := Lib.hid (TF.trans HM3.out (TF.mono hm4 cE_cA))
    clear hC4 hm4 hset2 HM3 HS
    go_wp2_with fail
    refine HS2.out.mono ?_
    rintro e w5 ⟨rfl, hC5, hm5⟩
    have HC5 := Lib.hid hC5
    have HM5 := Lib.hid (TF.trans HM4.out (TF.mono hm5 cE_cA))
    clear hC5 hm5 HS2 HM4
    have hck : Calls Tryd.prog 81 #[.pointer (some ⟨C, 0, none⟩)] w5 (CPost base C gs ge ad (d + 1) t l w) := by
      obtain ⟨hs, hx, hsz, hbs, hl, ho, hp0, hp1, e1, hz⟩ := HB.out
      obtain ⟨hbad, hok2, hm2, hp2, hp3, e2, e3⟩ := HX.out
      have h9 := HC5.out
      rw [set_mid _ [] _ _ _ e2.symm, List.append_assoc, List.append_assoc, List.singleton_append, set_mid _ _ _ _ _ hp0.symm] at h9
      rw [e1, hp1, ← hp0] at hok2
      have hq := hok2.star
      refine check_post (c := In.spl p1 p3 :: (c ++ [In.jmp p0])) (HE.out.mod HM5.out) (by rw [hbs]; exact hbad) h9 ?_ HM5.out hl
      rw [hp0] at hq
      rw [show p3 = p0 + c.length + 2 by omega, hp1, hp0]
      refine (hq.congr fun s => ?_).more ?_ (by rw [hsz]; exact Nat.le_refl _)
      · simp [lang, ho, Tr.sub, hs]
      · simp [places, ho, hs]
    have HCK := Lib.hid hck
    clear hck
    go_wp2_with fail
    refine HCK.out.mono ?_
    intro e w' hp
    obtain ⟨v, rfl⟩ := hp.ret
    have HPP := Lib.hid hp
    clear hp HCK
    go_wp2_with fail
    go_ret
    exact HPP.out
  · have HF := Lib.hid (show CPost base C gs ge ad (d + 1) t l w (.returned (.iface 211 (.pointer (some (ad k))))) w2 from .fail (by
      obtain ⟨hs, hx, hsz, hbs, hl, ho, hp0, hp1, e1, hz⟩ := HB.out
      rw [hbs, hsz]
      rcases hk with h | ⟨h1, h2⟩
      · exact Or.inl h
      · exact Or.inr ⟨h1, by simp at h2; omega⟩) (TF.trans HM1.out hm2))
    clear hk hm2
    go_wp2_with fail
    go_ret
    exact HF.out
theorem c_plus (IH : CSpec base C gs ge ad d) (hW : WF (d + 1) t) (hE : Env w base ad) (hM : CI w base C gs ge qv sv l) (hA : AstAt w (d + 1) t tb) (hl : l.length + size (d + 1) t ≤ 40000000000) (hz : t.lazy = false) (ho : t.op = 15) :
    Calls Tryd.prog 64 #[.pointer (some ⟨C, 0, none⟩), .pointer (some ⟨tb, 0, none⟩)] w (CPost base C gs ge ad (d + 1) t l w) := by
  obtain ⟨c0, c1⟩ := hA.cells
  have hf : flg t = 0 := by simp [flg, hz]
  rw [hf] at c1
  rw [ho] at c0
  obtain ⟨x, hs, hx⟩ := hW.2.2.2.2.2.1 (by omega) (by omega)
  have hsz : size (d + 1) t = size d x + 1 := by simp [size, ho, Tr.sub, hs]
  have hbs := bad_sub (d := d) (by omega) (by omega) hz hs
  obtain ⟨p0, hp0⟩ : ∃ p0, l.length = p0 := ⟨_, rfl⟩
  obtain ⟨sb, so, cap, b, k1, k2, k3⟩ := hA.one hs
  have HB := Lib.hid (And.intro hs (And.intro hx (And.intro hsz (And.intro hbs (And.intro hl (And.intro ho (And.intro hp0 hz)))))))
  have HE := Lib.hid hE
  have HM := Lib.hid hM
  have HK := Lib.hid k3
  have HI := Lib.hid IH
  clear IH hW hE hM hA hz ho hf hs hx hsz hbs hp0 k3
  go_enter Tryd.func64, Tryd.ntmps64
  go_wp2_with fail
  refine (top_at HM.out HB.out.2.2.2.2.2.2.1).mono ?_
  rintro e w0 ⟨rfl, rfl⟩
  go_wp2_with fail
  refine (HI.out x b _ _ _ w HB.out.2.1 HE.out HM.out HK.out (by have := HB.out.2.2.1; omega)).mono ?_
  rintro e w2 ⟨⟨rfl, hbad, q2, s2, c, hC2, hok2⟩ | ⟨k, rfl, hk⟩, hm2⟩
  · obtain ⟨p2, hp2⟩ : ∃ p2, p2 = p0 + c.length := ⟨_, rfl⟩
    obtain ⟨p3, hp3⟩ : ∃ p3, p3 = p2 + 1 := ⟨_, rfl⟩
    have e2 : (l ++ c).length = p2 := by rw [List.length_append, HB.out.2.2.2.2.2.2.1, hp2]
    have e3 : (l ++ c ++ [In.spl 0 0]).length = p3 := by rw [List.length_append, e2, hp3]; rfl
    have hb3 : p3 ≤ 45000000000 := by have := hok2.len; have := HB.out.2.2.1; have := HB.out.2.2.2.2.2.2.1; omega
    have HC2 := Lib.hid hC2
    have HX := Lib.hid (And.intro hbad (And.intro hok2 (And.intro hm2 (And.intro hp2 (And.intro hp3 (And.intro e2 e3))))))
    clear hbad hC2 hok2 hm2 hp2 e2 HK hp3 e3
    go_wp2_with fail
    refine (split_at HC2.out HX.out.2.2.2.2.2.1 (by rw [HX.out.2.2.2.2.2.1]; have := HX.out.2.2.2.2.1; omega)).mono ?_
    rintro e w3 ⟨rfl, hC3, hm3⟩
    have hset := setS_ci base C gs ge p2 p0 p3 q2 s2 _ (In.spl 0 0) w3 hC3 (by exact get_mid _ [] _ _ HX.out.2.2.2.2.2.1.symm)
    have HS := Lib.hid hset
    have HC3 := Lib.hid hC3
    have HM3 := Lib.hid (TF.trans HX.out.2.2.1 (TF.mono hm3 cE_cA))
    clear hC3 hm3 HC2 hset
    go_wp2_with fail
    refine (top_at HC3.out HX.out.2.2.2.2.2.2).mono ?_
    rintro e w3' ⟨rfl, rfl⟩
    go_wp2_with fail
    refine HS.out.mono ?_
    rintro e w5 ⟨rfl, hC5, hm5⟩
    have HC5 := Lib.hid hC5
    have HM5 := Lib.hid (TF.trans HM3.out (TF.mono hm5 cE_cA))
    clear hC5 hm5 HS HM3 HC3
    have hck : Calls Tryd.prog 81 #[.pointer (some ⟨C, 0, none⟩)] w5 (CPost base C gs ge ad (d + 1) t l w) := by
      obtain ⟨hs, hx, hsz, hbs, hl, ho, hp0, hz⟩ := HB.out
      obtain ⟨hbad, hok2, hm2, hp2, hp3, e2, e3⟩ := HX.out
      have h9 := HC5.out
      rw [set_mid _ [] _ _ _ e2.symm, List.append_assoc] at h9
      have hq := hok2.plus
      refine check_post (c := c ++ [In.spl p0 p3]) (HE.out.mod HM5.out) (by rw [hbs]; exact hbad) h9 ?_ HM5.out hl
      rw [hp0] at hq
      rw [show p3 = p0 + c.length + 1 by omega, hp0]
      refine (hq.congr fun s => ?_).more ?_ (by rw [hsz]; exact Nat.le_refl _)
      · simp [lang, ho, Tr.sub, hs]
      · simp [places, ho, hs]; omega
    have HCK := Lib.hid hck
    clear hck
    go_wp2_with fail
    refine HCK.out.mono ?_
    intro e w' hp
    obtain ⟨v, rfl⟩ := hp.ret
    have HPP := Lib.hid hp
    clear hp HCK
    go_wp2_with fail
    go_ret
    exact HPP.out
  · have HF := Lib.hid (show CPost base C gs ge ad (d + 1) t l w (.returned (.iface 211 (.pointer (some (ad k))))) w2 from .fail (by
      obtain ⟨hs, hx, hsz, hbs, hl, ho, hp0, hz⟩ := HB.out
      rw [hbs, hsz]
      rcases hk with h | ⟨h1, h2⟩
      · exact Or.inl h
      · exact Or.inr ⟨h1, by omega⟩) hm2)
    clear hk hm2
    go_wp2_with fail
    go_ret
    exact HF.out
end
end Go.Proofs.YtnpchkohfomagaaDoor.Rgw
/-! The compiler of expressions: c at a row of parts. -/
namespace Go.Proofs.YtnpchkohfomagaaDoor.Rgw
open Go.ChangeShapes Go.WideShapes Go.ChangeAt Go.RowKit Go.Trav Go.Rg Go.Proofs.YtnpchkohfomagaaDoor.Seq Go.Utf Go.Proofs.YtnpchkohfomagaaDoor.Sparse
set_option linter.unusedVariables false
set_option linter.unusedSimpArgs false
set_option maxRecDepth 100000
/-- The parts of an expression, as they lie. -/
structure Subs (w : World) (d tb : Nat) (sv : Value) (bs : List Nat) (ts : List Tr) : Prop where
  cl : CC w tb 2 sv
  rd : Reads w sv bs.length 1 (bs.map ptr)
  off : ∀ g, sv.ownBlock = some g → Off w g
  len : bs.length = ts.length
  sub : ∀ (i : Nat) b s, bs[i]? = some b → ts[i]? = some s → AstAt w d s b
theorem Subs.mod {w w' : World} {base d tb : Nat} {sv : Value} {bs : List Nat} {ts : List Tr} (h : Subs w d tb sv bs ts) (m : Mod (TF cA base w) w w') : Subs w' d tb sv bs ts :=
  ⟨h.cl.mod m, h.rd.mod m fun g hg => by obtain ⟨T, k1, k2⟩ := h.off g hg; exact TF.not k2 k1, fun g hg => (h.off g hg).mod m, h.len, fun i b s hb hs => AstAt.mod m _ _ _ (h.sub i b s hb hs)⟩
theorem Subs.below {w w' : World} {d tb : Nat} {sv : Value} {bs : List Nat} {ts : List Tr} (h : Subs w d tb sv bs ts) (hb : Below w.heap.size w w') : Subs w' d tb sv bs ts := h.mod (base := 0) (Mod.of_below hb)
theorem AstAt.subs {w : World} {d tb : Nat} {t : Tr} (h : AstAt w (d + 1) t tb) : ∃ sv bs, Subs w d tb sv bs t.subs := by
  obtain ⟨sv, _, rv, _, _, _, _, h1, h2, bs, h3, h4, h5, h6, _⟩ := h
  exact ⟨sv, bs, ⟨block_cell h1 rfl, 77, by decide, _, _, h1⟩, h4, h5, h3, h6⟩
theorem Subs.get {w : World} {d tb : Nat} {sb : Option Addr} {cap : Nat} {bs : List Nat} {ts : List Tr} {n : Nat} (h : Subs w d tb (.slice sb n cap) bs ts) {k : Nat} {s : Tr} (hk : ts[k]? = some s) :
    ∃ g o b, sb = some ⟨g, o, none⟩ ∧ n = ts.length ∧ w.cell? ⟨g, o + k, none⟩ = some (.pointer (some ⟨b, 0, none⟩)) ∧ AstAt w d s b := by
  have hl : k < bs.length := by rw [h.len]; exact (List.getElem?_eq_some_iff.mp hk).1
  obtain ⟨g, o, c, b, e, hb, hc⟩ := Reads.one ptr h.rd hl
  cases e
  exact ⟨g, o, b, rfl, h.len, hc, h.sub k b s hb hk⟩
theorem find_none {α : Type} {f : α → Option Nat} : ∀ (l : List α), (∀ x ∈ l, f x = none) → (l.map f).findSome? id = none := by
  intro l
  induction l with
  | nil => intro _; rfl
  | cons x r ih => intro h; rw [List.map_cons, List.findSome?_cons, h x (by simp)]; exact ih fun y hy => h y (by simp [hy])
theorem find_at {α : Type} {f : α → Option Nat} : ∀ (l : List α) (k : Nat) (x : α) (n : Nat), l[k]? = some x → f x = some n → (∀ y ∈ l.take k, f y = none) → (l.map f).findSome? id = some n := by
  intro l
  induction l with
  | nil => intro k x n h; simp at h
  | cons y r ih =>
    intro k x n h hf hn
    cases k with
    | zero => simp at h; subst h; rw [List.map_cons, List.findSome?_cons, hf]; rfl
    | succ k =>
      rw [List.map_cons, List.findSome?_cons, hn y (by simp)]
      exact ih k x n (by simpa using h) hf fun z hz => hn z (by simp [hz])
theorem sum_take_get {α : Type} {f : α → Nat} : ∀ (l : List α) (k : Nat) (x : α), l[k]? = some x → ((l.take k).map f).sum + f x ≤ (l.map f).sum := by
  intro l
  induction l with
  | nil => intro k x h; simp at h
  | cons y r ih =>
    intro k x h
    cases k with
    | zero => simp at h; subst h; simp
    | succ k =>
      have := ih k x (by simpa using h)
      simp only [List.take_succ_cons, List.map_cons, List.sum_cons]
      omega
theorem sum_take_le {α : Type} {f : α → Nat} : ∀ (l : List α) (k : Nat), ((l.take k).map f).sum ≤ (l.map f).sum := by
  intro l
  induction l with
  | nil => intro k; simp
  | cons y r ih =>
    intro k
    cases k with
    | zero => simp
    | succ k =>
      have := ih k
      simp only [List.take_succ_cons, List.map_cons, List.sum_cons]
      omega
section
variable {base C gs ge : Nat} {ad : Nat → Addr} {d tb : Nat} {t : Tr} {l : List In} {qv sv : Value} {w : World}
theorem bad_many (h1 : 18 ≤ t.op) (hz : t.lazy = false) : bad (d + 1) t = (t.subs.map (bad d)).findSome? id := by
  have a1 : ¬ (7 ≤ t.op ∧ t.op ≤ 10) := by omega
  have a2 : ¬ (t.op = 11 ∨ t.op = 12) := by omega
  have a3 : ¬ t.op < 13 := by omega
  have a4 : ¬ t.op ≤ 17 := by omega
  simp only [bad, hz, if_neg a1, if_neg a2, if_neg a3, if_neg a4]
  rfl
theorem c_concat (IH : CSpec base C gs ge ad d) (hW : WF (d + 1) t) (hE : Env w base ad) (hM : CI w base C gs ge qv sv l) (hA : AstAt w (d + 1) t tb) (hl : l.length + size (d + 1) t ≤ 40000000000) (hz : t.lazy = false) (ho : t.op = 18) :
    Calls Tryd.prog 64 #[.pointer (some ⟨C, 0, none⟩), .pointer (some ⟨tb, 0, none⟩)] w (CPost base C gs ge ad (d + 1) t l w) := by
  obtain ⟨c0, c1⟩ := hA.cells
  have hf : flg t = 0 := by simp [flg, hz]
  rw [hf] at c1
  rw [ho] at c0
  obtain ⟨hne, hwf, h100⟩ := hW.2.2.2.2.2.2.2 (by omega)
  have hsz : size (d + 1) t = (t.subs.map (size d)).sum := by simp [size, ho]
  have hpl : places (d + 1) t = (t.subs.map (places d)).sum := by simp [places, ho]
  have hla : ∀ s, lang (d + 1) t s ↔ CatL (t.subs.map (lang d)) s := fun s => by simp [lang, ho]
  have hbm := bad_many (d := d) (t := t) (by omega) hz
  obtain ⟨sv0, bs, hS⟩ := hA.subs
  obtain ⟨sa, scap, rfl⟩ := hS.rd.form
  have hbl := hS.len
  rw [hbl] at hS
  have c2 := hS.cl.cl
  obtain ⟨n, hn⟩ : ∃ n, t.subs.length = n := ⟨_, rfl⟩
  rw [hn] at c2 hS
  have hn100 : n ≤ 100 := by omega
  have HB := Lib.hid (And.intro hwf (And.intro hsz (And.intro hpl (And.intro hla (And.intro hbm (And.intro hl (And.intro hn h100)))))))
  have HE := Lib.hid hE
  have HM := Lib.hid hM
  have HS := Lib.hid hS
  have HI := Lib.hid IH
  clear IH hW hE hM hA hz ho hf hwf hsz hpl hla hbm hS hne hbl hn
  go_enter Tryd.func64, Tryd.ntmps64
  go_wp2_with fail
  go_loopw [4, 14, 15, 216] (fun ev _ _ ix wr => ∃ (k : Nat) (c : List In) (q1 s1 : Value), ev = .nilIface ∧ ix = .int .i64 k ∧ k ≤ n ∧ Hid (CI wr base C gs ge q1 s1 (l ++ c)) ∧ Hid (Ok (CatL ((t.subs.take k).map (lang d))) (((t.subs.take k).map (places d)).sum) (((t.subs.take k).map (size d)).sum) l.length c) ∧ Hid (∀ y ∈ t.subs.take k, bad d y = none) ∧ Hid (Mod (TF cA base w) w wr)) (fun _ _ _ ix _ => n - (intOf ix).toNat)
  case atStart => exact ⟨0, [], qv, sv, rfl, rfl, Nat.zero_le _, Lib.hid (by simpa using HM.out), Lib.hid ((Ok.empty l.length).congr fun s => by simp [CatL]), Lib.hid (by simp), Lib.hid (Mod.refl _ _)⟩
  case round =>
    obtain ⟨k, c, q1, s1, rfl, rfl, hk, HC, HO, HN, HW⟩ := hrel
    by_cases hlt : k < n
    · obtain ⟨s, hs⟩ : ∃ s, t.subs[k]? = some s := ⟨_, List.getElem?_eq_getElem (by have := HB.out.2.2.2.2.2.2.1; omega)⟩
      have hS2 := HS.out.mod HW.out
      obtain ⟨g, o, b, rfl, hn2, hcl, hast⟩ := hS2.get hs
      have hlen := sum_take_get (f := size d) _ _ _ hs
      have hol := HO.out.len
      have hsz := HB.out.2.1
      have hl2 := HB.out.2.2.2.2.2.1
      have hcall := HI.out s b (l ++ c) q1 s1 wr (HB.out.1 s (List.mem_of_getElem? hs)) (HE.out.mod HW.out) HC.out hast (by rw [List.length_append]; omega)
      have HCC := Lib.hid hcall
      have HS1 := Lib.hid (And.intro hs (And.intro hlen hol))
      clear hS2 hast hlen hol hsz hl2 hcall hs hn2
      go_wp2_with fail
      refine HCC.out.mono ?_
      rintro e w2 ⟨⟨rfl, hbad, q2, s2, c', hC2, hok2⟩ | ⟨kk, rfl, hkk⟩, hm2⟩
      · have HX := Lib.hid (And.intro hbad (And.intro hC2 (And.intro hok2 hm2)))
        clear hbad hC2 hok2 hm2 HCC
        go_wp2_with fail
        go_roundw
        case rel =>
          obtain ⟨hbad, hC2, hok2, hm2⟩ := HX.out
          have hs := HS1.out.1
          have htk : t.subs.take (k + 1) = t.subs.take k ++ [s] := take_get hs
          rw [List.length_append] at hok2
          refine ⟨k + 1, c ++ c', q2, s2, rfl, by go_num, by omega, Lib.hid (by rw [← List.append_assoc]; exact hC2), Lib.hid ?_, Lib.hid ?_, Lib.hid (TF.trans HW.out hm2)⟩
          · refine ((HO.out.cat hok2).congr fun z => ?_).more ?_ ?_
            · rw [htk, List.map_append]; exact (catL_snoc _ _ z).symm
            · rw [htk]; simp
            · rw [htk]; simp
          · intro y hy
            rw [htk] at hy
            rcases List.mem_append.mp hy with h | h
            · exact HN.out y h
            · simp at h; subst h; exact hbad
        case measure => simp [intOf]; omega
      · have HF := Lib.hid (show CPost base C gs ge ad (d + 1) t l w (.returned (.iface 211 (.pointer (some (ad kk))))) w2 from .fail (by
          obtain ⟨hwf, hsz, hpl, hla, hbm, hl, hn, _⟩ := HB.out
          obtain ⟨hs, hlen, hol⟩ := HS1.out
          rw [hbm, hsz]
          rcases hkk with h | ⟨h1, h2⟩
          · exact Or.inl (find_at _ _ _ _ hs h HN.out)
          · exact Or.inr ⟨h1, by rw [List.length_append] at h2; omega⟩) (TF.trans HW.out hm2))
        clear hkk hm2
        go_wp2_with fail
        go_ret
        exact HF.out
    · obtain rfl : k = n := by omega
      go_wp2_with fail
      go_ret
      obtain ⟨hwf, hsz, hpl, hla, hbm, hl, hn, _⟩ := HB.out
      have htk : t.subs.take k = t.subs := List.take_of_length_le (by omega)
      have h1 := HO.out
      have h2 := HN.out
      rw [htk] at h1 h2
      refine .good (by rw [hbm]; exact find_none _ h2) HC.out ?_ HW.out
      rw [hsz, hpl]
      exact h1.congr fun z => (hla z).symm
end
end Go.Proofs.YtnpchkohfomagaaDoor.Rgw
