/- The compiler of expressions: c at a repeat without an end. -/
import Derived.Test.YtnpchkohfomagaaDoorRgW10
namespace Go.Proofs.YtnpchkohfomagaaDoor.Rgw
open Go.ChangeShapes Go.WideShapes Go.ChangeAt Go.RowKit Go.Trav Go.Rg Go.Proofs.YtnpchkohfomagaaDoor.Seq Go.Utf Go.Proofs.YtnpchkohfomagaaDoor.Sparse
set_option linter.unusedVariables false
set_option linter.unusedSimpArgs false
set_option maxRecDepth 100000
section
variable {base C gs ge : Nat} {ad : Nat → Addr} {d tb : Nat} {t : Tr} {l : List In} {qv sv : Value} {w : World}
/-- All cells of a node. -/
theorem AstAt.all (h : AstAt w (d + 1) t tb) : ∃ sv rv cp nm bs, ∃ r0 r1 : Int, w.heap[tb]? = some (.cells #[.int .u8 (t.op : Int), .int .u16 (flg t), sv, .pointer none, rv, .int .i32 r0, .int .i32 r1, .int .i64 t.mn, .int .i64 t.mx, cp, nm] 77 (0, 0)) ∧ RR w rv t.runes ∧ Subs w d tb sv bs t.subs := by
  obtain ⟨sv, _, rv, _, _, cp, nm, h1, h2, bs, h3, h4, h5, h6, rfl, r0, r1, rfl, rfl⟩ := h
  exact ⟨sv, rv, cp, nm, bs, r0, r1, h1, h2, ⟨block_cell h1 rfl, 77, by decide, _, _, h1⟩, h4, h5, h3, h6⟩
theorem Subs.one {x : Tr} {sv0 : Value} {bs : List Nat} {ts : List Tr} (h : Subs w d tb sv0 bs ts) (hs : ts = [x]) : ∃ sb so cap b, sv0 = .slice (some ⟨sb, so, none⟩) 1 cap ∧ bs = [b] := by
  subst hs
  have hl := h.len
  obtain ⟨sb, so, cap, y, e, hy, hc⟩ := Reads.one ptr h.rd (k := 0) (by rw [hl]; simp)
  rw [hl] at e
  match bs, hl with
  | [b], _ => exact ⟨sb, so, cap, b, e, rfl⟩
theorem Subs.cell {x : Tr} {sb so cap b : Nat} (h : Subs w d tb (.slice (some ⟨sb, so, none⟩) 1 cap) [b] [x]) : w.cell? ⟨tb, 2, none⟩ = some (.slice (some ⟨sb, so, none⟩) 1 cap) ∧ w.cell? ⟨sb, so, none⟩ = some (.pointer (some ⟨b, 0, none⟩)) ∧ AstAt w d x b := by
  obtain ⟨sb', so', cap', y, e, hy, hc⟩ := Reads.one ptr h.rd (k := 0) (by simp)
  cases e
  simp at hy; subst hy
  exact ⟨h.cl.cl, by simpa [ptr] using hc, h.sub 0 b x rfl rfl⟩
/-- A star over the same parts, in a block of its own. -/
def starTr (t : Tr) : Tr := .mk 14 false false t.runes 0 0 t.subs
set_option maxHeartbeats 8000000 in
theorem c_ever (IH : CSpec base C gs ge ad d) (hW : WF (d + 1) t) (hE : Env w base ad) (hM : CI w base C gs ge qv sv l) (hA : AstAt w (d + 1) t tb) (hl : l.length + size (d + 1) t ≤ 40000000000) (hz : t.lazy = false) (ho : t.op = 17) (hx1 : t.mx = -1) :
    Calls Tryd.prog 64 #[.pointer (some ⟨C, 0, none⟩), .pointer (some ⟨tb, 0, none⟩)] w (CPost base C gs ge ad (d + 1) t l w) := by
  have hf : flg t = 0 := by simp [flg, hz]
  obtain ⟨x, hs, hx⟩ := hW.2.2.2.2.2.1 (by omega) (by omega)
  obtain ⟨hm0, hm1, _, _⟩ := hW.2.2.2.2.2.2.1 ho
  obtain ⟨n, hn⟩ := Int.eq_ofNat_of_zero_le hm0
  have hsz : size (d + 1) t = (n + 1) * size d x + 2 := by simp [size, ho, Tr.sub, hs, hx1, hn]
  have hpl : places (d + 1) t = (n + 1) * places d x := by
    have : (max t.mn t.mx).toNat = n := by rw [hn, hx1]; omega
    simp [places, ho, hs, this, Nat.mul_comm]
  have hbs := bad_sub (d := d) (by omega) (by omega) hz hs
  have hla : ∀ s, lang (d + 1) t s ↔ ∃ b c, s = b ++ c ∧ Pow (lang d x) n b ∧ Star (lang d x) c := fun s => by simp [lang, ho, Tr.sub, hs, hx1, hn]
  obtain ⟨sv0, rv, cp, nm, bs, r0, r1, hblk, hrr, hS⟩ := hA.all
  obtain ⟨ra, rcap, rfl⟩ := hrr.rd.form
  obtain ⟨sb, so, cap, b, rfl, rfl⟩ := hS.one hs
  rw [hs] at hS
  rw [ho, hf, hx1, hn] at hblk
  have hn1000 : n ≤ 1000 := by omega
  have hblkall : ∀ W, Mod (TF cA base w) w W → W.heap[tb]? = some (.cells #[.int .u8 ((17 : Nat) : Int), .int .u16 0, .slice (some ⟨sb, so, none⟩) 1 cap, .pointer none, .slice ra t.runes.length rcap, .int .i32 r0, .int .i32 r1, .int .i64 (n : Int), .int .i64 (-1), cp, nm] 77 (0, 0)) := fun W m => m.heap hblk (TF.not (T := 77) ⟨_, _, hblk⟩ (by decide))
  have c0 : w.cell? ⟨tb, 0, none⟩ = some (.int .u8 17) := block_cell hblk rfl
  have c1 : w.cell? ⟨tb, 1, none⟩ = some (.int .u16 0) := block_cell hblk rfl
  have c7 : w.cell? ⟨tb, 8, none⟩ = some (.int .i64 (-1)) := block_cell hblk rfl
  have HB := Lib.hid (And.intro hs (And.intro hx (And.intro hsz (And.intro hpl (And.intro hbs (And.intro hla (And.intro hl (And.intro hz hW))))))))
  have HBL := Lib.hid hblkall
  have HE := Lib.hid hE
  have HM := Lib.hid hM
  have HS := Lib.hid hS
  have HR := Lib.hid hrr
  have HI := Lib.hid IH
  clear IH hW hE hM hA hz ho hf hs hx hsz hpl hbs hla hS hblk hblkall hrr hm0 hm1 hn hx1
  go_enter Tryd.func64, Tryd.ntmps64
  go_wp2_with fail
  go_loopw [4, 41, 42] (fun ev ix _ wr => ∃ (k : Nat) (c : List In) (q1 s1 : Value), ev = .nilIface ∧ ix = .int .i64 (k : Int) ∧ k ≤ n ∧ Hid (CI wr base C gs ge q1 s1 (l ++ c)) ∧ Hid (Ok (Pow (lang d x) k) (k * places d x) (k * size d x) l.length c) ∧ Hid (0 < k → bad d x = none) ∧ Hid (Mod (TF cA base w) w wr)) (fun _ ix _ _ => n - (intOf ix).toNat)
  case atStart => exact ⟨0, [], qv, sv, rfl, rfl, Nat.zero_le _, Lib.hid (by simpa using HM.out), Lib.hid (((Ok.empty l.length).congr fun s => Iff.rfl).more (Nat.zero_le _) (Nat.zero_le _)), Lib.hid (fun h => absurd h (Nat.lt_irrefl 0)), Lib.hid (Mod.refl _ _)⟩
  case round =>
    obtain ⟨k, c, q1, s1, rfl, rfl, hk, HC, HO, HN, HW⟩ := hrel
    have hbk := HBL.out wr HW.out
    have d7 : wr.cell? ⟨tb, 7, none⟩ = some (.int .i64 (n : Int)) := block_cell hbk rfl
    by_cases hlt : k < n
    · obtain ⟨d2, d3, hast⟩ := (HS.out.mod HW.out).cell
      have hol := HO.out.len
      have hsz := HB.out.2.2.1
      have hmul : (k + 1) * size d x ≤ (n + 1) * size d x := Nat.mul_le_mul_right _ (by omega)
      rw [Nat.add_mul, Nat.one_mul] at hmul
      have hcall := HI.out x b (l ++ c) q1 s1 wr HB.out.2.1 (HE.out.mod HW.out) HC.out hast (by rw [List.length_append]; omega)
      have HCC := Lib.hid hcall
      have HS1 := Lib.hid (And.intro hmul hol)
      clear hast hol hsz hcall hmul hbk
      go_wp2_with fail
      refine HCC.out.mono ?_
      rintro e w2 ⟨⟨rfl, hbad, q2, s2, c', hC2, hok2⟩ | ⟨kk, rfl, hkk⟩, hm2⟩
      · have HX := Lib.hid (And.intro hbad (And.intro hC2 (And.intro hok2 hm2)))
        clear hbad hC2 hok2 hm2 HCC
        go_wp2_with fail
        go_roundw
        case rel =>
          obtain ⟨hbad, hC2, hok2, hm2⟩ := HX.out
          rw [List.length_append] at hok2
          exact ⟨k + 1, c ++ c', q2, s2, rfl, by go_num, by omega, Lib.hid (by rw [← List.append_assoc]; exact hC2), Lib.hid (HO.out.pow hok2), Lib.hid (fun _ => hbad), Lib.hid (TF.trans HW.out hm2)⟩
        case measure => simp [intOf]; omega
      · have HF := Lib.hid (show CPost base C gs ge ad (d + 1) t l w (.returned (.iface 211 (.pointer (some (ad kk))))) w2 from .fail (by
          obtain ⟨hs, hx, hsz, hpl, hbs, hla, hl, hz, hW⟩ := HB.out
          obtain ⟨hmul, hol⟩ := HS1.out
          rw [hbs, hsz]
          rcases hkk with h | ⟨h1, h2⟩
          · exact Or.inl h
          · exact Or.inr ⟨h1, by rw [List.length_append] at h2; omega⟩) (TF.trans HW.out hm2))
        clear hkk hm2
        go_wp2_with fail
        go_ret
        exact HF.out
    · obtain rfl : k = n := by omega
      have e1 : wr.cell? ⟨tb, 1, none⟩ = some (.int .u16 0) := block_cell hbk rfl
      have e2 : wr.cell? ⟨tb, 2, none⟩ = some (.slice (some ⟨sb, so, none⟩) 1 cap) := block_cell hbk rfl
      have e3 : wr.cell? ⟨tb, 3, none⟩ = some (.pointer none) := block_cell hbk rfl
      have e4 : wr.cell? ⟨tb, 4, none⟩ = some (.slice ra t.runes.length rcap) := block_cell hbk rfl
      have e5 : wr.cell? ⟨tb, 5, none⟩ = some (.int .i32 r0) := block_cell hbk rfl
      have e6 : wr.cell? ⟨tb, 6, none⟩ = some (.int .i32 r1) := block_cell hbk rfl
      have htl := block_lt hbk
      have a1 : ∀ o, (wr.drew.alloc o).cell? ⟨tb, 1, none⟩ = some (.int .u16 0) := fun o => block_cell (block_alloc (w := wr.drew) hbk) rfl
      have a2 : ∀ o, (wr.drew.alloc o).cell? ⟨tb, 2, none⟩ = some (.slice (some ⟨sb, so, none⟩) 1 cap) := fun o => block_cell (block_alloc (w := wr.drew) hbk) rfl
      have a3 : ∀ o, (wr.drew.alloc o).cell? ⟨tb, 3, none⟩ = some (.pointer none) := fun o => block_cell (block_alloc (w := wr.drew) hbk) rfl
      have a4 : ∀ o, (wr.drew.alloc o).cell? ⟨tb, 4, none⟩ = some (.slice ra t.runes.length rcap) := fun o => block_cell (block_alloc (w := wr.drew) hbk) rfl
      have a5 : ∀ o, (wr.drew.alloc o).cell? ⟨tb, 5, none⟩ = some (.int .i32 r0) := fun o => block_cell (block_alloc (w := wr.drew) hbk) rfl
      have a6 : ∀ o, (wr.drew.alloc o).cell? ⟨tb, 6, none⟩ = some (.int .i32 r1) := fun o => block_cell (block_alloc (w := wr.drew) hbk) rfl
      clear hbk
      have hcl : ∀ w1 : World, w1 = (wr.alloc (.cells #[.int .u8 14, .int .u16 0, .slice (some ⟨sb, so, none⟩) 1 cap, .pointer none, .slice ra t.runes.length rcap, .int .i32 r0, .int .i32 r1, .int .i64 0, .int .i64 0, .int .i64 0, .string ByteArray.empty] 77)).drew →
          Calls Tryd.prog 64 #[.pointer (some ⟨C, 0, none⟩), .pointer (some ⟨wr.heap.size, 0, none⟩)] w1 (CPost base C gs ge ad (d + 1) t l w) := by
        intro w1 hw1
        have hbw : Below wr.heap.size wr w1 := by rw [hw1]; exact ((Below.refl _ _).alloc (Nat.le_refl _) _).drew
        have hm1 : Mod (TF cA base wr) wr w1 := Mod.of_below hbw
        have hmw : Mod (TF cA base w) w w1 := TF.trans HW.out hm1
        have hnew : w1.heap[wr.heap.size]? = some (.cells #[.int .u8 14, .int .u16 0, .slice (some ⟨sb, so, none⟩) 1 cap, .pointer none, .slice ra t.runes.length rcap, .int .i32 r0, .int .i32 r1, .int .i64 0, .int .i64 0, .int .i64 0, .string ByteArray.empty] 77 (0, 0)) := by rw [hw1]; exact heap_alloc_new wr _
        obtain ⟨hs, hx, hsz, hpl, hbs, hla, hl, hz, hW⟩ := HB.out
        have hS1 := HS.out.mod hmw
        have hwf : WF (d + 1) (starTr t) := ⟨rfl, (by decide : 2 ≤ 14), (by decide : 14 ≤ 19), fun h => absurd h (by decide : ¬ 14 = 3), fun h => absurd h (by decide : ¬ 14 = 4), fun _ _ => ⟨x, hs, hx⟩, fun h => absurd h (by decide : ¬ 14 = 17), fun h => absurd h (by decide : ¬ 18 ≤ 14)⟩
        have hss : size (d + 1) (starTr t) = size d x + 2 := by
          show size d (t.subs.headD Tr.zero) + 2 = _
          rw [hs]; rfl
        have hast : AstAt w1 (d + 1) (starTr t) wr.heap.size :=
          ⟨_, _, _, _, _, _, _, hnew, HR.out.mod hmw, [b], by show 1 = t.subs.length; rw [hs]; rfl, hS1.rd, hS1.off, fun i b' s hb hs' => by
            have hs'' : t.subs[i]? = some s := hs'
            rw [hs] at hs''
            exact hS1.sub i b' s hb hs'', rfl, _, _, rfl, rfl⟩
        have hol := HO.out.len
        have hmul : (k + 1) * size d x = k * size d x + size d x := by rw [Nat.add_mul, Nat.one_mul]
        have hc := c_star (t := starTr t) (tb := wr.heap.size) HI.out hwf (HE.out.mod hmw) (HC.out.below hbw) hast (by rw [hss, List.length_append]; omega) rfl rfl
        refine hc.mono ?_
        rintro e w' ⟨h, hm2⟩
        have hbb : bad (d + 1) (starTr t) = bad d x := bad_sub (by decide : 13 ≤ 14) (by decide : 14 ≤ 17) rfl hs
        refine ⟨?_, TF.trans hmw hm2⟩
        rcases h with ⟨a, hb, q, s, c', h1, h2⟩ | ⟨kk, a, hb⟩
        · refine Or.inl ⟨a, by rw [hbs, ← hbb]; exact hb, q, s, c ++ c', by rw [← List.append_assoc]; exact h1, ?_⟩
          rw [List.length_append] at h2
          refine ((HO.out.cat h2).congr fun z => ?_).more ?_ ?_
          · rw [hla]
            have hst : ∀ y, lang (d + 1) (starTr t) y ↔ Star (lang d x) y := fun y => by
              show Star (lang d (t.subs.headD Tr.zero)) y ↔ _
              rw [hs]; exact Iff.rfl
            constructor
            · rintro ⟨y1, y2, rfl, g1, g2⟩; exact ⟨y1, y2, rfl, g1, (hst _).mp g2⟩
            · rintro ⟨y1, y2, rfl, g1, g2⟩; exact ⟨y1, y2, rfl, g1, (hst _).mpr g2⟩
          · have hp1 : places (d + 1) (starTr t) = places d x := by
              show (t.subs.map (places d)).sum = _
              rw [hs]; simp
            rw [hpl, hp1, Nat.add_mul, Nat.one_mul]
            exact Nat.le_refl _
          · rw [hsz, hss, hmul]; omega
        · refine Or.inr ⟨kk, a, ?_⟩
          rw [hbs, hsz]
          rw [hbb, hss] at hb
          rcases hb with hb | ⟨g1, g2⟩
          · exact Or.inl hb
          · exact Or.inr ⟨g1, by rw [List.length_append] at g2; omega⟩
      have HCL := Lib.hid hcl
      clear hcl
      go_wp2_with fail
      go_region_held3 (fun w' => w'.cell? ⟨tb, 1, none⟩ = some (.int .u16 0) ∧ w'.cell? ⟨tb, 2, none⟩ = some (.slice (some ⟨sb, so, none⟩) 1 cap) ∧ w'.cell? ⟨tb, 3, none⟩ = some (.pointer none) ∧ w'.cell? ⟨tb, 4, none⟩ = some (.slice ra t.runes.length rcap) ∧ w'.cell? ⟨tb, 5, none⟩ = some (.int .i32 r0) ∧ w'.cell? ⟨tb, 6, none⟩ = some (.int .i32 r1)) (go_keep) (fail)
      go_wp2_with fail
      refine (HCL.out _ rfl).mono ?_
      intro e w' hp
      obtain ⟨v, rfl⟩ := hp.ret
      have HP := Lib.hid hp
      clear hp HCL
      go_wp2_with fail
      go_ret
      exact HP.out
end
end Go.Proofs.YtnpchkohfomagaaDoor.Rgw
