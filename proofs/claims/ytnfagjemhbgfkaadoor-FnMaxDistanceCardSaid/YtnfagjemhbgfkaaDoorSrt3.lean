/- sort.pdqsort and sort.Sort over records of any number of cells: they end; the row holds what swaps make of it. -/
import Derived.Test.YtnfagjemhbgfkaaDoorSrt2
import Derived.Deep.LoopGhost
import Derived.Deep.DeepCutAuto
namespace Go.Proofs.YtnfagjemhbgfkaaDoor.Srt
open Go.ChangeShapes Go.WideShapes Go.ChangeAt Go.RowKit Go.Trav Go.Sort
set_option linter.unusedVariables false
set_option linter.unusedSimpArgs false
set_option maxRecDepth 1000000
variable {B : Nat} {R : Array Value → Prop} {T : TypeId} {U : TypeId} {rv : Value} {n : Nat}
set_option maxHeartbeats 8000000 in
theorem pdq_any (X : Meth U rv n B R T) (hn : n ≤ 1000000) :
    ∀ (N a b limit : Nat) (w : World), b - a < N → Row B R T w → a ≤ b → b ≤ n → limit ≤ 100 →
    Calls Tryd.prog 31 #[.iface U rv, .int .i64 a, .int .i64 b, .int .i64 limit] w fun e w' => e = .returned (.tuple #[]) ∧ St B R T w w' := by
  have mL := X.fL
  have mS := X.fS
  have eL := X.eL
  have eS := X.eS
  intro N
  induction N with
  | zero => intro a b _ _ h; exact absurd h (Nat.not_lt_zero _)
  | succ N ih =>
    intro a b limit w hN hr hab hb hlimit
    have HR := Lib.hid (St.refl hr)
    clear hr
    go_enter Tryd.func31, Tryd.ntmps31
    go_wp2_with fail
    go_loopg [1, 2, 3, 8, 9] (b - a) (fun k s1 s2 s3 s8 s9 wr => ∃ (a' b' lim : Nat) (wb wp : Bool), s1 = .int .i64 a' ∧ s2 = .int .i64 b' ∧ s3 = .int .i64 lim ∧ s8 = .bool wb ∧ s9 = .bool wp ∧
      a' ≤ b' ∧ b' ≤ n ∧ b' - a' ≤ k ∧ k ≤ b - a ∧ lim ≤ limit ∧ Hid (St B R T w wr))
    case atStart => exact ⟨a, b, limit, true, true, rfl, rfl, rfl, rfl, rfl, hab, hb, Nat.le_refl _, Nat.le_refl _, Nat.le_refl _, HR⟩
    case round =>
      obtain ⟨a', b', lim, wb, wp, rfl, rfl, rfl, rfl, rfl, hab', hb', hk, hkN, hlim, HW⟩ := hrel
      by_cases h12 : (b' : Int) - (a' : Int) ≤ 12
      · go_wp2_with fail
        refine (ins_any X hn a' b' _ HW.out.row hab' hb').mono ?_
        rintro e w1 ⟨rfl, hw1⟩
        have HS := Lib.hid (HW.out.trans hw1)
        clear hw1
        go_wp2_with fail
        (try simp only [Exit.inBlock, Exit.then])
        refine bodyPost_ret (results_none rfl _ _ _) rfl ?_
        exact ⟨rfl, HS.out⟩
      · by_cases hl0 : lim = 0
        · subst hl0
          go_wp2_with fail
          refine (heap_any X hn a' b' _ HW.out.row (by omega) hb').mono ?_
          rintro e w1 ⟨rfl, hw1⟩
          have HS := Lib.hid (HW.out.trans hw1)
          clear hw1
          go_wp2_with fail
          (try simp only [Exit.inBlock, Exit.then])
          refine bodyPost_ret (results_none rfl _ _ _) rfl ?_
          exact ⟨rfl, HS.out⟩
        · have hl0z : ¬ ((lim : Int) = 0) := by omega
          go_upto_if 35 with fail
          go_cut [3] from 19 (fun s3 wc => ∃ lim' : Nat, s3 = .int .i64 lim' ∧ lim' ≤ limit ∧ Hid (St B R T w wc))
          case first =>
            cases wb
            · go_wp2_with fail
              refine (brk_any X hn a' b' _ HW.out.row hab' hb').mono ?_
              rintro e w1 ⟨rfl, hw1⟩
              have HS := Lib.hid (HW.out.trans hw1)
              clear hw1
              go_wp2_with fail
              go_meet
              case rel => exact ⟨lim - 1, by congr 1; omega, by omega, HS⟩
            · go_wp2_with fail
              go_meet
              case rel => exact ⟨lim, rfl, hlim, HW⟩
          case rest =>
            obtain ⟨lim', rfl, hlim', HW1⟩ := hcut
            go_upto_if 50 with fail
            refine (piv_any X hn a' b' _ HW1.out.row (by omega) hb').mono ?_
            rintro e w2 ⟨⟨p, h, rfl, hp1, hp2⟩, hw2⟩
            have HW2 := Lib.hid (HW1.out.below hw2)
            clear hw2
            go_upto_if 50 with fail
            obtain ⟨pv, rfl⟩ := Int.eq_ofNat_of_zero_le (show 0 ≤ p by omega)
            go_cut [11, 12] from 19 (fun s11 s12 wc => ∃ (pv : Nat) (h : Int), s11 = .int .i64 pv ∧ s12 = .int .i64 h ∧ a' ≤ pv ∧ pv < b' ∧ Hid (St B R T w wc))
            case first =>
              by_cases hh : h = 2
              · subst hh
                go_wp2_with fail
                refine (rev_any X hn a' b' _ HW2.out.row (by omega) hb').mono ?_
                rintro e w3 ⟨rfl, hw3⟩
                have HS := Lib.hid (HW2.out.trans hw3)
                clear hw3
                go_wp2_with fail
                go_meet
                case rel => exact ⟨b' - 1 - (pv - a'), 1, by congr 1; omega, rfl, by omega, by omega, HS⟩
              · go_wp2_with fail
                go_meet
                case rel => exact ⟨pv, h, rfl, rfl, by omega, by omega, HW2⟩
            case rest =>
              obtain ⟨pv', h', rfl, rfl, hp3, hp4, HW3⟩ := hcut
              go_upto_region 15 with fail
              go_cut [12, 68] from 19 (fun s12 s68 wx => ∃ q, s12 = .int .i64 h' ∧ s68 = .bool q ∧ wx = wc)
              case first =>
                by_cases hh1 : h' = 1
                · subst hh1
                  cases wb <;> cases wp <;>
                    (go_wp2_with fail
                     go_meet
                     exact ⟨_, rfl, rfl, rfl⟩)
                · have hh1z : (h' == 1) = false := beq_eq_false_iff_ne.2 hh1
                  cases wb <;> cases wp <;>
                    (go_wp2_with fail
                     go_meet
                     exact ⟨_, rfl, rfl, rfl⟩)
              case rest =>
                obtain ⟨q, rfl, rfl, rfl⟩ := hcut
                go_upto_if 68 with fail
                go_cut [] from 19 (fun wx => Hid (St B R T w wx))
                case first =>
                  cases q
                  · go_wp2_with fail
                    go_meet
                    case rel => exact HW3
                  · go_wp2_with fail
                    refine (par_any X hn a' b' _ HW3.out.row (by omega) hb').mono ?_
                    rintro e w4 ⟨⟨q2, rfl⟩, hw4⟩
                    have HS := Lib.hid (HW3.out.trans hw4)
                    clear hw4
                    cases q2
                    · go_wp2_with fail
                      go_meet
                      case rel => exact HS
                    · go_wp2_with fail
                      (try simp only [Exit.inBlock, Exit.then])
                      refine bodyPost_ret (results_none rfl _ _ _) rfl ?_
                      exact ⟨rfl, HS.out⟩
                case rest =>
                  have HW5 := hcut
                  clear hcut
                  go_upto_region 17 with fail
                  go_cut [82] from 19 (fun s82 wx => ∃ q, s82 = .bool q ∧ Hid (St B R T w wx))
                  case first =>
                    by_cases ha0 : (a' : Int) > 0
                    · go_wp2_with fail
                      refine (X.cL _ _ _ HW5.out.row (by omega) (by omega) (by omega) (by omega)).mono ?_
                      rintro e w4 ⟨⟨q2, rfl⟩, hw4⟩
                      have HS := Lib.hid (HW5.out.below hw4)
                      clear hw4
                      go_wp2_with fail
                      go_meet
                      case rel => exact ⟨_, rfl, HS⟩
                    · have ha0z : decide ((a' : Int) > 0) = false := decide_eq_false (by omega)
                      go_wp2_with fail
                      go_meet
                      case rel => exact ⟨_, rfl, HW5⟩
                  case rest =>
                    obtain ⟨q6, rfl, HW6⟩ := hcut
                    cases q6
                    · go_upto_if 108 with fail
                      refine (part_any X hn a' b' pv' _ HW6.out.row hp3 hp4 hb').mono ?_
                      rintro e w7 ⟨⟨mid, ap, rfl, hm1, hm2⟩, hw7⟩
                      have HW7 := Lib.hid (HW6.out.trans hw7)
                      clear hw7
                      go_upto_if 108 with fail
                      by_cases h4 : (mid : Int) - (a' : Int) < (b' : Int) - (mid : Int)
                      · have hih := ih a' mid lim' w7 (by omega) HW7.out.row (by omega) (by omega) (by omega)
                        have HI := Lib.hid hih
                        clear hih
                        go_wp2_with fail
                        refine HI.out.mono ?_
                        rintro e w8 ⟨rfl, hw8⟩
                        have HW8 := Lib.hid (HW7.out.trans hw8)
                        clear hw8
                        go_wp2_with fail
                        go_roundg (b' - (mid + 1))
                        case measure => omega
                        case rel => exact ⟨mid + 1, b', lim', _, ap, by go_num, rfl, rfl, rfl, rfl, by omega, by omega, Nat.le_refl _, by omega, hlim', HW8⟩
                      · have hih := ih (mid + 1) b' lim' w7 (by omega) HW7.out.row (by omega) (by omega) (by omega)
                        rw [show ((mid + 1 : Nat) : Int) = (mid : Int) + 1 by omega] at hih
                        have HI := Lib.hid hih
                        clear hih
                        go_wp2_with fail
                        refine HI.out.mono ?_
                        rintro e w8 ⟨rfl, hw8⟩
                        have HW8 := Lib.hid (HW7.out.trans hw8)
                        clear hw8
                        go_wp2_with fail
                        go_roundg (mid - a')
                        case measure => omega
                        case rel => exact ⟨a', mid, lim', _, ap, rfl, rfl, rfl, rfl, rfl, by omega, by omega, Nat.le_refl _, by omega, hlim', HW8⟩
                    · go_wp2_with fail
                      refine (peq_any X hn a' b' pv' _ HW6.out.row hp3 hp4 hb').mono ?_
                      rintro e w7 ⟨⟨mid, rfl, hm1, hm2⟩, hw7⟩
                      have HW7 := Lib.hid (HW6.out.trans hw7)
                      clear hw7
                      go_wp2_with fail
                      go_roundg (b' - mid)
                      case measure => omega
                      case rel => exact ⟨mid, b', lim', wb, wp, rfl, rfl, rfl, rfl, rfl, by omega, hb', Nat.le_refl _, by omega, hlim', HW7⟩
set_option maxHeartbeats 2000000 in
theorem sort_any (X : Meth U rv n B R T) (hn : n ≤ 1000000) (gn : FuncId) (fN : ∀ w, (method 250 U rv "Len").run Tryd.prog w = .ok (gn, rv) w) (eN : ∀ args w, (callFunc gn args).run Tryd.prog w = .ok (.enter gn args) w)
    (w : World) (hr : Row B R T w) (cN : Calls Tryd.prog gn #[rv] w fun e w' => e = .returned (.int .i64 n) ∧ Below w.heap.size w w') :
    Calls Tryd.prog 23 #[.iface U rv] w fun e w' => e = .returned (.tuple #[]) ∧ St B R T w w' := by
  have HR := Lib.hid (St.refl hr)
  have HN := Lib.hid cN
  have hbl : ∀ w, Calls Tryd.prog 30 #[.int .u64 (n : Int)] w fun e w' => e = .returned (.int .i64 (Lib.bitLen n)) ∧ w' = w := fun w => Tryd.bits_Len (n : Int) w (by omega) (by omega)
  have hlim : Lib.bitLen n ≤ 62 := Lib.bitLen_le n 62 (by omega) (by omega)
  have hzn : Row B R T w := hr
  clear hr cN
  go_enter Tryd.func23, Tryd.ntmps23
  go_wp2_with fail
  refine HN.out.mono ?_
  rintro e w1 ⟨rfl, hw1⟩
  have HS := Lib.hid (HR.out.below hw1)
  clear hw1
  by_cases h1 : (n : Int) ≤ 1
  · go_wp2_with fail
    (try simp only [Exit.inBlock, Exit.then])
    refine bodyPost_ret (results_none rfl _ _ _) rfl ?_
    exact ⟨rfl, HS.out⟩
  · have wr : IntKind.u64.wrap (n : Int) = n := by simp [IntKind.wrap, IntKind.bits, IntKind.signed]; omega
    go_wp2_with fail
    refine (hbl _).mono ?_
    rintro e w2 ⟨rfl, rfl⟩
    go_wp2_with fail
    refine (pdq_any X hn (n + 1) 0 n (Lib.bitLen n) _ (by omega) HS.out.row (by omega) (Nat.le_refl _) (by omega)).mono ?_
    rintro e w3 ⟨rfl, hw3⟩
    have HS3 := Lib.hid (HS.out.trans hw3)
    clear hw3
    go_wp2_with fail
    go_end0
    exact ⟨rfl, HS3.out⟩
end Go.Proofs.YtnfagjemhbgfkaaDoor.Srt
