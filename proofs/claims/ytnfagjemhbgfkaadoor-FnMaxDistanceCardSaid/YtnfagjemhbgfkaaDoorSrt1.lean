/- sort.partitionEqual, sort.partition, sort.partialInsertionSort over records of any number of cells, as far as that: they end, and the row holds what swaps make of it. PRINTED by wip/tools/gen_srt.py. -/
import Derived.Test.YtnfagjemhbgfkaaDoorSrt0
namespace Go.Proofs.YtnfagjemhbgfkaaDoor.Srt
open Go.ChangeShapes Go.WideShapes Go.ChangeAt Go.RowKit Go.Trav
set_option linter.unusedVariables false
set_option linter.unusedSimpArgs false
set_option maxRecDepth 100000
variable {B : Nat} {R : Array Value → Prop} {T : TypeId} {U : TypeId} {rv : Value} {n : Nat}
/-- An answer that is yes or no. -/
def IsB (e : Ending) : Prop := ∃ q : Bool, e = .returned (.bool q)
set_option maxHeartbeats 4000000 in
theorem peq_any (X : Meth U rv n B R T) (hn : n ≤ 1000000) (a b pivot : Nat) (w : World) (hr : Row B R T w) (hap : a ≤ pivot) (hpb : pivot < b) (hb : b ≤ n) :
    Calls Tryd.prog 43 #[.iface U rv, .int .i64 a, .int .i64 b, .int .i64 pivot] w fun e w' => (∃ m : Nat, e = .returned (.int .i64 m) ∧ a < m ∧ m ≤ b) ∧ St B R T w w' := by
  have mL := X.fL
  have mS := X.fS
  have eL := X.eL
  have eS := X.eS
  have HR := Lib.hid (St.refl hr)
  clear hr
  go_enter Tryd.func43, Tryd.ntmps43
  go_wp2_with fail
  refine (X.cS _ _ _ HR.out.row (by omega) (by omega) (by omega) (by omega)).mono ?_
  rintro e w2 ⟨rfl, hs3⟩
  have HS1 := Lib.hid (HR.out.trans hs3)
  clear hs3
  go_wp2_with fail
  go_loopw [9, 10] (fun vi vj wr => ∃ i j : Nat, vi = .int .i64 i ∧ vj = .int .i64 j ∧ a < i ∧ i ≤ b ∧ a ≤ j ∧ j < b ∧ Hid (St B R T w wr)) (fun vi vj _ => (intOf vj).toNat + 1 - (intOf vi).toNat)
  case atStart => exact ⟨a + 1, b - 1, by go_num, by congr 1; omega, by omega, by omega, by omega, by omega, HS1⟩
  case round =>
    obtain ⟨i, j, rfl, rfl, h1, h2, h3, h4, HW⟩ := hrel
    go_wp2_with fail
    go_loopw [9] (fun vi wr => ∃ i4 : Nat, vi = .int .i64 i4 ∧ a < i4 ∧ i4 ≤ b ∧ i ≤ i4 ∧ Hid (St B R T w wr)) (fun vi _ => b + 1 - (intOf vi).toNat)
    case atStart => exact ⟨i, by go_num, by omega, by omega, Nat.le_refl _, HW⟩
    case round =>
      obtain ⟨i4, rfl, ha7, ha8, hb10, HU6⟩ := hrel
      by_cases hle9 : (i4 : Int) ≤ (j : Int)
      · go_wp2_with fail
        refine (X.cL _ _ _ HU6.out.row (by omega) (by omega) (by omega) (by omega)).mono ?_
        rintro e w12 ⟨⟨q14, rfl⟩, hs13⟩
        have HL11 := Lib.hid (HU6.out.below hs13)
        clear hs13
        cases q14 with
        | true =>
          go_wp2_with fail
          go_loopw [10] (fun vj wr => ∃ j15 : Nat, vj = .int .i64 j15 ∧ a ≤ j15 ∧ j15 ≤ j ∧ Hid (St B R T w wr)) (fun vj _ => (intOf vj).toNat)
          case atStart => exact ⟨j, by go_num, by omega, Nat.le_refl _, HL11⟩
          case round =>
            obtain ⟨j15, rfl, hb17, hb18, HD16⟩ := hrel
            by_cases hle19 : (i4 : Int) ≤ (j15 : Int)
            · go_wp2_with fail
              refine (X.cL _ _ _ HD16.out.row (by omega) (by omega) (by omega) (by omega)).mono ?_
              rintro e w22 ⟨⟨q24, rfl⟩, hs23⟩
              have HL21 := Lib.hid (HD16.out.below hs23)
              clear hs23
              cases q24 with
              | true =>
                go_wp2_with fail
                go_roundw
                case rel => exact ⟨j15 - 1, by congr 1; omega, by omega, by omega, HL21⟩
                case measure => simp [intOf] <;> omega
              | false =>
                have hn25 : ¬ (j15 : Int) < (i4 : Int) := by omega
                go_wp2_with fail
                refine (X.cS _ _ _ HL21.out.row (by omega) (by omega) (by omega) (by omega)).mono ?_
                rintro e w27 ⟨rfl, hs28⟩
                have HS26 := Lib.hid (HL21.out.trans hs28)
                clear hs28
                go_wp2_with fail
                go_roundw
                case rel => exact ⟨i4 + 1, j15 - 1, by go_num, by congr 1; omega, by omega, by omega, by omega, by omega, HS26⟩
                case measure => simp [intOf] <;> omega
            · have hn29 : (j15 : Int) < (i4 : Int) := by omega
              go_wp2_with fail
              go_ret
              exact ⟨⟨_, rfl, by omega, by omega⟩, HD16.out⟩
        | false =>
          go_wp2_with fail
          go_roundw
          case rel => exact ⟨i4 + 1, by go_num, by omega, by omega, by omega, HL11⟩
          case measure => simp [intOf] <;> omega
      · skip
        go_wp2_with fail
        go_loopw [10] (fun vj wr => ∃ j30 : Nat, vj = .int .i64 j30 ∧ a ≤ j30 ∧ j30 ≤ j ∧ Hid (St B R T w wr)) (fun vj _ => (intOf vj).toNat)
        case atStart => exact ⟨j, by go_num, by omega, Nat.le_refl _, HU6⟩
        case round =>
          obtain ⟨j30, rfl, hb32, hb33, HD31⟩ := hrel
          by_cases hle34 : (i4 : Int) ≤ (j30 : Int)
          · exfalso; omega
          · have hn36 : (j30 : Int) < (i4 : Int) := by omega
            go_wp2_with fail
            go_ret
            exact ⟨⟨_, rfl, by omega, by omega⟩, HD31.out⟩
set_option maxHeartbeats 4000000 in
theorem part_any (X : Meth U rv n B R T) (hn : n ≤ 1000000) (a b pivot : Nat) (w : World) (hr : Row B R T w) (hap : a ≤ pivot) (hpb : pivot < b) (hb : b ≤ n) :
    Calls Tryd.prog 44 #[.iface U rv, .int .i64 a, .int .i64 b, .int .i64 pivot] w fun e w' => (∃ (m : Nat) (q : Bool), e = .returned (.tuple #[.int .i64 m, .bool q]) ∧ a ≤ m ∧ m < b) ∧ St B R T w w' := by
  have mL := X.fL
  have mS := X.fS
  have eL := X.eL
  have eS := X.eS
  have HR := Lib.hid (St.refl hr)
  clear hr
  go_enter Tryd.func44, Tryd.ntmps44
  go_wp2_with fail
  refine (X.cS _ _ _ HR.out.row (by omega) (by omega) (by omega) (by omega)).mono ?_
  rintro e w38 ⟨rfl, hs39⟩
  have HS37 := Lib.hid (HR.out.trans hs39)
  clear hs39
  go_wp2_with fail
  obtain ⟨i, hi⟩ : ∃ i : Nat, i = a + 1 := ⟨_, rfl⟩
  obtain ⟨j, hj⟩ : ∃ j : Nat, j = b - 1 := ⟨_, rfl⟩
  rw [show ((a : Int) + 1) = (i : Int) by omega, show ((b : Int) - 1) = (j : Int) by omega]
  have h1 : a < i := by omega
  have h2 : i ≤ b := by omega
  have h3 : a ≤ j := by omega
  have h4 : j < b := by omega
  clear hi hj
  go_loopw [10] (fun vi wr => ∃ i40 : Nat, vi = .int .i64 i40 ∧ a < i40 ∧ i40 ≤ b ∧ i ≤ i40 ∧ Hid (St B R T w wr)) (fun vi _ => b + 1 - (intOf vi).toNat)
  case atStart => exact ⟨i, by go_num, by omega, by omega, Nat.le_refl _, HS37⟩
  case round =>
    obtain ⟨i40, rfl, ha43, ha44, hb46, HU42⟩ := hrel
    by_cases hle45 : (i40 : Int) ≤ (j : Int)
    · go_wp2_with fail
      refine (X.cL _ _ _ HU42.out.row (by omega) (by omega) (by omega) (by omega)).mono ?_
      rintro e w48 ⟨⟨q50, rfl⟩, hs49⟩
      have HL47 := Lib.hid (HU42.out.below hs49)
      clear hs49
      cases q50 with
      | true =>
        go_wp2_with fail
        go_roundw
        case rel => exact ⟨i40 + 1, by go_num, by omega, by omega, by omega, HL47⟩
        case measure => simp [intOf] <;> omega
      | false =>
        go_wp2_with fail
        go_loopw [11] (fun vj wr => ∃ j51 : Nat, vj = .int .i64 j51 ∧ a ≤ j51 ∧ j51 ≤ j ∧ Hid (St B R T w wr)) (fun vj _ => (intOf vj).toNat)
        case atStart => exact ⟨j, by go_num, by omega, Nat.le_refl _, HL47⟩
        case round =>
          obtain ⟨j51, rfl, hb53, hb54, HD52⟩ := hrel
          by_cases hle55 : (i40 : Int) ≤ (j51 : Int)
          · go_wp2_with fail
            refine (X.cL _ _ _ HD52.out.row (by omega) (by omega) (by omega) (by omega)).mono ?_
            rintro e w58 ⟨⟨q60, rfl⟩, hs59⟩
            have HL57 := Lib.hid (HD52.out.below hs59)
            clear hs59
            cases q60 with
            | true =>
              have hn61 : ¬ (j51 : Int) < (i40 : Int) := by omega
              go_wp2_with fail
              refine (X.cS _ _ _ HL57.out.row (by omega) (by omega) (by omega) (by omega)).mono ?_
              rintro e w63 ⟨rfl, hs64⟩
              have HS62 := Lib.hid (HL57.out.trans hs64)
              clear hs64
              go_wp2_with fail
              obtain ⟨I0, hI0⟩ : ∃ I0 : Nat, I0 = i40 + 1 := ⟨_, rfl⟩
              obtain ⟨J0, hJ0⟩ : ∃ J0 : Nat, J0 = j51 - 1 := ⟨_, rfl⟩
              rw [show ((i40 : Int) + 1) = (I0 : Int) by omega, show ((j51 : Int) - 1) = (J0 : Int) by omega]
              try rw [decide_eq_false (show ¬ (j51 : Int) < (i40 : Int) by omega)]
              try rw [decide_eq_false (show ¬ j51 < i40 by omega)]
              have g1 : a < I0 := by omega
              have g2 : I0 ≤ b := by omega
              have g3 : a ≤ J0 := by omega
              have g4 : J0 < b := by omega
              clear hI0 hJ0
              go_loopw [10, 11] (fun vi vj wr => ∃ i j : Nat, vi = .int .i64 i ∧ vj = .int .i64 j ∧ a < i ∧ i ≤ b ∧ a ≤ j ∧ j < b ∧ Hid (St B R T w wr)) (fun vi vj _ => (intOf vj).toNat + 1 - (intOf vi).toNat)
              case atStart => exact ⟨I0, J0, rfl, rfl, g1, g2, g3, g4, HS62⟩
              case round =>
                clear g1 g2 g3 g4
                obtain ⟨i, j, rfl, rfl, h1, h2, h3, h4, HW⟩ := hrel
                go_wp2_with fail
                go_loopw [10] (fun vi wr => ∃ i65 : Nat, vi = .int .i64 i65 ∧ a < i65 ∧ i65 ≤ b ∧ i ≤ i65 ∧ Hid (St B R T w wr)) (fun vi _ => b + 1 - (intOf vi).toNat)
                case atStart => exact ⟨i, by go_num, by omega, by omega, Nat.le_refl _, HW⟩
                case round =>
                  obtain ⟨i65, rfl, ha68, ha69, hb71, HU67⟩ := hrel
                  by_cases hle70 : (i65 : Int) ≤ (j : Int)
                  · go_wp2_with fail
                    refine (X.cL _ _ _ HU67.out.row (by omega) (by omega) (by omega) (by omega)).mono ?_
                    rintro e w73 ⟨⟨q75, rfl⟩, hs74⟩
                    have HL72 := Lib.hid (HU67.out.below hs74)
                    clear hs74
                    cases q75 with
                    | true =>
                      go_wp2_with fail
                      go_roundw
                      case rel => exact ⟨i65 + 1, by go_num, by omega, by omega, by omega, HL72⟩
                      case measure => simp [intOf] <;> omega
                    | false =>
                      go_wp2_with fail
                      go_loopw [11] (fun vj wr => ∃ j76 : Nat, vj = .int .i64 j76 ∧ a ≤ j76 ∧ j76 ≤ j ∧ Hid (St B R T w wr)) (fun vj _ => (intOf vj).toNat)
                      case atStart => exact ⟨j, by go_num, by omega, Nat.le_refl _, HL72⟩
                      case round =>
                        obtain ⟨j76, rfl, hb78, hb79, HD77⟩ := hrel
                        by_cases hle80 : (i65 : Int) ≤ (j76 : Int)
                        · go_wp2_with fail
                          refine (X.cL _ _ _ HD77.out.row (by omega) (by omega) (by omega) (by omega)).mono ?_
                          rintro e w83 ⟨⟨q85, rfl⟩, hs84⟩
                          have HL82 := Lib.hid (HD77.out.below hs84)
                          clear hs84
                          cases q85 with
                          | true =>
                            have hn86 : ¬ (j76 : Int) < (i65 : Int) := by omega
                            go_wp2_with fail
                            refine (X.cS _ _ _ HL82.out.row (by omega) (by omega) (by omega) (by omega)).mono ?_
                            rintro e w88 ⟨rfl, hs89⟩
                            have HS87 := Lib.hid (HL82.out.trans hs89)
                            clear hs89
                            go_wp2_with fail
                            go_roundw
                            case rel => exact ⟨i65 + 1, j76 - 1, by go_num, by congr 1; omega, by omega, by omega, by omega, by omega, HS87⟩
                            case measure => simp [intOf] <;> omega
                          | false =>
                            go_wp2_with fail
                            go_roundw
                            case rel => exact ⟨j76 - 1, by congr 1; omega, by omega, by omega, HL82⟩
                            case measure => simp [intOf] <;> omega
                        · have hn90 : (j76 : Int) < (i65 : Int) := by omega
                          go_wp2_with fail
                          refine (X.cS _ _ _ HD77.out.row (by omega) (by omega) (by omega) (by omega)).mono ?_
                          rintro e w92 ⟨rfl, hs93⟩
                          have HS91 := Lib.hid (HD77.out.trans hs93)
                          clear hs93
                          go_wp2_with fail
                          go_ret2
                          exact ⟨⟨_, _, rfl, by omega, by omega⟩, HS91.out⟩
                  · skip
                    go_wp2_with fail
                    go_loopw [11] (fun vj wr => ∃ j94 : Nat, vj = .int .i64 j94 ∧ a ≤ j94 ∧ j94 ≤ j ∧ Hid (St B R T w wr)) (fun vj _ => (intOf vj).toNat)
                    case atStart => exact ⟨j, by go_num, by omega, Nat.le_refl _, HU67⟩
                    case round =>
                      obtain ⟨j94, rfl, hb96, hb97, HD95⟩ := hrel
                      by_cases hle98 : (i65 : Int) ≤ (j94 : Int)
                      · exfalso; omega
                      · have hn100 : (j94 : Int) < (i65 : Int) := by omega
                        go_wp2_with fail
                        refine (X.cS _ _ _ HD95.out.row (by omega) (by omega) (by omega) (by omega)).mono ?_
                        rintro e w102 ⟨rfl, hs103⟩
                        have HS101 := Lib.hid (HD95.out.trans hs103)
                        clear hs103
                        go_wp2_with fail
                        go_ret2
                        exact ⟨⟨_, _, rfl, by omega, by omega⟩, HS101.out⟩
            | false =>
              go_wp2_with fail
              go_roundw
              case rel => exact ⟨j51 - 1, by congr 1; omega, by omega, by omega, HL57⟩
              case measure => simp [intOf] <;> omega
          · have hn104 : (j51 : Int) < (i40 : Int) := by omega
            go_wp2_with fail
            refine (X.cS _ _ _ HD52.out.row (by omega) (by omega) (by omega) (by omega)).mono ?_
            rintro e w106 ⟨rfl, hs107⟩
            have HS105 := Lib.hid (HD52.out.trans hs107)
            clear hs107
            go_wp2_with fail
            go_ret2
            exact ⟨⟨_, _, rfl, by omega, by omega⟩, HS105.out⟩
    · skip
      go_wp2_with fail
      go_loopw [11] (fun vj wr => ∃ j108 : Nat, vj = .int .i64 j108 ∧ a ≤ j108 ∧ j108 ≤ j ∧ Hid (St B R T w wr)) (fun vj _ => (intOf vj).toNat)
      case atStart => exact ⟨j, by go_num, by omega, Nat.le_refl _, HU42⟩
      case round =>
        obtain ⟨j108, rfl, hb110, hb111, HD109⟩ := hrel
        by_cases hle112 : (i40 : Int) ≤ (j108 : Int)
        · exfalso; omega
        · have hn114 : (j108 : Int) < (i40 : Int) := by omega
          go_wp2_with fail
          refine (X.cS _ _ _ HD109.out.row (by omega) (by omega) (by omega) (by omega)).mono ?_
          rintro e w116 ⟨rfl, hs117⟩
          have HS115 := Lib.hid (HD109.out.trans hs117)
          clear hs117
          go_wp2_with fail
          go_ret2
          exact ⟨⟨_, _, rfl, by omega, by omega⟩, HS115.out⟩
set_option maxHeartbeats 4000000 in
theorem par_any (X : Meth U rv n B R T) (hn : n ≤ 1000000) (a b : Nat) (w : World) (hr : Row B R T w) (hab : a < b) (hb : b ≤ n) :
    Calls Tryd.prog 42 #[.iface U rv, .int .i64 a, .int .i64 b] w fun e w' => (IsB e) ∧ St B R T w w' := by
  have mL := X.fL
  have mS := X.fS
  have eL := X.eL
  have eS := X.eS
  have HR := Lib.hid (St.refl hr)
  clear hr
  go_enter Tryd.func42, Tryd.ntmps42
  go_wp2_with fail
  go_loopw [7, 8] (fun vi vs wr => ∃ i s : Nat, vi = .int .i64 i ∧ vs = .int .i64 s ∧ s ≤ 5 ∧ a < i ∧ i ≤ b ∧ Hid (St B R T w wr)) (fun _ vs _ => 5 - (intOf vs).toNat)
  case atStart => exact ⟨a + 1, 0, by go_num, rfl, by omega, by omega, by omega, HR⟩
  case round =>
    obtain ⟨i, s, rfl, rfl, h1, h2, h3, HW⟩ := hrel
    by_cases hs : (s : Int) < 5
    · go_wp2_with fail
      go_loopw [7] (fun vi wr => ∃ k : Nat, vi = .int .i64 k ∧ a < k ∧ k ≤ b ∧ Hid (St B R T w wr)) (fun vi _ => b - (intOf vi).toNat)
      case atStart => exact ⟨i, rfl, h2, h3, HW⟩
      case round =>
        obtain ⟨k, rfl, h4, h5, HW2⟩ := hrel
        by_cases hk : (k : Int) < (b : Int)
        · go_wp2_with fail
          refine (X.cL _ _ _ HW2.out.row (by omega) (by omega) (by omega) (by omega)).mono ?_
          rintro e w119 ⟨⟨q121, rfl⟩, hs120⟩
          have HL118 := Lib.hid (HW2.out.below hs120)
          clear hs120
          cases q121 with
          | true =>
            have hkn : ((k : Int) == (b : Int)) = false := beq_eq_false_iff_ne.2 (by omega)
            by_cases h50 : (b : Int) - (a : Int) < 50
            · go_wp2_with fail
              go_ret
              exact ⟨⟨_, rfl⟩, HL118.out⟩
            · by_cases hka : (2 : Int) ≤ (k : Int) - (a : Int)
              · by_cases hbk : (2 : Int) ≤ (b : Int) - (k : Int)
                · go_wp2_with fail
                  refine (X.cS _ _ _ HL118.out.row (by omega) (by omega) (by omega) (by omega)).mono ?_
                  rintro e w123 ⟨rfl, hs124⟩
                  have HS122 := Lib.hid (HL118.out.trans hs124)
                  clear hs124
                  go_wp2_with fail
                  go_loopw [9] (fun vj wr => ∃ j : Nat, vj = .int .i64 j ∧ j < k ∧ Hid (St B R T w wr)) (fun vj _ => (intOf vj).toNat)
                  case atStart => exact ⟨k - 1, by congr 1; omega, by omega, HS122⟩
                  case round =>
                    obtain ⟨j, rfl, hj1, HP125⟩ := hrel
                    by_cases hj0 : (1 : Int) ≤ (j : Int)
                    · go_wp2_with fail
                      refine (X.cL _ _ _ HP125.out.row (by omega) (by omega) (by omega) (by omega)).mono ?_
                      rintro e w127 ⟨⟨q129, rfl⟩, hs128⟩
                      have HL126 := Lib.hid (HP125.out.below hs128)
                      clear hs128
                      cases q129 with
                      | true =>
                        go_wp2_with fail
                        refine (X.cS _ _ _ HL126.out.row (by omega) (by omega) (by omega) (by omega)).mono ?_
                        rintro e w131 ⟨rfl, hs132⟩
                        have HS130 := Lib.hid (HL126.out.trans hs132)
                        clear hs132
                        go_wp2_with fail
                        go_roundw
                        case rel => exact ⟨j - 1, by congr 1; omega, by omega, HS130⟩
                        case measure => simp [intOf] <;> omega
                      | false =>
                        go_wp2_with fail
                        go_loopw [10] (fun vj wr => ∃ u : Nat, vj = .int .i64 u ∧ k < u ∧ u ≤ b ∧ Hid (St B R T w wr)) (fun vj _ => b - (intOf vj).toNat)
                        case atStart => exact ⟨k + 1, by go_num, by omega, by omega, HL126⟩
                        case round =>
                          obtain ⟨u, rfl, hu1, hu2, HP133⟩ := hrel
                          by_cases hub : (u : Int) < (b : Int)
                          · go_wp2_with fail
                            refine (X.cL _ _ _ HP133.out.row (by omega) (by omega) (by omega) (by omega)).mono ?_
                            rintro e w135 ⟨⟨q137, rfl⟩, hs136⟩
                            have HL134 := Lib.hid (HP133.out.below hs136)
                            clear hs136
                            cases q137 with
                            | true =>
                              go_wp2_with fail
                              refine (X.cS _ _ _ HL134.out.row (by omega) (by omega) (by omega) (by omega)).mono ?_
                              rintro e w139 ⟨rfl, hs140⟩
                              have HS138 := Lib.hid (HL134.out.trans hs140)
                              clear hs140
                              go_wp2_with fail
                              go_roundw
                              case rel => exact ⟨u + 1, by go_num, by omega, by omega, HS138⟩
                              case measure => simp [intOf] <;> omega
                            | false =>
                              go_wp2_with fail
                              go_roundw
                              case rel => exact ⟨k, s + 1, rfl, by go_num, by omega, by omega, by omega, HL134⟩
                              case measure => simp [intOf] <;> omega
                          · go_wp2_with fail
                            go_roundw
                            case rel => exact ⟨k, s + 1, rfl, by go_num, by omega, by omega, by omega, HP133⟩
                            case measure => simp [intOf] <;> omega
                    · skip
                      go_wp2_with fail
                      go_loopw [10] (fun vj wr => ∃ u : Nat, vj = .int .i64 u ∧ k < u ∧ u ≤ b ∧ Hid (St B R T w wr)) (fun vj _ => b - (intOf vj).toNat)
                      case atStart => exact ⟨k + 1, by go_num, by omega, by omega, HP125⟩
                      case round =>
                        obtain ⟨u, rfl, hu1, hu2, HP141⟩ := hrel
                        by_cases hub : (u : Int) < (b : Int)
                        · go_wp2_with fail
                          refine (X.cL _ _ _ HP141.out.row (by omega) (by omega) (by omega) (by omega)).mono ?_
                          rintro e w143 ⟨⟨q145, rfl⟩, hs144⟩
                          have HL142 := Lib.hid (HP141.out.below hs144)
                          clear hs144
                          cases q145 with
                          | true =>
                            go_wp2_with fail
                            refine (X.cS _ _ _ HL142.out.row (by omega) (by omega) (by omega) (by omega)).mono ?_
                            rintro e w147 ⟨rfl, hs148⟩
                            have HS146 := Lib.hid (HL142.out.trans hs148)
                            clear hs148
                            go_wp2_with fail
                            go_roundw
                            case rel => exact ⟨u + 1, by go_num, by omega, by omega, HS146⟩
                            case measure => simp [intOf] <;> omega
                          | false =>
                            go_wp2_with fail
                            go_roundw
                            case rel => exact ⟨k, s + 1, rfl, by go_num, by omega, by omega, by omega, HL142⟩
                            case measure => simp [intOf] <;> omega
                        · go_wp2_with fail
                          go_roundw
                          case rel => exact ⟨k, s + 1, rfl, by go_num, by omega, by omega, by omega, HP141⟩
                          case measure => simp [intOf] <;> omega
                · go_wp2_with fail
                  refine (X.cS _ _ _ HL118.out.row (by omega) (by omega) (by omega) (by omega)).mono ?_
                  rintro e w150 ⟨rfl, hs151⟩
                  have HS149 := Lib.hid (HL118.out.trans hs151)
                  clear hs151
                  go_wp2_with fail
                  go_loopw [9] (fun vj wr => ∃ j : Nat, vj = .int .i64 j ∧ j < k ∧ Hid (St B R T w wr)) (fun vj _ => (intOf vj).toNat)
                  case atStart => exact ⟨k - 1, by congr 1; omega, by omega, HS149⟩
                  case round =>
                    obtain ⟨j, rfl, hj1, HP152⟩ := hrel
                    by_cases hj0 : (1 : Int) ≤ (j : Int)
                    · go_wp2_with fail
                      refine (X.cL _ _ _ HP152.out.row (by omega) (by omega) (by omega) (by omega)).mono ?_
                      rintro e w154 ⟨⟨q156, rfl⟩, hs155⟩
                      have HL153 := Lib.hid (HP152.out.below hs155)
                      clear hs155
                      cases q156 with
                      | true =>
                        go_wp2_with fail
                        refine (X.cS _ _ _ HL153.out.row (by omega) (by omega) (by omega) (by omega)).mono ?_
                        rintro e w158 ⟨rfl, hs159⟩
                        have HS157 := Lib.hid (HL153.out.trans hs159)
                        clear hs159
                        go_wp2_with fail
                        go_roundw
                        case rel => exact ⟨j - 1, by congr 1; omega, by omega, HS157⟩
                        case measure => simp [intOf] <;> omega
                      | false =>
                        go_wp2_with fail
                        go_roundw
                        case rel => exact ⟨k, s + 1, rfl, by go_num, by omega, by omega, by omega, HL153⟩
                        case measure => simp [intOf] <;> omega
                    · skip
                      go_wp2_with fail
                      go_roundw
                      case rel => exact ⟨k, s + 1, rfl, by go_num, by omega, by omega, by omega, HP152⟩
                      case measure => simp [intOf] <;> omega
              · by_cases hbk : (2 : Int) ≤ (b : Int) - (k : Int)
                · go_wp2_with fail
                  refine (X.cS _ _ _ HL118.out.row (by omega) (by omega) (by omega) (by omega)).mono ?_
                  rintro e w161 ⟨rfl, hs162⟩
                  have HS160 := Lib.hid (HL118.out.trans hs162)
                  clear hs162
                  go_wp2_with fail
                  go_loopw [10] (fun vj wr => ∃ u : Nat, vj = .int .i64 u ∧ k < u ∧ u ≤ b ∧ Hid (St B R T w wr)) (fun vj _ => b - (intOf vj).toNat)
                  case atStart => exact ⟨k + 1, by go_num, by omega, by omega, HS160⟩
                  case round =>
                    obtain ⟨u, rfl, hu1, hu2, HP163⟩ := hrel
                    by_cases hub : (u : Int) < (b : Int)
                    · go_wp2_with fail
                      refine (X.cL _ _ _ HP163.out.row (by omega) (by omega) (by omega) (by omega)).mono ?_
                      rintro e w165 ⟨⟨q167, rfl⟩, hs166⟩
                      have HL164 := Lib.hid (HP163.out.below hs166)
                      clear hs166
                      cases q167 with
                      | true =>
                        go_wp2_with fail
                        refine (X.cS _ _ _ HL164.out.row (by omega) (by omega) (by omega) (by omega)).mono ?_
                        rintro e w169 ⟨rfl, hs170⟩
                        have HS168 := Lib.hid (HL164.out.trans hs170)
                        clear hs170
                        go_wp2_with fail
                        go_roundw
                        case rel => exact ⟨u + 1, by go_num, by omega, by omega, HS168⟩
                        case measure => simp [intOf] <;> omega
                      | false =>
                        go_wp2_with fail
                        go_roundw
                        case rel => exact ⟨k, s + 1, rfl, by go_num, by omega, by omega, by omega, HL164⟩
                        case measure => simp [intOf] <;> omega
                    · go_wp2_with fail
                      go_roundw
                      case rel => exact ⟨k, s + 1, rfl, by go_num, by omega, by omega, by omega, HP163⟩
                      case measure => simp [intOf] <;> omega
                · exfalso; omega
          | false =>
            go_wp2_with fail
            go_roundw
            case rel => exact ⟨k + 1, by go_num, by omega, by omega, HL118⟩
            case measure => simp [intOf] <;> omega
        · have hkb : ((k : Int) == (b : Int)) = true := beq_iff_eq.2 (by omega)
          go_wp2_with fail
          go_ret
          exact ⟨⟨_, rfl⟩, HW2.out⟩
    · go_wp2_with fail
      go_ret
      exact ⟨⟨_, rfl⟩, HW.out⟩
end Go.Proofs.YtnfagjemhbgfkaaDoor.Srt
