/- FnStyle: a part of the proof (Mq); in it lines that print.sh printed, those that are used. -/
import Derived.Test.YtlglijnaeaonpaaGreatDoorMa
import Derived.Test.YtlglijnaeaonpaaGreatDoorMp
import Derived.Test.YtlglijnaeaonpaaGreatDoorMf
section
set_option maxHeartbeats 8000000
set_option maxRecDepth 100000
set_option linter.unusedVariables false
set_option linter.unusedSimpArgs false
namespace Go.Proofs.YtlglijnaeaonpaaGreatDoor.PFnStyle
open Go.RowKit Go.Proofs.YtlglijnaeaonpaaGreatDoorW.PrintWords Go.Proofs.YtlglijnaeaonpaaGreatDoorW.PrintLast Go.Proofs.YtlglijnaeaonpaaGreatDoorW.PrintMore
attribute [local go_sem] max2_int min2_int max_two min_two max_three min_three max_four min_four
def spec_isProperty.l0 : Nat → List Int → List Int → Int → Int → Option (Bool)
 | 0,_,_,_,_ => none
 | k + 1,x0,x5,x6,x7 => if x7 < x6 then (if 0 ≤ x7 then (if x7 < (x5.length : Int) then (if (rd x5 x7) ≥ 97 then (if ((rd x5 x7) ≤ 122) then (spec_isProperty.l0 k x0 x5 x6 (wrap64 (x7 + 1))) else (if (rd x5 x7) = 45 then (if x7 = 0 then (some false) else (if x7 = (wrap64 ((x0.length : Int) - 1)) then (some false) else (if 0 ≤ (wrap64 (x7 - 1)) then (if (wrap64 (x7 - 1)) < (x0.length : Int) then (if (rd x0 (wrap64 (x7 - 1))) = 45 then (some false) else (spec_isProperty.l0 k x0 x5 x6 (wrap64 (x7 + 1)))) else (none)) else (none)))) else (some false))) else (if (rd x5 x7) = 45 then (if x7 = 0 then (some false) else (if x7 = (wrap64 ((x0.length : Int) - 1)) then (some false) else (if 0 ≤ (wrap64 (x7 - 1)) then (if (wrap64 (x7 - 1)) < (x0.length : Int) then (if (rd x0 (wrap64 (x7 - 1))) = 45 then (some false) else (spec_isProperty.l0 k x0 x5 x6 (wrap64 (x7 + 1)))) else (none)) else (none)))) else (some false))) else (none)) else (none)) else (if (x0.length : Int) > 0 then (some (decide ((x0.length : Int) ≤ 20))) else (some false))
def spec_isProperty.f (k : Nat) (l0 : List Int) : Option (Bool):=spec_isProperty.l0 k l0 l0 (l0.length : Int) 0
theorem spec_isProperty.calls (k : Nat) (A0 : Option Addr) (c0 : Nat) (l0 : List Int) (r : Bool) (w : World) (hr0 : Kd.C (Kd.int .u8) w A0 l0.length l0) (hc0 : l0.length ≤ c0) (h : spec_isProperty.f k l0 = some r) :
  Calls Tryz.prog 30 #[.slice A0 l0.length c0] w fun e w' => e = .returned (.bool r) ∧ Drawn0 w w':=by
 have HR0:=Aside0.mk hr0
 have HC0:=Aside0.mk hc0
 clear hr0 hc0
 have H : (spec_isProperty.l0 k l0 l0 (l0.length : Int) 0) = some r:=h
 clear h
 have H':=Aside0.mk H
 clear H
 go_enter Tryz.func30,Tryz.ntmps30
 go_wp2
 go_loopg [7] k (fun kq v7 w' => ∃ (x7_1 : Int),v7 = .int .i64 x7_1 ∧ Aside0 (spec_isProperty.l0 kq l0 l0 (l0.length : Int) x7_1 = some r) ∧ Aside0 (kq ≤ k) ∧ Drawn0 w w')
 case atStart => exact ⟨(0),(by first|rfl|(simp;done)|(simp [*];done)),H',⟨Nat.le_refl _⟩,by repeat (first|exact Drawn0.refl _|apply Drawn0.step)⟩
 case round =>
  clear H'
  obtain ⟨x7_1,rfl,HA,HK1,⟨m1,rfl⟩⟩:=hrel
  cases gk with
  | zero => exact absurd HA.out (by simp [spec_isProperty.l0])
  | succ k1 =>
   have H:=HA.out
   clear HA
   simp only [spec_isProperty.l0] at H
   by_cases c2 : x7_1 < (l0.length : Int)
   ·rw [if_pos c2] at H
    have c2b0 : decide (x7_1 < (l0.length : Int)) = true:=decide_eq_true c2
    clear c2
    by_cases c3 : 0 ≤ x7_1
    ·rw [if_pos c3] at H
     have c3b0 : decide (0 ≤ x7_1) = true:=decide_eq_true c3
     clear c3
     by_cases c4 : x7_1 < (l0.length : Int)
     ·rw [if_pos c4] at H
      have c4b0 : decide (x7_1 < (l0.length : Int)) = true:=decide_eq_true c4
      clear c4
      by_cases c5 : (rd l0 x7_1) ≥ 97
      ·rw [if_pos c5] at H
       have c5b0 : decide (97 ≤ (rd l0 x7_1)) = true:=decide_eq_true c5
       clear c5
       by_cases c6 : ((rd l0 x7_1) ≤ 122)
       ·rw [if_pos c6] at H
        have c6b0 : decide ((rd l0 x7_1) ≤ 122) = true:=decide_eq_true c6
        clear c6
        have H':=Aside0.mk H
        clear H
        have p504 : 0 ≤ (x7_1 : Int):=of_decide_eq_true (by first|(with_reducible assumption)|assumption)
        have q504 : x7_1 < (l0.length : Int):=of_decide_eq_true (by first|(with_reducible assumption)|assumption)
        obtain ⟨ad504,e504,hx504_0⟩:=Kd.at_int HR0.out x7_1 p504 q504
        cases e504
        replace p504:=eq_true p504
        replace q504:=eq_true q504
        go_wp2
        go_roundg k1
        case measure => have:=HK1.out;omega
        case rel => exact ⟨(wrap64 (x7_1 + 1)),(by first|rfl|(simp;done)|(simp [*];done)),H',⟨by have:=HK1.out;omega⟩,by repeat (first|exact Drawn0.refl _|apply Drawn0.step)⟩
       ·rw [if_neg c6] at H
        have c6b0 : decide ((rd l0 x7_1) ≤ 122) = false:=decide_eq_false c6
        clear c6
        by_cases c7 : (rd l0 x7_1) = 45
        ·rw [if_pos c7] at H
         have c7b0 : ((rd l0 x7_1) == 45) = true:=beq_iff_eq.mpr c7
         have c7b1 : ((rd l0 x7_1) != 45) = false:=bne_eq_false_iff_eq.mpr c7
         clear c7
         by_cases c8 : x7_1 = 0
         ·rw [if_pos c8] at H
          have c8b0 : (x7_1 == 0) = true:=beq_iff_eq.mpr c8
          have c8b1 : (x7_1 != 0) = false:=bne_eq_false_iff_eq.mpr c8
          clear c8
          obtain rfl:=Option.some.inj H
          have p504 : 0 ≤ (x7_1 : Int):=of_decide_eq_true (by first|(with_reducible assumption)|assumption)
          have q504 : x7_1 < (l0.length : Int):=of_decide_eq_true (by first|(with_reducible assumption)|assumption)
          obtain ⟨ad504,e504,hx504_0⟩:=Kd.at_int HR0.out x7_1 p504 q504
          cases e504
          replace p504:=eq_true p504
          replace q504:=eq_true q504
          go_wp2
          go_ret
          exact ⟨by first|rfl|(simp;done)|(simp [*];done),by repeat (first|exact Drawn0.refl _|apply Drawn0.step)⟩
         ·rw [if_neg c8] at H
          have c8b0 : (x7_1 == 0) = false:=beq_eq_false_iff_ne.mpr c8
          have c8b1 : (x7_1 != 0) = true:=bne_iff_ne.mpr c8
          by_cases c9 : x7_1 = (wrap64 ((l0.length : Int) - 1))
          ·rw [if_pos c9] at H
           have c9b0 : (x7_1 == (wrap64 ((l0.length : Int) - 1))) = true:=beq_iff_eq.mpr c9
           have c9b1 : (x7_1 != (wrap64 ((l0.length : Int) - 1))) = false:=bne_eq_false_iff_eq.mpr c9
           clear c9
           obtain rfl:=Option.some.inj H
           have p504 : 0 ≤ (x7_1 : Int):=of_decide_eq_true (by first|(with_reducible assumption)|assumption)
           have q504 : x7_1 < (l0.length : Int):=of_decide_eq_true (by first|(with_reducible assumption)|assumption)
           obtain ⟨ad504,e504,hx504_0⟩:=Kd.at_int HR0.out x7_1 p504 q504
           cases e504
           replace p504:=eq_true p504
           replace q504:=eq_true q504
           go_wp2
           go_ret
           exact ⟨by first|rfl|(simp;done)|(simp [*];done),by repeat (first|exact Drawn0.refl _|apply Drawn0.step)⟩
          ·rw [if_neg c9] at H
           have c9b0 : (x7_1 == (wrap64 ((l0.length : Int) - 1))) = false:=beq_eq_false_iff_ne.mpr c9
           have c9b1 : (x7_1 != (wrap64 ((l0.length : Int) - 1))) = true:=bne_iff_ne.mpr c9
           obtain ⟨ji10,hji10⟩ : ∃ j_ : Int,(wrap64 (x7_1 - 1)) = j_:=⟨_,rfl⟩
           replace H : (if 0 ≤ (ji10) then (if (ji10) < (l0.length : Int) then (if (rd l0 (ji10)) = 45 then (some false) else (spec_isProperty.l0 k1 l0 l0 (l0.length : Int) (wrap64 (x7_1 + 1)))) else (none)) else (none)) = some r:=by first|(rw [hji10] at H;exact H)|(simp only [hji10] at H ⊢;exact H)
           have hji10w : (IntKind.i64.wrap (x7_1 - 1)) = ji10:=(i64_w _).trans hji10
           by_cases c11 : 0 ≤ (ji10)
           ·rw [if_pos c11] at H
            have c11b0 : decide (0 ≤ (ji10)) = true:=decide_eq_true c11
            clear c11
            by_cases c12 : (ji10) < (l0.length : Int)
            ·rw [if_pos c12] at H
             have c12b0 : decide ((ji10) < (l0.length : Int)) = true:=decide_eq_true c12
             clear c12
             by_cases c13 : (rd l0 (ji10)) = 45
             ·rw [if_pos c13] at H
              have c13b0 : ((rd l0 (ji10)) == 45) = true:=beq_iff_eq.mpr c13
              have c13b1 : ((rd l0 (ji10)) != 45) = false:=bne_eq_false_iff_eq.mpr c13
              clear c13
              obtain rfl:=Option.some.inj H
              have p504 : 0 ≤ (x7_1 : Int):=of_decide_eq_true (by first|(with_reducible assumption)|assumption)
              have q504 : x7_1 < (l0.length : Int):=of_decide_eq_true (by first|(with_reducible assumption)|assumption)
              obtain ⟨ad504,e504,hx504_0⟩:=Kd.at_int HR0.out x7_1 p504 q504
              cases e504
              replace p504:=eq_true p504
              replace q504:=eq_true q504
              have p505 : 0 ≤ ((ji10) : Int):=of_decide_eq_true (by first|(with_reducible assumption)|assumption)
              have q505 : (ji10) < (l0.length : Int):=of_decide_eq_true (by first|(with_reducible assumption)|assumption)
              obtain ⟨ad505,e505,hx505_0⟩:=Kd.at_int HR0.out (ji10) p505 q505
              obtain rfl : ad504 = ad505:=(by injection e505)
              replace p505:=eq_true p505
              replace q505:=eq_true q505
              go_wp2
              go_ret
              exact ⟨by first|rfl|(simp;done)|(simp only [← hji10] <;> (first|rfl|simp))|(simp [*];done),by repeat (first|exact Drawn0.refl _|apply Drawn0.step)⟩
             ·rw [if_neg c13] at H
              have c13b0 : ((rd l0 (ji10)) == 45) = false:=beq_eq_false_iff_ne.mpr c13
              have c13b1 : ((rd l0 (ji10)) != 45) = true:=bne_iff_ne.mpr c13
              have H':=Aside0.mk H
              clear H
              have p504 : 0 ≤ (x7_1 : Int):=of_decide_eq_true (by first|(with_reducible assumption)|assumption)
              have q504 : x7_1 < (l0.length : Int):=of_decide_eq_true (by first|(with_reducible assumption)|assumption)
              obtain ⟨ad504,e504,hx504_0⟩:=Kd.at_int HR0.out x7_1 p504 q504
              cases e504
              replace p504:=eq_true p504
              replace q504:=eq_true q504
              have p505 : 0 ≤ ((ji10) : Int):=of_decide_eq_true (by first|(with_reducible assumption)|assumption)
              have q505 : (ji10) < (l0.length : Int):=of_decide_eq_true (by first|(with_reducible assumption)|assumption)
              obtain ⟨ad505,e505,hx505_0⟩:=Kd.at_int HR0.out (ji10) p505 q505
              obtain rfl : ad504 = ad505:=(by injection e505)
              replace p505:=eq_true p505
              replace q505:=eq_true q505
              go_wp2
              go_roundg k1
              case measure => have:=HK1.out;omega
              case rel => exact ⟨(wrap64 (x7_1 + 1)),(by first|rfl|(simp;done)|(simp [*];done)),H',⟨by have:=HK1.out;omega⟩,by repeat (first|exact Drawn0.refl _|apply Drawn0.step)⟩
            ·rw [if_neg c12] at H
             exact absurd H (by simp)
           ·rw [if_neg c11] at H
            exact absurd H (by simp)
        ·rw [if_neg c7] at H
         have c7b0 : ((rd l0 x7_1) == 45) = false:=beq_eq_false_iff_ne.mpr c7
         have c7b1 : ((rd l0 x7_1) != 45) = true:=bne_iff_ne.mpr c7
         obtain rfl:=Option.some.inj H
         have p504 : 0 ≤ (x7_1 : Int):=of_decide_eq_true (by first|(with_reducible assumption)|assumption)
         have q504 : x7_1 < (l0.length : Int):=of_decide_eq_true (by first|(with_reducible assumption)|assumption)
         obtain ⟨ad504,e504,hx504_0⟩:=Kd.at_int HR0.out x7_1 p504 q504
         cases e504
         replace p504:=eq_true p504
         replace q504:=eq_true q504
         go_wp2
         go_ret
         exact ⟨by first|rfl|(simp;done)|(simp [*];done),by repeat (first|exact Drawn0.refl _|apply Drawn0.step)⟩
      ·rw [if_neg c5] at H
       have c5b0 : decide (97 ≤ (rd l0 x7_1)) = false:=decide_eq_false c5
       clear c5
       by_cases c14 : (rd l0 x7_1) = 45
       ·rw [if_pos c14] at H
        have c14b0 : ((rd l0 x7_1) == 45) = true:=beq_iff_eq.mpr c14
        have c14b1 : ((rd l0 x7_1) != 45) = false:=bne_eq_false_iff_eq.mpr c14
        clear c14
        by_cases c15 : x7_1 = 0
        ·rw [if_pos c15] at H
         have c15b0 : (x7_1 == 0) = true:=beq_iff_eq.mpr c15
         have c15b1 : (x7_1 != 0) = false:=bne_eq_false_iff_eq.mpr c15
         clear c15
         obtain rfl:=Option.some.inj H
         have p504 : 0 ≤ (x7_1 : Int):=of_decide_eq_true (by first|(with_reducible assumption)|assumption)
         have q504 : x7_1 < (l0.length : Int):=of_decide_eq_true (by first|(with_reducible assumption)|assumption)
         obtain ⟨ad504,e504,hx504_0⟩:=Kd.at_int HR0.out x7_1 p504 q504
         cases e504
         replace p504:=eq_true p504
         replace q504:=eq_true q504
         go_wp2
         go_ret
         exact ⟨by first|rfl|(simp;done)|(simp [*];done),by repeat (first|exact Drawn0.refl _|apply Drawn0.step)⟩
        ·rw [if_neg c15] at H
         have c15b0 : (x7_1 == 0) = false:=beq_eq_false_iff_ne.mpr c15
         have c15b1 : (x7_1 != 0) = true:=bne_iff_ne.mpr c15
         by_cases c16 : x7_1 = (wrap64 ((l0.length : Int) - 1))
         ·rw [if_pos c16] at H
          have c16b0 : (x7_1 == (wrap64 ((l0.length : Int) - 1))) = true:=beq_iff_eq.mpr c16
          have c16b1 : (x7_1 != (wrap64 ((l0.length : Int) - 1))) = false:=bne_eq_false_iff_eq.mpr c16
          clear c16
          obtain rfl:=Option.some.inj H
          have p504 : 0 ≤ (x7_1 : Int):=of_decide_eq_true (by first|(with_reducible assumption)|assumption)
          have q504 : x7_1 < (l0.length : Int):=of_decide_eq_true (by first|(with_reducible assumption)|assumption)
          obtain ⟨ad504,e504,hx504_0⟩:=Kd.at_int HR0.out x7_1 p504 q504
          cases e504
          replace p504:=eq_true p504
          replace q504:=eq_true q504
          go_wp2
          go_ret
          exact ⟨by first|rfl|(simp;done)|(simp [*];done),by repeat (first|exact Drawn0.refl _|apply Drawn0.step)⟩
         ·rw [if_neg c16] at H
          have c16b0 : (x7_1 == (wrap64 ((l0.length : Int) - 1))) = false:=beq_eq_false_iff_ne.mpr c16
          have c16b1 : (x7_1 != (wrap64 ((l0.length : Int) - 1))) = true:=bne_iff_ne.mpr c16
          obtain ⟨ji17,hji17⟩ : ∃ j_ : Int,(wrap64 (x7_1 - 1)) = j_:=⟨_,rfl⟩
          replace H : (if 0 ≤ (ji17) then (if (ji17) < (l0.length : Int) then (if (rd l0 (ji17)) = 45 then (some false) else (spec_isProperty.l0 k1 l0 l0 (l0.length : Int) (wrap64 (x7_1 + 1)))) else (none)) else (none)) = some r:=by first|(rw [hji17] at H;exact H)|(simp only [hji17] at H ⊢;exact H)
          have hji17w : (IntKind.i64.wrap (x7_1 - 1)) = ji17:=(i64_w _).trans hji17
          by_cases c18 : 0 ≤ (ji17)
          ·rw [if_pos c18] at H
           have c18b0 : decide (0 ≤ (ji17)) = true:=decide_eq_true c18
           clear c18
           by_cases c19 : (ji17) < (l0.length : Int)
           ·rw [if_pos c19] at H
            have c19b0 : decide ((ji17) < (l0.length : Int)) = true:=decide_eq_true c19
            clear c19
            by_cases c20 : (rd l0 (ji17)) = 45
            ·rw [if_pos c20] at H
             have c20b0 : ((rd l0 (ji17)) == 45) = true:=beq_iff_eq.mpr c20
             have c20b1 : ((rd l0 (ji17)) != 45) = false:=bne_eq_false_iff_eq.mpr c20
             clear c20
             obtain rfl:=Option.some.inj H
             have p504 : 0 ≤ (x7_1 : Int):=of_decide_eq_true (by first|(with_reducible assumption)|assumption)
             have q504 : x7_1 < (l0.length : Int):=of_decide_eq_true (by first|(with_reducible assumption)|assumption)
             obtain ⟨ad504,e504,hx504_0⟩:=Kd.at_int HR0.out x7_1 p504 q504
             cases e504
             replace p504:=eq_true p504
             replace q504:=eq_true q504
             have p506 : 0 ≤ ((ji17) : Int):=of_decide_eq_true (by first|(with_reducible assumption)|assumption)
             have q506 : (ji17) < (l0.length : Int):=of_decide_eq_true (by first|(with_reducible assumption)|assumption)
             obtain ⟨ad506,e506,hx506_0⟩:=Kd.at_int HR0.out (ji17) p506 q506
             obtain rfl : ad504 = ad506:=(by injection e506)
             replace p506:=eq_true p506
             replace q506:=eq_true q506
             go_wp2
             go_ret
             exact ⟨by first|rfl|(simp;done)|(simp only [← hji17] <;> (first|rfl|simp))|(simp [*];done),by repeat (first|exact Drawn0.refl _|apply Drawn0.step)⟩
            ·rw [if_neg c20] at H
             have c20b0 : ((rd l0 (ji17)) == 45) = false:=beq_eq_false_iff_ne.mpr c20
             have c20b1 : ((rd l0 (ji17)) != 45) = true:=bne_iff_ne.mpr c20
             have H':=Aside0.mk H
             clear H
             have p504 : 0 ≤ (x7_1 : Int):=of_decide_eq_true (by first|(with_reducible assumption)|assumption)
             have q504 : x7_1 < (l0.length : Int):=of_decide_eq_true (by first|(with_reducible assumption)|assumption)
             obtain ⟨ad504,e504,hx504_0⟩:=Kd.at_int HR0.out x7_1 p504 q504
             cases e504
             replace p504:=eq_true p504
             replace q504:=eq_true q504
             have p506 : 0 ≤ ((ji17) : Int):=of_decide_eq_true (by first|(with_reducible assumption)|assumption)
             have q506 : (ji17) < (l0.length : Int):=of_decide_eq_true (by first|(with_reducible assumption)|assumption)
             obtain ⟨ad506,e506,hx506_0⟩:=Kd.at_int HR0.out (ji17) p506 q506
             obtain rfl : ad504 = ad506:=(by injection e506)
             replace p506:=eq_true p506
             replace q506:=eq_true q506
             go_wp2
             go_roundg k1
             case measure => have:=HK1.out;omega
             case rel => exact ⟨(wrap64 (x7_1 + 1)),(by first|rfl|(simp;done)|(simp [*];done)),H',⟨by have:=HK1.out;omega⟩,by repeat (first|exact Drawn0.refl _|apply Drawn0.step)⟩
           ·rw [if_neg c19] at H
            exact absurd H (by simp)
          ·rw [if_neg c18] at H
           exact absurd H (by simp)
       ·rw [if_neg c14] at H
        have c14b0 : ((rd l0 x7_1) == 45) = false:=beq_eq_false_iff_ne.mpr c14
        have c14b1 : ((rd l0 x7_1) != 45) = true:=bne_iff_ne.mpr c14
        obtain rfl:=Option.some.inj H
        have p504 : 0 ≤ (x7_1 : Int):=of_decide_eq_true (by first|(with_reducible assumption)|assumption)
        have q504 : x7_1 < (l0.length : Int):=of_decide_eq_true (by first|(with_reducible assumption)|assumption)
        obtain ⟨ad504,e504,hx504_0⟩:=Kd.at_int HR0.out x7_1 p504 q504
        cases e504
        replace p504:=eq_true p504
        replace q504:=eq_true q504
        go_wp2
        go_ret
        exact ⟨by first|rfl|(simp;done)|(simp [*];done),by repeat (first|exact Drawn0.refl _|apply Drawn0.step)⟩
     ·rw [if_neg c4] at H
      exact absurd H (by simp)
    ·rw [if_neg c3] at H
     exact absurd H (by simp)
   ·rw [if_neg c2] at H
    have c2b0 : decide (x7_1 < (l0.length : Int)) = false:=decide_eq_false c2
    clear c2
    by_cases c21 : (l0.length : Int) > 0
    ·rw [if_pos c21] at H
     have c21b0 : decide (0 < (l0.length : Int)) = true:=decide_eq_true c21
     have c21b1 : decide (0 < l0.length) = true:=decide_eq_true (by omega)
     clear c21
     obtain rfl:=Option.some.inj H
     go_wp2
     go_ret
     exact ⟨by first|rfl|(simp;done)|(simp [*];done),by repeat (first|exact Drawn0.refl _|apply Drawn0.step)⟩
    ·rw [if_neg c21] at H
     have c21b0 : decide (0 < (l0.length : Int)) = false:=decide_eq_false c21
     have c21b1 : decide (0 < l0.length) = false:=decide_eq_false (by omega)
     clear c21
     obtain rfl:=Option.some.inj H
     go_wp2
     go_ret
     exact ⟨by first|rfl|(simp;done)|(simp [*];done),by repeat (first|exact Drawn0.refl _|apply Drawn0.step)⟩
def spec_words.l0 : Nat → List Int → List (List Int) → Int → Int → Option (List Int)
 | 0,_,_,_,_ => none
 | k + 1,x3,x7,x8,x9 => if x9 < x8 then (if 0 ≤ x9 then (if x9 < (x7.length : Int) then (if x3.length < 140737488355328 then ((some (x3 ++ [32] : List Int)).bind fun y514 => (if y514.length + (rd_L6 x7 x9).length < 140737488355328 then (spec_words.l0 k (y514 ++ (rd_L6 x7 x9)) x7 x8 (wrap64 (x9 + 1))) else (none))) else (none)) else (none)) else (none)) else (some x3)
def spec_words.f (k : Nat) (l0 : List (List Int)) : Option (List Int):=spec_words.l0 k (([] : List Int)) l0 (l0.length : Int) 0
theorem spec_words.calls (k : Nat) (A0 : Option Addr) (c0 : Nat) (l0 : List (List Int)) (r : List Int) (w : World) (hr0 : Kd.C (Kd.slice 5 (Kd.int .u8)) w A0 l0.length l0) (hc0 : l0.length ≤ c0) (h : spec_words.f k l0 = some r) :
  Calls Tryz.prog 17 #[.slice A0 l0.length c0] w fun e w' => ∃ v0_ : Value,e = .returned (v0_) ∧ Kd.R (Kd.int .u8) 5 w' w.heap.size (fun _ => True) v0_ r ∧ Below w.heap.size w w':=by
 have HR0:=Aside0.mk hr0
 have HC0:=Aside0.mk hc0
 clear hr0 hc0
 have HB:=Aside0.mk (Below.refl w.heap.size w)
 have H : (spec_words.l0 k (([] : List Int)) l0 (l0.length : Int) 0) = some r:=h
 clear h
 obtain ⟨y510,hy510⟩ : ∃ y_ : List Int,y_ = (([] : List Int)):=⟨_,rfl⟩
 replace H : (spec_words.l0 k y510 l0 (l0.length : Int) 0) = some r:=by first|(rw [hy510];with_reducible exact H)|(have H2_:=(Option.bind_some _ _).symm.trans H;rw [hy510];with_reducible exact H2_)|(have H2_:=(Option.bind_some _ _).symm.trans H;with_reducible exact H2_)|with_reducible exact H|(rw [hy510];exact H)|exact H
 have Ny510:=Aside0.mk hy510
 clear hy510
 have H':=Aside0.mk H
 clear H
 go_enter Tryz.func17,Tryz.ntmps17
 go_wp2_with (first|((with_reducible refine gate_dst (N:=6) rfl ?_);refine Kd.R_lit (Kd.int .u8) _ 5 ?hg (N:=6) ?hd (xs:=([] : List Int)) (inner:=[]) (ok:=fun _ => True) (okp:=fun _ => True) ?hr ?hp (fun _ hk => hk) trivial (Below.refl _ _) (Nat.le_refl _) (by simp) ?_;(case hd => rfl);(case hg => rfl);(case hr => first|(go_simp;done)|(go_simp;rfl));(case hp => exact (Reps.none _ _));intro v511 w2 ho3 hb hg_ hnew_;clear hg_ hnew_;(first|rw [← Ny510.out] at ho3|(simp only [Int.reduceToNat] at ho3;rw [← Ny510.out] at ho3));have n0_:=Aside0.mk (Kd.R_lower ho3 (below_size (by repeat (first|(with_reducible first|exact HB.out|apply bA|apply bB|apply bC)|exact HB.out))));have n1_:=Aside0.mk (below_step (by repeat (first|(with_reducible first|exact HB.out|apply bA|apply bB|apply bC)|exact HB.out)) hb);clear HB;have HO512:=n0_;have HB:=n1_;clear n0_ n1_;clear hb ho3))
 go_loopg [3,9] k (fun kq v3 v9 w' => ∃ (x3_1 : List Int) (x9_1 : Int),v9 = .int .i64 x9_1 ∧ Aside0 (spec_words.l0 kq x3_1 l0 (l0.length : Int) x9_1 = some r) ∧ Aside0 (kq ≤ k) ∧ Aside0 (Kd.R (Kd.int .u8) 5 w' w.heap.size (fun _ => True) v3 x3_1) ∧ Aside0 (Below w.heap.size w w'))
 case atStart => exact ⟨(y510),(0),(by first|rfl|(simp;done)|(simp [*];done)),H',⟨Nat.le_refl _⟩,⟨by (with_reducible repeat (first|apply Kd.R_alloc|apply Kd.R_drewN|apply Kd.R_drew));exact HO512.out⟩,⟨by repeat (first|(with_reducible first|exact HB.out|apply bA|apply bB|apply bC)|exact HB.out)⟩⟩
 case round =>
  clear H'
  try clear c1
  try clear p2
  obtain ⟨x3_1,x9_1,rfl,HA,HK1,HO_3,HB⟩:=hrel
  cases gk with
  | zero => exact absurd HA.out (by simp [spec_words.l0])
  | succ k1 =>
   have H:=HA.out
   clear HA
   simp only [spec_words.l0] at H
   by_cases c4 : x9_1 < (l0.length : Int)
   ·rw [if_pos c4] at H
    have c4b0 : decide (x9_1 < (l0.length : Int)) = true:=decide_eq_true c4
    clear c4
    by_cases c5 : 0 ≤ x9_1
    ·rw [if_pos c5] at H
     have c5b0 : decide (0 ≤ x9_1) = true:=decide_eq_true c5
     clear c5
     by_cases c6 : x9_1 < (l0.length : Int)
     ·rw [if_pos c6] at H
      have c6b0 : decide (x9_1 < (l0.length : Int)) = true:=decide_eq_true c6
      clear c6
      by_cases c7 : x3_1.length < 140737488355328
      ·rw [if_pos c7] at H
       have LMc7:=Aside0.mk c7
       clear c7
       obtain ⟨y514,hy514⟩ : ∃ y_ : List Int,y_ = (x3_1 ++ [32]):=⟨_,rfl⟩
       replace H : (if y514.length + (rd_L6 l0 x9_1).length < 140737488355328 then (spec_words.l0 k1 (y514 ++ (rd_L6 l0 x9_1)) l0 (l0.length : Int) (wrap64 (x9_1 + 1))) else (none)) = some r:=by first|(rw [hy514];with_reducible exact H)|(have H2_:=(Option.bind_some _ _).symm.trans H;rw [hy514];with_reducible exact H2_)|(have H2_:=(Option.bind_some _ _).symm.trans H;with_reducible exact H2_)|with_reducible exact H|(rw [hy514];exact H)|exact H
       have Ny514:=Aside0.mk hy514
       clear hy514
       by_cases c8 : y514.length + (rd_L6 l0 x9_1).length < 140737488355328
       ·rw [if_pos c8] at H
        have LMc8:=Aside0.mk c8
        clear c8
        obtain ⟨y517,hy517⟩ : ∃ y_ : List Int,y_ = (y514 ++ (rd_L6 l0 x9_1)):=⟨_,rfl⟩
        replace H : (spec_words.l0 k1 y517 l0 (l0.length : Int) (wrap64 (x9_1 + 1))) = some r:=by first|(rw [hy517];with_reducible exact H)|(have H2_:=(Option.bind_some _ _).symm.trans H;rw [hy517];with_reducible exact H2_)|(have H2_:=(Option.bind_some _ _).symm.trans H;with_reducible exact H2_)|with_reducible exact H|(rw [hy517];exact H)|exact H
        have Ny517:=Aside0.mk hy517
        clear hy517
        have H':=Aside0.mk H
        clear H
        have p513 : 0 ≤ (x9_1 : Int):=of_decide_eq_true (by first|(with_reducible assumption)|assumption)
        have q513 : x9_1 < (l0.length : Int):=of_decide_eq_true (by first|(with_reducible assumption)|assumption)
        obtain ⟨ad513,A513_0,c513_0,e513,hx513_0,hl513_0,hi513_0⟩:=at_L6 HR0.out x9_1 p513 q513
        cases e513
        replace hx513_0:=(HB.out.cell (World.block_lt_of_cell? w _ hx513_0)).trans hx513_0
        have HR513_0:=Aside0.mk hi513_0
        have HC513_0:=Aside0.mk hl513_0
        clear hi513_0 hl513_0
        replace p513:=eq_true p513
        replace q513:=eq_true q513
        go_wp2_with (first|((with_reducible refine gate_builtin (b:=.append) (xs:=#[.tmp 13,.tmp 14]) rfl ?_);at_builtin;refine Kd.R_append (Kd.int .u8) (w0:=w) w.heap.size rfl (.tmp 13) (.tmp 14) 24 5 (.int .u8 0) 1 rfl Tryz.underlying24 info5 rfl (by decide) (by omega) u3 x3_1 32 [.int .u8 32] (fun _ => True) (fun _ => False) rfl rfl ?aP (fun _ hk => hk.elim) ?aF ?aO ?aB ?aS ?aL ?_;(case aP => exact rfl);(case aB => exact (by repeat (first|(with_reducible first|exact HB.out|apply bA|apply bB|apply bC)|exact HB.out)));(case aF => exact (fun _ _ => trivial));(case aO => exact (by (with_reducible repeat (first|apply Kd.R_alloc|apply Kd.R_drewN|apply Kd.R_drew));exact HO_3.out));(case aS => exact (below_size (by repeat (first|(with_reducible first|exact HB.out|apply bA|apply bB|apply bC)|exact HB.out))));(case aL => have:=LMc7.out;omega);intro v515 w9 ho hb hg hat;rw [← Ny514.out] at ho;have n0_:=Aside0.mk (hb);have n1_:=Aside0.mk (ho);clear HB;clear HO_3;have HB:=n0_;have HO516:=n1_;clear n0_ n1_;clear ho hb hg hat)|((with_reducible refine gate_builtin (b:=.append) (xs:=#[.tmp 15,.tmp 16]) rfl ?_);at_builtin;refine Kd.R_append_rows (Kd.int .u8) (w0:=w) w.heap.size rfl (.tmp 15) (.tmp 16) 24 5 (.int .u8 0) 1 rfl Tryz.underlying24 info5 rfl (by decide) (by omega) v515 y514 (rd_L6 l0 x9_1) _ _ _ (fun _ => True) (fun _ => False) rfl rfl ?aO ?aR (fun _ _ h => h) (fun _ h => h.elim) ?aF ?aB ?aS ?aL ?_;(case aR => repeat (first|exact (Kd.C_below HR513_0.out HB.out)|(with_reducible refine Kd.C_alloc ?_ _)|(with_reducible refine Kd.C_drewN ?_ _)|(with_reducible refine Kd.C_drew ?_)));(case aB => exact (by repeat (first|(with_reducible first|exact HB.out|apply bA|apply bB|apply bC)|exact HB.out)));(case aF => exact (fun _ _ => trivial));(case aO => exact (by (with_reducible repeat (first|apply Kd.R_alloc|apply Kd.R_drewN|apply Kd.R_drew));exact HO516.out));(case aS => exact (below_size (by repeat (first|(with_reducible first|exact HB.out|apply bA|apply bB|apply bC)|exact HB.out))));(case aL => have:=LMc8.out;omega);intro v518 w10 ho hb hg hat;rw [← Ny517.out] at ho;have n0_:=Aside0.mk (hb);have n1_:=Aside0.mk (ho);clear HB;clear HO516;have HB:=n0_;have HO519:=n1_;clear n0_ n1_;clear ho hb hg hat))
        go_roundg k1
        case measure => have:=HK1.out;omega
        case rel => exact ⟨(y517),(wrap64 (x9_1 + 1)),(by first|rfl|(simp;done)|(simp [*];done)),H',⟨by have:=HK1.out;omega⟩,⟨by (with_reducible repeat (first|apply Kd.R_alloc|apply Kd.R_drewN|apply Kd.R_drew));exact HO519.out⟩,⟨by repeat (first|(with_reducible first|exact HB.out|apply bA|apply bB|apply bC)|exact HB.out)⟩⟩
       ·rw [if_neg c8] at H
        exact absurd H (by simp)
      ·rw [if_neg c7] at H
       exact absurd H (by simp)
     ·rw [if_neg c6] at H
      exact absurd H (by simp)
    ·rw [if_neg c5] at H
     exact absurd H (by simp)
   ·rw [if_neg c4] at H
    have c4b0 : decide (x9_1 < (l0.length : Int)) = false:=decide_eq_false c4
    clear c4
    obtain rfl:=Option.some.inj H
    go_wp2
    go_ret
    exact ⟨_,by first|rfl|(simp [errW_none,errW_some] <;> rfl)|(simp [*,errW_none,errW_some] <;> rfl),by (with_reducible repeat (first|apply Kd.R_alloc|apply Kd.R_drewN|apply Kd.R_drew));exact HO_3.out,by repeat (first|(with_reducible first|exact HB.out|apply bA|apply bB|apply bC)|exact HB.out)⟩
end Go.Proofs.YtlglijnaeaonpaaGreatDoor.PFnStyle
end
section
set_option maxHeartbeats 8000000
set_option maxRecDepth 100000
set_option linter.unusedVariables false
set_option linter.unusedSimpArgs false
namespace Go.Proofs.YtlglijnaeaonpaaGreatDoor.Lx
open Go.RowKit Go.Proofs.YtlglijnaeaonpaaGreatDoorW.PrintWords Go.Proofs.YtlglijnaeaonpaaGreatDoor.PFnStyle
structure Vw (K : ByteArray) (xs : List Int) (qs : List (ByteArray × List Int)) : Prop where
 len : xs.length ≤ 60
 n0 : N0 xs
 nb : Nb xs
 ne : qs ≠ []
 tk : TkC xs qs xs.length false
 eq : qs = toks xs
 op : tokO xs = false
 ks : ∀ q ∈ qs,hasL K.data.toList ([32] ++ q.1.data.toList ++ [32]) = true
 cl : LvB [] (qs.map (·.1))
def ArP (w : World) (R : Prop) (e : Ending) (w' : World) : Prop:=∃ r : Bool,e = .returned (.bool r) ∧ Below w.heap.size w w' ∧ (r = true → R)
theorem kind_text (k : ByteArray) : ((⟨#[32]⟩ : ByteArray) ++ k ++ (⟨#[32]⟩ : ByteArray)).data.toList = [32] ++ k.data.toList ++ [32]:=by
 rw [Joins.data_append,Joins.data_append]
theorem kind_size {k : ByteArray} (h : k.size ≤ 16) : ((⟨#[32]⟩ : ByteArray) ++ k ++ (⟨#[32]⟩ : ByteArray)).size ≤ 1000000:=by
 rw [ByteArray.size_append,ByteArray.size_append]
 show 1 + k.size + 1 ≤ 1000000
 omega
theorem has_text {w : World} {s p : ByteArray} (hs : s.size ≤ 1000000) (hp : p.size ≤ 1000000) :
  Calls Tryz.prog 69 #[.string s,.string p] w fun e w' => e = .returned (.bool (hasL s.data.toList p.data.toList)) ∧ Below w.heap.size w w' :=
 (spec_HasText.calls (s.size + 2) s p _ w (hasText_f s p hs hp _ (Nat.le_refl _))).mono fun e w' ⟨he,hn⟩ => ⟨he,hn.below⟩
theorem areTokens_any {w : World} {A : Option Addr} {c : Nat} {xs : List Int} (K : ByteArray) (hK : K.size ≤ 1000000) (h : VB w A c xs) (hT : TabU w) :
  Calls Tryz.prog 51 #[.slice A xs.length c,.string K] w (ArP w (∃ qs,Vw K xs qs)):=by
 have hl:=h.len
 obtain ⟨bh,hbh,hbh2⟩:=Has_f xs 92 (by have:=h.len;omega)
 have HV:=Aside0.mk h
 have HT:=Aside0.mk hT
 have HH:=Aside0.mk (And.intro hbh hbh2)
 clear h hT hbh hbh2
 go_enter Tryz.func51,Tryz.ntmps51
 go_wp2_with (first
  | (go_at_call 49;(with_reducible refine (tokens (FF_ok HV.out.tx) HV.out (Below.refl _ _) HT.out).mono ?_);rintro e w1 ⟨A5,c5,ps,ok,rfl,⟨q1,-⟩,q2,q3,q4,q5,q6⟩;have HQ:=Aside0.mk (And.intro (rows_C q3 q4) (And.intro q4 (And.intro q5 q6)));clear q3 q4 q5 q6))
 go_loopg [16] (ps.length + 1) (fun gk v16 wr => ∃ j : Int,v16 = .int .i64 j ∧ 0 ≤ j ∧ j ≤ ps.length ∧ Aside0 (Below w1.heap.size w1 wr ∧ ∀ m : Nat,(m : Int) < j → ∀ p,ps[m]? = some p → hasL K.data.toList ([32] ++ p.f0.data.toList ++ [32]) = true) ∧ gk = ((ps.length : Int) - j).toNat + 1)
 case atStart => exact ⟨0,rfl,by omega,by omega,⟨Below.refl _ _,fun m hm => by omega⟩,by omega⟩
 case round =>
  obtain ⟨j,rfl,h0,h1,HR,rfl⟩:=hrel
  by_cases hj : j < ps.length
  ·obtain ⟨p,hp⟩ : ∃ p,ps[j.toNat]? = some p:=⟨_,List.getElem?_eq_getElem (by omega)⟩
   have hrd : rd_T55 ps j = p:=by unfold rd_T55;rw [List.getD_eq_getElem?_getD,hp];rfl
   obtain ⟨ad,A1,c1,A2,c2,A3,c3,A4,c4,e4,x0,x1,x2,x3,x4,x5,-⟩:=at_T55 HQ.out.1 j h0 hj
   cases e4
   rw [hrd] at x0 x1 x2 x3 x4 x5
   replace x0:=pw_cell_below HR.out.1 x0
   replace x1:=pw_cell_below HR.out.1 x1
   replace x2:=pw_cell_below HR.out.1 x2
   replace x3:=pw_cell_below HR.out.1 x3
   replace x4:=pw_cell_below HR.out.1 x4
   replace x5:=pw_cell_below HR.out.1 x5
   have hsz:=HQ.out.2.2.1 p (List.mem_of_getElem? hp)
   have HP:=Aside0.mk (And.intro hp hsz)
   have s1 : ∀ W : World,(Op.stringOp .add (⟨#[32]⟩ : ByteArray) p.f0).run Tryz.prog W = .ok (.string ((⟨#[32]⟩ : ByteArray) ++ p.f0)) W:=fun W => run_string_add_sum _ _ _ (by show 1 + p.f0.size ≤ _;omega)
   have s2 : ∀ W : World,(Op.stringOp .add ((⟨#[32]⟩ : ByteArray) ++ p.f0) (⟨#[32]⟩ : ByteArray)).run Tryz.prog W = .ok (.string ((⟨#[32]⟩ : ByteArray) ++ p.f0 ++ (⟨#[32]⟩ : ByteArray))) W:=fun W => run_string_add_sum _ _ _ (by rw [ByteArray.size_append];show 1 + p.f0.size + 1 ≤ _;omega)
   have hjt:=eq_true h0
   have HA : Aside0 (Below w1.heap.size w1 (wr.alloc (.cells #[.string p.f0,.slice A1 p.f1.length c1,.slice A2 p.f2.length c2,.slice A3 p.f3.length c3,.slice A4 p.f4.length c4,.string p.f5] 55))):=⟨below_alloc HR.out.1 _⟩
   obtain ⟨b,hb⟩ : ∃ b,hasL K.data.toList ([32] ++ p.f0.data.toList ++ [32]) = b:=⟨_,rfl⟩
   have HB:=Aside0.mk hb
   clear hp hrd hsz hb
   have key : ∀ W,Calls Tryz.prog 69 #[.string K,.string ((⟨#[32]⟩ : ByteArray) ++ p.f0 ++ (⟨#[32]⟩ : ByteArray))] W fun e w' => e = .returned (.bool b) ∧ Below W.heap.size W w':=by
    intro W
    have:=has_text (w:=W) hK (kind_size HP.out.2)
    rw [kind_text,HB.out] at this
    exact this
   have KEY:=Aside0.mk key
   clear key
   cases b with
   | true =>
    go_wp2_with (first
     | (go_at_call 69;(with_reducible refine (KEY.out _).mono ?_);rintro e w5 ⟨rfl,hb5⟩;have HB5:=Aside0.mk (HA.out.trans (hb5.mono HA.out.size));clear hb5))
    go_roundg (((ps.length : Int) - (j + 1)).toNat + 1)
    case measure => omega
    case rel =>
     refine ⟨j + 1,rfl,by omega,by omega,⟨HB5.out,fun m hm q hq => ?_⟩,rfl⟩
     rcases Int.lt_or_le (m : Int) j with h|h
     ·exact HR.out.2 m h q hq
     ·obtain rfl : m = j.toNat:=by omega
      rw [HP.out.1] at hq
      injection hq with hq
      subst hq
      exact HB.out
   | false =>
    go_wp2_with (first
     | (go_at_call 69;(with_reducible refine (KEY.out _).mono ?_);rintro e w5 ⟨rfl,hb5⟩;have HB5:=Aside0.mk (HA.out.trans (hb5.mono HA.out.size));clear hb5))
    go_ret
    exact ⟨false,rfl,HQ.out.2.1.trans (HB5.out.mono HQ.out.2.1.size),fun h => by cases h⟩
  ·have hje : j = ps.length:=by omega
   subst hje
   have HBW:=Aside0.mk (HQ.out.2.1.trans (HR.out.1.mono HQ.out.2.1.size))
   cases ok with
   | false =>
    go_wp2
    go_ret
    exact ⟨false,rfl,HBW.out,fun h => by cases h⟩
   | true =>
    by_cases hn : 0 < ps.length
    ·have hnz : (0 : Int) < (ps.length : Int):=by omega
     by_cases h60 : xs.length ≤ 60
     ·have h60z : (xs.length : Int) ≤ 60:=by omega
      cases bh with
      | true =>
       go_wp2_with (first
        | (go_at_call 53;(with_reducible refine (vb_has (HV.out.below HBW.out) HH.out.1).mono ?_);rintro e w6 ⟨rfl,hb6⟩;have HB6:=Aside0.mk (HBW.out.trans (hb6.mono HBW.out.size));clear hb6))
       go_ret
       exact ⟨false,rfl,HB6.out,fun h => by cases h⟩
      | false =>
       obtain ⟨r,hr,hr2⟩:=closes_f ps (by omega)
       have HR2:=Aside0.mk (And.intro hr hr2)
       clear hr hr2
       go_wp2_with (first
        | (go_at_call 53;(with_reducible refine (vb_has (HV.out.below HBW.out) HH.out.1).mono ?_);rintro e w6 ⟨rfl,hb6⟩;have HB6:=Aside0.mk hb6;clear hb6)
        | (go_at_call 70;(with_reducible refine (spec_closes.calls _ A5 c5 ps r _ (Kd.C_below (Kd.C_below HQ.out.1 HR.out.1) HB6.out) q1 (HR2.out.1 _ (Nat.le_refl _))).mono ?_);rintro e w7 ⟨rfl,hb7⟩;have HB7:=Aside0.mk (HBW.out.trans ((HB6.out.trans (hb7.mono HB6.out.size)).mono HBW.out.size));clear hb7))
       go_ret
       refine ⟨r,rfl,HB7.out,fun h => ?_⟩
       have n0:=HQ.out.2.2.2.1 (by simp)
       have hnb : Nb xs:=by
        intro i hi
        have hlt : i < xs.length:=at_lt (by rw [hi];decide)
        have h0 : 0 ≤ i ∨ i < 0:=by omega
        have:=HH.out.2.2 ⟨i.toNat,by omega,hi⟩
        cases this
       obtain ⟨hps,hop⟩:=HQ.out.2.2.2.2 n0 hnb
       have hop2 : tokO xs = false:=by
        show (tkS xs (FF xs) (xs.length + 1)).2.2 = false
        cases h5 : (tkS xs (FF xs) (xs.length + 1)).2.2 with
        | false => rfl
        | true => rw [h5] at hop;simp at hop
       have hps2 : ps = (toks xs).map tkPc:=hps
       clear hps hop
       subst hps2
       refine ⟨toks xs,h60,n0,hnb,by intro h0;rw [h0] at hn;simp at hn,toks_C HV.out.tx hop2,rfl,hop2,fun q hq => ?_,?_⟩
       ·obtain ⟨m,hm,hmq⟩:=List.getElem_of_mem hq
        have:=HR.out.2 m (by simp;omega) (tkPc q) (by rw [List.getElem?_map,List.getElem?_eq_getElem hm,hmq];rfl)
        exact this
       ·have:=HR2.out.2 h
        rw [List.map_map] at this
        exact this
     ·have h60z : ¬ ((xs.length : Int) ≤ 60):=by omega
      have h60b : decide ((xs.length : Int) ≤ 60) = false:=decide_eq_false h60z
      go_wp2
      go_ret
      exact ⟨false,rfl,HBW.out,fun h => by cases h⟩
    ·have hn0 : ps.length = 0:=by omega
     have hnz : ¬ ((0 : Int) < (ps.length : Int)):=by omega
     have hnb : decide ((0 : Int) < (ps.length : Int)) = false:=decide_eq_false hnz
     have HN:=Aside0.mk hn0
     clear hn0
     go_wp2
     go_ret
     exact ⟨false,rfl,HBW.out,fun h => by cases h⟩
def Pb (b : Int) : Prop:=(97 ≤ b ∧ b ≤ 122) ∨ b = 45
structure Prp (xs : List Int) : Prop where
 pos : 0 < xs.length
 len : xs.length ≤ 20
 by_ : ∀ j : Nat,j < xs.length → Pb (xs.getD j 0)
 fst : xs.getD 0 0 ≠ 45
theorem isProperty_l (xs : List Int) (hl : xs.length ≤ 2147483647) : ∀ (d : Nat) (j : Nat),j ≤ xs.length → xs.length - j ≤ d → (∀ m : Nat,m < j → Pb (xs.getD m 0)) → (0 < j → xs.getD 0 0 ≠ 45) →
  ∃ r,(∀ k,d + 1 ≤ k → spec_isProperty.l0 k xs xs (xs.length : Int) (j : Int) = some r) ∧ (r = true → Prp xs):=by
 intro d
 have hend : ∀ j : Nat,xs.length ≤ j → (∀ m : Nat,m < j → Pb (xs.getD m 0)) → (0 < j → xs.getD 0 0 ≠ 45) → ∃ r,(∀ k,1 ≤ k → spec_isProperty.l0 k xs xs (xs.length : Int) (j : Int) = some r) ∧ (r = true → Prp xs):=by
  intro j hj hb hf
  by_cases h : (xs.length : Int) > 0
  ·refine ⟨decide ((xs.length : Int) ≤ 20),fun k hk => ?_,fun h2 => ?_⟩
   ·obtain ⟨k,rfl⟩ : ∃ m,k = m + 1:=⟨k - 1,by omega⟩
    simp only [spec_isProperty.l0]
    rw [if_neg (by omega),if_pos h]
   ·have h2:=of_decide_eq_true h2
    exact ⟨by omega,by omega,fun m hm => hb m (by omega),hf (by omega)⟩
  ·refine ⟨false,fun k hk => ?_,fun h => by cases h⟩
   obtain ⟨k,rfl⟩ : ∃ m,k = m + 1:=⟨k - 1,by omega⟩
   simp only [spec_isProperty.l0]
   rw [if_neg (by omega),if_neg h]
 induction d with
 | zero =>
  intro j h1 h2 hb hf
  exact hend j (by omega) hb hf
 | succ d ih =>
  intro j h1 h2 hb hf
  by_cases hj : j < xs.length
  ·have hr : rd xs (j : Int) = xs.getD j 0:=by simp [rd]
   have hw : wrap64 ((j : Int) + 1) = ((j + 1 : Nat) : Int):=by rw [w64 (by omega) (by omega)];omega
   by_cases hm : 97 ≤ xs.getD j 0 ∧ xs.getD j 0 ≤ 122
   ·obtain ⟨r,hr1,hr2⟩:=ih (j + 1) (by omega) (by omega) (fun m hmj => by
      rcases Nat.lt_or_ge m j with h|h
      ·exact hb m h
      ·obtain rfl : m = j:=by omega
       exact .inl hm) (fun _ => by
      rcases Nat.eq_zero_or_pos j with h|h
      ·subst h;omega
      ·exact hf h)
    refine ⟨r,fun k hk => ?_,hr2⟩
    obtain ⟨k,rfl⟩ : ∃ m,k = m + 1:=⟨k - 1,by omega⟩
    simp only [spec_isProperty.l0]
    rw [if_pos (by omega),if_pos (by omega),if_pos (by omega),hr,if_pos (show xs.getD j 0 ≥ 97 from hm.1),if_pos hm.2,hw]
    exact hr1 k (by omega)
   ·
    have key : ∃ r,(∀ k,d + 1 ≤ k → (if xs.getD j 0 = 45 then (if (j : Int) = 0 then (some false) else (if (j : Int) = (wrap64 ((xs.length : Int) - 1)) then (some false) else (if 0 ≤ (wrap64 ((j : Int) - 1)) then (if (wrap64 ((j : Int) - 1)) < (xs.length : Int) then (if (rd xs (wrap64 ((j : Int) - 1))) = 45 then (some false) else (spec_isProperty.l0 k xs xs (xs.length : Int) (wrap64 ((j : Int) + 1)))) else (none)) else (none)))) else (some false)) = some r) ∧ (r = true → Prp xs):=by
     by_cases h45 : xs.getD j 0 = 45
     ·by_cases h0 : j = 0
      ·exact ⟨false,fun k hk => by rw [if_pos h45,if_pos (by omega)],fun h => by cases h⟩
      ·by_cases he : (j : Int) = (xs.length : Int) - 1
       ·exact ⟨false,fun k hk => by rw [if_pos h45,if_neg (by omega),w64 (x:=(xs.length : Int) - 1) (by omega) (by omega),if_pos he],fun h => by cases h⟩
       ·by_cases hp : rd xs ((j : Int) - 1) = 45
        ·exact ⟨false,fun k hk => by rw [if_pos h45,if_neg (by omega),w64 (x:=(xs.length : Int) - 1) (by omega) (by omega),if_neg he,w64 (x:=(j : Int) - 1) (by omega) (by omega),if_pos (by omega),if_pos (by omega),if_pos hp],fun h => by cases h⟩
        ·obtain ⟨r,hr1,hr2⟩:=ih (j + 1) (by omega) (by omega) (fun m hmj => by
           rcases Nat.lt_or_ge m j with h|h
           ·exact hb m h
           ·obtain rfl : m = j:=by omega
            exact .inr h45) (fun _ => hf (by omega))
         exact ⟨r,fun k hk => by rw [if_pos h45,if_neg (by omega),w64 (x:=(xs.length : Int) - 1) (by omega) (by omega),if_neg he,w64 (x:=(j : Int) - 1) (by omega) (by omega),if_pos (by omega),if_pos (by omega),if_neg hp,hw];exact hr1 k (by omega),hr2⟩
     ·exact ⟨false,fun k hk => by rw [if_neg h45],fun h => by cases h⟩
    obtain ⟨r,hr1,hr2⟩:=key
    refine ⟨r,fun k hk => ?_,hr2⟩
    obtain ⟨k,rfl⟩ : ∃ m,k = m + 1:=⟨k - 1,by omega⟩
    simp only [spec_isProperty.l0]
    rw [if_pos (by omega),if_pos (by omega),if_pos (by omega),hr]
    by_cases h97 : xs.getD j 0 ≥ 97
    ·rw [if_pos h97,if_neg (by omega)]
     exact hr1 k (by omega)
    ·rw [if_neg h97]
     exact hr1 k (by omega)
  ·obtain ⟨r,hr1,hr2⟩:=hend j (by omega) hb hf
   exact ⟨r,fun k hk => hr1 k (by omega),hr2⟩
theorem isProperty_f (xs : List Int) (hl : xs.length ≤ 2147483647) : ∃ r,(∀ k,xs.length + 1 ≤ k → spec_isProperty.f k xs = some r) ∧ (r = true → Prp xs):=by
 obtain ⟨r,h1,h2⟩:=isProperty_l xs hl xs.length 0 (by omega) (by omega) (fun m hm => by omega) (fun h => by omega)
 exact ⟨r,fun k hk => h1 k hk,h2⟩
theorem rd_L6' (xs : List (List Int)) (j : Nat) : rd_L6 xs (j : Int) = xs.getD j []:=by unfold rd_L6;simp
theorem zz3_l (ws : List (List Int)) (hl : ws.length ≤ 2147483647) : ∀ (d : Nat) (j : Nat),j ≤ ws.length → ws.length - j ≤ d → ∃ r,(∀ k,d + 1 ≤ k → laws_zzFits3.l0 k ws (ws.length : Int) (j : Int) = some r) ∧ (r = true → ∀ m : Nat,j ≤ m → m < ws.length → (ws.getD m []).length ≤ 2147483647):=by
 intro d
 induction d with
 | zero =>
  intro j h1 h2
  refine ⟨true,fun k hk => ?_,fun _ m a b => by omega⟩
  obtain ⟨k,rfl⟩ : ∃ m,k = m + 1:=⟨k - 1,by omega⟩
  simp only [laws_zzFits3.l0]
  rw [if_neg (by omega)]
 | succ d ih =>
  intro j h1 h2
  by_cases hj : j < ws.length
  ·by_cases hb : ((ws.getD j []).length : Int) > 2147483647
   ·refine ⟨false,fun k hk => ?_,fun h => by cases h⟩
    obtain ⟨k,rfl⟩ : ∃ m,k = m + 1:=⟨k - 1,by omega⟩
    simp only [laws_zzFits3.l0]
    rw [if_pos (by omega),if_pos (by omega),if_pos (by omega),rd_L6',if_pos hb]
   ·obtain ⟨r,hr1,hr2⟩:=ih (j + 1) (by omega) (by omega)
    refine ⟨r,fun k hk => ?_,fun h m a b => ?_⟩
    ·obtain ⟨k,rfl⟩ : ∃ m,k = m + 1:=⟨k - 1,by omega⟩
     simp only [laws_zzFits3.l0]
     rw [if_pos (by omega),if_pos (by omega),if_pos (by omega),rd_L6',if_neg hb,w64 (by omega) (by omega)]
     have:=hr1 k (by omega)
     rwa [show ((j + 1 : Nat) : Int) = (j : Int) + 1 by omega] at this
    ·rcases Nat.lt_or_ge j m with h'|h'
     ·exact hr2 h m (by omega) b
     ·obtain rfl : m = j:=by omega
      omega
  ·refine ⟨true,fun k hk => ?_,fun _ m a b => by omega⟩
   obtain ⟨k,rfl⟩ : ∃ m,k = m + 1:=⟨k - 1,by omega⟩
   simp only [laws_zzFits3.l0]
   rw [if_neg (by omega)]
def Fit3 (ws : List (List Int)) : Prop:=ws.length ≤ 2147483647 ∧ ∀ m : Nat,m < ws.length → (ws.getD m []).length ≤ 2147483647
theorem zz3_f (ws : List (List Int)) : ∃ r,(∀ k,2147483650 ≤ k → laws_zzFits3.f k ws = some r) ∧ (r = true → Fit3 ws):=by
 by_cases h : (ws.length : Int) > 2147483647
 ·refine ⟨false,fun k hk => ?_,fun h => by cases h⟩
  unfold laws_zzFits3.f
  rw [if_pos h]
 ·obtain ⟨r,h1,h2⟩:=zz3_l ws (by omega) ws.length 0 (by omega) (by omega)
  refine ⟨r,fun k hk => ?_,fun hr => ⟨by omega,fun m hm => h2 hr m (by omega) hm⟩⟩
  unfold laws_zzFits3.f
  rw [if_neg h]
  exact h1 k (by omega)
def Fit2 (d : S68) : Prop:=d.f0.length ≤ 2147483647 ∧ Fit3 d.f1
theorem zz2_f (d : S68) : ∃ r,(∀ k,2147483650 ≤ k → laws_zzFits2.f k d.f0 d.f1 = some r) ∧ (r = true → Fit2 d):=by
 by_cases h : (d.f0.length : Int) > 2147483647
 ·refine ⟨false,fun k hk => ?_,fun h => by cases h⟩
  unfold laws_zzFits2.f
  rw [if_pos h]
 ·obtain ⟨r,h1,h2⟩:=zz3_f d.f1
  refine ⟨r,fun k hk => ?_,fun hr => ⟨by omega,h2 hr⟩⟩
  unfold laws_zzFits2.f
  rw [if_neg h,h1 k hk]
  cases r <;> simp
theorem rd_T68' (ds : List S68) (j : Nat) : rd_T68 ds (j : Int) = ds.getD j z68:=by unfold rd_T68;simp
theorem zz1_l (ds : List S68) (hl : ds.length ≤ 2147483647) : ∀ (d : Nat) (j : Nat),j ≤ ds.length → ds.length - j ≤ d → ∃ r,(∀ k,2147483650 + d + 1 ≤ k → laws_zzFits1.l0 k ds (ds.length : Int) (j : Int) = some r) ∧ (r = true → ∀ m : Nat,j ≤ m → m < ds.length → Fit2 (ds.getD m z68)):=by
 intro d
 induction d with
 | zero =>
  intro j h1 h2
  refine ⟨true,fun k hk => ?_,fun _ m a b => by omega⟩
  obtain ⟨k,rfl⟩ : ∃ m,k = m + 1:=⟨k - 1,by omega⟩
  simp only [laws_zzFits1.l0]
  rw [if_neg (by omega)]
 | succ d ih =>
  intro j h1 h2
  by_cases hj : j < ds.length
  ·obtain ⟨b,hb1,hb2⟩:=zz2_f (ds.getD j z68)
   cases b with
   | false =>
    refine ⟨false,fun k hk => ?_,fun h => by cases h⟩
    obtain ⟨k,rfl⟩ : ∃ m,k = m + 1:=⟨k - 1,by omega⟩
    simp only [laws_zzFits1.l0]
    rw [if_pos (by omega),if_pos (by omega),if_pos (by omega),rd_T68',hb1 k (by omega)]
    simp
   | true =>
    obtain ⟨r,hr1,hr2⟩:=ih (j + 1) (by omega) (by omega)
    refine ⟨r,fun k hk => ?_,fun h m a b => ?_⟩
    ·obtain ⟨k,rfl⟩ : ∃ m,k = m + 1:=⟨k - 1,by omega⟩
     simp only [laws_zzFits1.l0]
     rw [if_pos (by omega),if_pos (by omega),if_pos (by omega),rd_T68',hb1 k (by omega)]
     simp only [Option.bind_some,if_true]
     rw [w64 (by omega) (by omega)]
     have:=hr1 k (by omega)
     rwa [show ((j + 1 : Nat) : Int) = (j : Int) + 1 by omega] at this
    ·rcases Nat.lt_or_ge j m with h'|h'
     ·exact hr2 h m (by omega) b
     ·obtain rfl : m = j:=by omega
      exact hb2 rfl
  ·refine ⟨true,fun k hk => ?_,fun _ m a b => by omega⟩
   obtain ⟨k,rfl⟩ : ∃ m,k = m + 1:=⟨k - 1,by omega⟩
   simp only [laws_zzFits1.l0]
   rw [if_neg (by omega)]
def Fit1 (ds : List S68) : Prop:=ds.length ≤ 2147483647 ∧ ∀ m : Nat,m < ds.length → Fit2 (ds.getD m z68)
theorem zz1_f (ds : List S68) : ∃ r,(∀ k,4294967300 ≤ k → laws_zzFits1.f k ds = some r) ∧ (r = true → Fit1 ds):=by
 by_cases h : (ds.length : Int) > 2147483647
 ·refine ⟨false,fun k hk => ?_,fun h => by cases h⟩
  unfold laws_zzFits1.f
  rw [if_pos h]
 ·obtain ⟨r,h1,h2⟩:=zz1_l ds (by omega) ds.length 0 (by omega) (by omega)
  refine ⟨r,fun k hk => ?_,fun hr => ⟨by omega,fun m hm => h2 hr m (by omega) hm⟩⟩
  unfold laws_zzFits1.f
  rw [if_neg h]
  exact h1 k (by omega)
def wordsL (ws : List (List Int)) : List Int:=ws.flatMap (fun x => 32 :: x)
theorem words_l (ws : List (List Int)) (hw : ∀ x ∈ ws,x.length ≤ 1000) (hl : ws.length ≤ 1000) : ∀ (d : Nat) (j : Nat),j ≤ ws.length → ws.length - j ≤ d → (wordsL (ws.take j)).length ≤ 1001 * j → ∀ k,d + 1 ≤ k → spec_words.l0 k (wordsL (ws.take j)) ws (ws.length : Int) (j : Int) = some (wordsL ws):=by
 intro d
 induction d with
 | zero =>
  intro j h1 h2 h3 k hk
  obtain ⟨k,rfl⟩ : ∃ m,k = m + 1:=⟨k - 1,by omega⟩
  simp only [spec_words.l0]
  rw [if_neg (by omega),List.take_of_length_le (by omega)]
 | succ d ih =>
  intro j h1 h2 h3 k hk
  obtain ⟨k,rfl⟩ : ∃ m,k = m + 1:=⟨k - 1,by omega⟩
  by_cases hj : j < ws.length
  ·have hx : ws.getD j [] = ws[j]:=by rw [List.getD_eq_getElem?_getD,List.getElem?_eq_getElem hj];rfl
   have hxl:=hw ws[j] (List.getElem_mem hj)
   have ht : wordsL (ws.take (j + 1)) = wordsL (ws.take j) ++ [32] ++ ws[j]:=by
    unfold wordsL
    rw [List.take_add_one,List.getElem?_eq_getElem hj,List.flatMap_append]
    simp
   have hlen : (wordsL (ws.take (j + 1))).length ≤ 1001 * (j + 1):=by rw [ht];simp;omega
   simp only [spec_words.l0]
   rw [if_pos (by omega),if_pos (by omega),if_pos (by omega),if_pos (by omega)]
   simp only [Option.bind_some]
   rw [rd_L6',hx,if_pos (by simp;omega),w64 (by omega) (by omega)]
   have:=ih (j + 1) (by omega) (by omega) hlen k (by omega)
   rw [ht] at this
   rwa [show ((j + 1 : Nat) : Int) = (j : Int) + 1 by omega] at this
  ·simp only [spec_words.l0]
   rw [if_neg (by omega),List.take_of_length_le (by omega)]
theorem words_f (ws : List (List Int)) (hw : ∀ x ∈ ws,x.length ≤ 1000) (hl : ws.length ≤ 1000) (k : Nat) (hk : ws.length + 1 ≤ k) : spec_words.f k ws = some (wordsL ws):=by
 have:=words_l ws hw hl ws.length 0 (by omega) (by omega) (by simp [wordsL]) k hk
 exact this
def kVal : ByteArray:=⟨#[32,105,100,101,110,116,32,110,117,109,98,101,114,32,112,101,114,99,101,110,116,97,103,101,32,100,105,109,101,110,115,105,111,110,32,104,97,115,104,32,115,116,114,105,110,103,32,117,114,108,32,102,117,110,99,116,105,111,110,32,40,32,41,32,44,32]⟩
theorem isValue_any {w : World} {A : Option Addr} {c : Nat} {xs : List Int} (h : VB w A c xs) (hT : TabU w) :
  Calls Tryz.prog 31 #[.slice A xs.length c] w (ArP w (∃ qs,Vw kVal xs qs)):=by
 have key:=areTokens_any kVal (by decide) h hT
 unfold kVal at key
 have KEY:=Aside0.mk key
 clear key h hT
 go_enter Tryz.func31,Tryz.ntmps31
 go_wp2_with (first
  | (go_at_call 51;(with_reducible refine (KEY.out).mono ?_);rintro e w1 ⟨r,rfl,q1,q2⟩;have HQ:=Aside0.mk (And.intro q1 q2);clear q1 q2))
 go_ret
 exact ⟨r,rfl,HQ.out.1,HQ.out.2⟩
theorem TkC.pos {xs : List Int} {qs : List (ByteArray × List Int)} {i : Int} {o : Bool} (h : TkC xs qs i o) (hq : qs ≠ []) : 0 < i:=by
 cases h with
 | nil => exact absurd rfl hq
 | snoc ps i kind i' o' h h0 h1 hk => have:=hk.2.1;omega
theorem Vw.pos {K : ByteArray} {xs : List Int} {qs : List (ByteArray × List Int)} (h : Vw K xs qs) : 0 < xs.length:=by
 have:=h.tk.pos h.ne
 omega
structure VL (w : World) (A : Option Addr) (c : Nat) (ws : List (List Int)) : Prop where
 cap : ws.length ≤ c
 rd : Kd.C (Kd.slice 5 (Kd.int .u8)) w A ws.length ws
 by_ : ∀ x ∈ ws,∀ j : Nat,0 ≤ x.getD j 0 ∧ x.getD j 0 ≤ 255
 fit : Fit3 ws
theorem VL.below {w w' : World} {A : Option Addr} {c : Nat} {ws : List (List Int)} (h : VL w A c ws) (hb : Below w.heap.size w w') : VL w' A c ws:=⟨h.cap,Kd.C_below h.rd hb,h.by_,h.fit⟩
theorem VL.get {w : World} {A : Option Addr} {c : Nat} {ws : List (List Int)} (h : VL w A c ws) {j : Int} (h0 : 0 ≤ j) (h1 : j < ws.length) :
  ∃ ad A0 c0 x,A = some ad ∧ ws[j.toNat]? = some x ∧ w.cell? (ad.add j.toNat) = some (.slice A0 x.length c0) ∧ VB w A0 c0 x:=by
 obtain ⟨ad,A0,c0,e,x0,x1,x2⟩:=at_L6 h.rd j h0 h1
 have hx : ws[j.toNat]? = some (rd_L6 ws j):=by
  unfold rd_L6
  rw [List.getD_eq_getElem?_getD,List.getElem?_eq_getElem (by omega)];rfl
 have hm:=List.mem_of_getElem? hx
 have hf:=h.fit.2 j.toNat (by omega)
 rw [List.getD_eq_getElem?_getD,hx] at hf
 exact ⟨ad,A0,c0,_,e,hx,x0,⟨x1,x2,h.by_ _ hm,hf⟩⟩
theorem start_any {w : World} {b : Int} (r : Bool) (hr : decide (Sn b) = r) : Calls Tryz.prog 32 #[.int .u8 b] w fun e w' => e = .returned (.bool r) ∧ Below w.heap.size w w' :=
 (spec_isStart.calls b r w (by rw [isStart_f,hr])).mono fun e w' ⟨he,hn⟩ => ⟨he,hn.below⟩
structure Vls (ws : List (List Int)) : Prop where
 len : ws.length ≤ 8
 ok : ∀ x ∈ ws,∃ qs,Vw kVal x qs
 fst : ∀ x,ws[0]? = some x → Sn (x.getD 0 0)
theorem areValues_any {w : World} {A : Option Addr} {c : Nat} {ws : List (List Int)} (h : VL w A c ws) (hT : TabU w) :
  Calls Tryz.prog 14 #[.slice A ws.length c] w (ArP w (Vls ws)):=by
 have hl:=h.fit.1
 have HV:=Aside0.mk h
 have HT:=Aside0.mk hT
 clear h hT
 go_enter Tryz.func14,Tryz.ntmps14
 go_wp2
 go_loopg [7] (ws.length + 1) (fun gk v7 wr => ∃ j : Int,v7 = .int .i64 j ∧ 0 ≤ j ∧ j ≤ ws.length ∧ Aside0 (Below w.heap.size w wr ∧ (∀ m : Nat,(m : Int) < j → ∀ x,ws[m]? = some x → ∃ qs,Vw kVal x qs) ∧ (0 < j → ∀ x,ws[0]? = some x → Sn (x.getD 0 0))) ∧ gk = ((ws.length : Int) - j).toNat + 1)
 case atStart => exact ⟨0,rfl,by omega,by omega,⟨Below.refl _ _,fun m hm => by omega,fun h => by omega⟩,by omega⟩
 case round =>
  obtain ⟨j,rfl,h0,h1,HR,rfl⟩:=hrel
  by_cases hj : j < ws.length
  ·obtain ⟨ad,A0,c0,x,rfl,hx,hcell,hvb⟩:=(HV.out.below HR.out.1).get h0 hj
   have HX:=Aside0.mk (And.intro hx hvb)
   have hjt:=eq_true h0
   clear hx hvb
   have key : ∀ (r : Bool) (W : World),Below wr.heap.size wr W → (r = true → ∃ qs,Vw kVal x qs) → (r = true → j = 0 → Sn (x.getD 0 0)) → Below w.heap.size w W ∧ (∀ m : Nat,(m : Int) < j + 1 → r = true → ∀ x,ws[m]? = some x → ∃ qs,Vw kVal x qs) ∧ (r = true → ∀ x,ws[0]? = some x → Sn (x.getD 0 0)):=by
    intro r W hb hr hs
    refine ⟨HR.out.1.trans (hb.mono HR.out.1.size),fun m hm hrt y hy => ?_,fun hrt y hy => ?_⟩
    ·rcases Int.lt_or_le (m : Int) j with h'|h'
     ·exact HR.out.2.1 m h' y hy
     ·obtain rfl : m = j.toNat:=by omega
      rw [HX.out.1] at hy
      injection hy with hy
      subst hy
      exact hr hrt
    ·rcases Int.lt_or_le 0 j with h'|h'
     ·exact HR.out.2.2 h' y hy
     ·have hj0 : j = 0:=by omega
      have:=HX.out.1
      rw [hj0] at this
      rw [show (0 : Int).toNat = 0 from rfl,hy] at this
      injection this with this
      subst this
      exact hs hrt hj0
   have KEY:=Aside0.mk key
   clear key
   have kv:=isValue_any HX.out.2 ((HT.out.below HR.out.1))
   have KV:=Aside0.mk kv
   clear kv
   by_cases hj0 : j = 0
   ·subst hj0
    have hcell0 : wr.cell? ad = some (.slice A0 x.length c0):=by rw [← hcell];simp [Addr.add]
    obtain ⟨y0,hy0⟩ : ∃ y,x.getD 0 0 = y:=⟨_,rfl⟩
    have HY:=Aside0.mk hy0
    clear hy0
    obtain ⟨b,hb⟩ : ∃ b,decide (Sn y0) = b:=⟨_,rfl⟩
    have HB:=Aside0.mk hb
    clear hb
    cases b with
    | true =>
     go_wp2_with (first
      | (go_at_call 31;(with_reducible refine (KV.out).mono ?_);rintro e w5 ⟨r,rfl,q1,q2⟩;have HQ:=Aside0.mk (And.intro q1 q2);clear q1 q2;rcases r with _|_;(rotate_left 1;obtain ⟨qs,hq⟩:=HQ.out.2 (by simp);have hp:=hq.pos;have hpz : (0 : Int) < (x.length : Int):=(by omega);obtain ⟨ad0,rfl,hc⟩:=(HX.out.2.below HQ.out.1).cells hp;have hc0:=hc 0 hp;have hc1 : w5.cell? ad0 = some (.int .u8 y0):=(by rw [← HY.out,← hc0];simp [Addr.add]);clear hc hc0 hq hp;rotate_right 1))
      | (go_at_call 32;(with_reducible refine (start_any true HB.out).mono ?_);rintro e w6 ⟨rfl,hb6⟩;have HB6:=Aside0.mk (HQ.out.1.trans (hb6.mono HQ.out.1.size));clear hb6))
     ·go_ret
      exact ⟨false,rfl,HR.out.1.trans (HQ.out.1.mono HR.out.1.size),fun h => by cases h⟩
     ·go_roundg (((ws.length : Int) - (0 + 1)).toNat + 1)
      case measure => omega
      case rel =>
       obtain ⟨k1,k2,k3⟩:=KEY.out true w6 HB6.out (fun _ => HQ.out.2 (by simp)) (fun _ _ => by rw [HY.out];exact of_decide_eq_true HB.out)
       exact ⟨1,rfl,by omega,by omega,⟨k1,fun m hm => k2 m (by omega) rfl,fun _ => k3 rfl⟩,by omega⟩
    | false =>
     go_wp2_with (first
      | (go_at_call 31;(with_reducible refine (KV.out).mono ?_);rintro e w5 ⟨r,rfl,q1,q2⟩;have HQ:=Aside0.mk (And.intro q1 q2);clear q1 q2;rcases r with _|_;(rotate_left 1;obtain ⟨qs,hq⟩:=HQ.out.2 (by simp);have hp:=hq.pos;have hpz : (0 : Int) < (x.length : Int):=(by omega);obtain ⟨ad0,rfl,hc⟩:=(HX.out.2.below HQ.out.1).cells hp;have hc0:=hc 0 hp;have hc1 : w5.cell? ad0 = some (.int .u8 y0):=(by rw [← HY.out,← hc0];simp [Addr.add]);clear hc hc0 hq hp;rotate_right 1))
      | (go_at_call 32;(with_reducible refine (start_any false HB.out).mono ?_);rintro e w6 ⟨rfl,hb6⟩;have HB6:=Aside0.mk (HQ.out.1.trans (hb6.mono HQ.out.1.size));clear hb6))
     ·go_ret
      exact ⟨false,rfl,HR.out.1.trans (HQ.out.1.mono HR.out.1.size),fun h => by cases h⟩
     ·go_ret
      exact ⟨false,rfl,HR.out.1.trans (HB6.out.mono HR.out.1.size),fun h => by cases h⟩
   ·have hjz : (j == 0) = false:=by simpa using hj0
    go_wp2_with (first
     | (go_at_call 31;(with_reducible refine (KV.out).mono ?_);rintro e w5 ⟨r,rfl,q1,q2⟩;have HQ:=Aside0.mk (And.intro q1 q2);clear q1 q2;rcases r with _|_))
    ·go_ret
     exact ⟨false,rfl,HR.out.1.trans (HQ.out.1.mono HR.out.1.size),fun h => by cases h⟩
    ·go_roundg (((ws.length : Int) - (j + 1)).toNat + 1)
     case measure => omega
     case rel =>
      obtain ⟨k1,k2,k3⟩:=KEY.out true w5 HQ.out.1 (fun _ => HQ.out.2 (by simp)) (fun _ h => absurd h hj0)
      exact ⟨j + 1,rfl,by omega,by omega,⟨k1,fun m hm => k2 m hm rfl,fun _ => k3 rfl⟩,by omega⟩
  ·have hje : j = ws.length:=by omega
   subst hje
   by_cases h8 : ws.length ≤ 8
   ·have h8z : (ws.length : Int) ≤ 8:=by omega
    go_wp2
    go_ret
    refine ⟨true,by simp,HR.out.1,fun _ => ⟨h8,fun x hx => ?_,?_⟩⟩
    ·obtain ⟨m,hm,hmx⟩:=List.getElem_of_mem hx
     exact HR.out.2.1 m (by omega) x (by rw [List.getElem?_eq_getElem hm,hmx])
    ·intro x hx
     refine HR.out.2.2 ?_ x hx
     have:=(List.getElem?_eq_some_iff.1 hx).1
     omega
   ·have h8z : ¬ ((ws.length : Int) ≤ 8):=by omega
    have h8b : decide ((ws.length : Int) ≤ 8) = false:=decide_eq_false h8z
    go_wp2
    go_ret
    exact ⟨false,by simp,HR.out.1,fun h => by cases h⟩
structure DL (w : World) (A : Option Addr) (c : Nat) (ds : List S68) : Prop where
 cap : ds.length ≤ c
 rd : Kd.C k68 w A ds.length ds
 by_ : ∀ d ∈ ds,(∀ j : Nat,0 ≤ d.f0.getD j 0 ∧ d.f0.getD j 0 ≤ 255) ∧ ∀ x ∈ d.f1,∀ j : Nat,0 ≤ x.getD j 0 ∧ x.getD j 0 ≤ 255
 fit : Fit1 ds
theorem DL.below {w w' : World} {A : Option Addr} {c : Nat} {ds : List S68} (h : DL w A c ds) (hb : Below w.heap.size w w') : DL w' A c ds:=⟨h.cap,Kd.C_below h.rd hb,h.by_,h.fit⟩
theorem DL.get {w : World} {A : Option Addr} {c : Nat} {ds : List S68} (h : DL w A c ds) {j : Int} (h0 : 0 ≤ j) (h1 : j < ds.length) :
  ∃ ad A0 c0 A1 c1 d,A = some ad ∧ ds[j.toNat]? = some d ∧ w.cell? (ad.add (j.toNat * 2)) = some (.slice A0 d.f0.length c0) ∧ w.cell? ⟨(ad.add (j.toNat * 2)).block,(ad.add (j.toNat * 2)).off + 1,none⟩ = some (.slice A1 d.f1.length c1) ∧ VB w A0 c0 d.f0 ∧ VL w A1 c1 d.f1:=by
 obtain ⟨ad,A0,c0,A1,c1,e,x0,x1,l0,g0,l1,g1⟩:=at_T68 h.rd j h0 h1
 have hx : ds[j.toNat]? = some (rd_T68 ds j):=by
  unfold rd_T68
  rw [List.getD_eq_getElem?_getD,List.getElem?_eq_getElem (by omega)];rfl
 have hm:=List.mem_of_getElem? hx
 have hf:=h.fit.2 j.toNat (by omega)
 rw [List.getD_eq_getElem?_getD,hx] at hf
 exact ⟨ad,A0,c0,A1,c1,_,e,hx,x0,x1,⟨l0,g0,(h.by_ _ hm).1,hf.1⟩,⟨l1,g1,(h.by_ _ hm).2,hf.2⟩⟩
structure Vd (d : S68) : Prop where
 name : Prp d.f0
 words : Vls d.f1
 ne : d.f1 ≠ []
structure Vds (ds : List S68) : Prop where
 len : ds.length ≤ 10
 ok : ∀ d ∈ ds,Vd d
theorem AreDeclarations_any {w : World} {A : Option Addr} {c : Nat} {ds : List S68} (h : DL w A c ds) (hT : TabU w) :
  Calls Tryz.prog 11 #[.slice A ds.length c] w (ArP w (Vds ds)):=by
 have hl:=h.fit.1
 have HV:=Aside0.mk h
 have HT:=Aside0.mk hT
 clear h hT
 go_enter Tryz.func11,Tryz.ntmps11
 go_wp2
 go_loopg [7] (ds.length + 1) (fun gk v7 wr => ∃ j : Int,v7 = .int .i64 j ∧ 0 ≤ j ∧ j ≤ ds.length ∧ Aside0 (Below w.heap.size w wr ∧ (∀ m : Nat,(m : Int) < j → ∀ x,ds[m]? = some x → Vd x)) ∧ gk = ((ds.length : Int) - j).toNat + 1)
 case atStart => exact ⟨0,rfl,by omega,by omega,⟨Below.refl _ _,fun m hm => by omega⟩,by omega⟩
 case round =>
  obtain ⟨j,rfl,h0,h1,HR,rfl⟩:=hrel
  by_cases hj : j < ds.length
  ·obtain ⟨ad,A0,c0,A1,c1,d,rfl,hx,x0,x1,hvb,hvl⟩:=(HV.out.below HR.out.1).get h0 hj
   have hjt:=eq_true h0
   have hdl:=hvb.len
   have hwl:=hvl.fit.1
   obtain ⟨r0,hr0,hr02⟩:=isProperty_f d.f0 hvb.len
   have HA : Aside0 (Below wr.heap.size wr (wr.alloc (.cells #[.slice A0 d.f0.length c0,.slice A1 d.f1.length c1] 68))):=⟨below_alloc (Below.refl _ _) _⟩
   have HX:=Aside0.mk (And.intro hx (And.intro (hvb.below HA.out) (And.intro (hvl.below HA.out) (HT.out.below (HR.out.1.trans (HA.out.mono HR.out.1.size))))))
   have HP:=Aside0.mk (And.intro hr0 hr02)
   have HBA:=Aside0.mk (HR.out.1.trans (HA.out.mono HR.out.1.size))
   clear hx hvb hvl hr0 hr02
   cases r0 with
   | false =>
    go_wp2_with (first
     | (go_at_call 30;(with_reducible refine (spec_isProperty.calls _ A0 c0 d.f0 false _ HX.out.2.1.rd HX.out.2.1.cap (HP.out.1 _ (Nat.le_refl _))).mono ?_);rintro e w5 ⟨rfl,hn5⟩;have HB5:=Aside0.mk hn5.below;clear hn5))
    go_ret
    exact ⟨false,rfl,HBA.out.trans (HB5.out.mono HBA.out.size),fun h => by cases h⟩
   | true =>
    by_cases hne : d.f1.length = 0
    ·have hnz : ((d.f1.length : Int) == 0) = true:=by simp [hne]
     have HNE:=Aside0.mk hne
     clear hne
     go_wp2_with (first
      | (go_at_call 30;(with_reducible refine (spec_isProperty.calls _ A0 c0 d.f0 true _ HX.out.2.1.rd HX.out.2.1.cap (HP.out.1 _ (Nat.le_refl _))).mono ?_);rintro e w5 ⟨rfl,hn5⟩;have HB5:=Aside0.mk hn5.below;obtain ⟨nd,rfl⟩:=hn5.out;clear hn5)
      | (go_at_call 14;(with_reducible refine (areValues_any (HX.out.2.2.1.below HB5.out) (HX.out.2.2.2.below HB5.out)).mono ?_);rintro e w6 ⟨r,rfl,q1,q2⟩;have g6 : w6.cell? ⟨wr.heap.size,1,none⟩ = some (.slice A1 d.f1.length c1):=(pw_cell_below q1 (pw_cell_below HB5.out (by rw [blk_cell (heap_alloc_new wr _)];rfl)));have HQ:=Aside0.mk (And.intro (HBA.out.trans ((HB5.out.trans (q1.mono HB5.out.size)).mono HBA.out.size)) q2);clear q1 q2;rcases r with _|_))
     ·go_ret
      exact ⟨false,rfl,HQ.out.1,fun h => by cases h⟩
     ·go_ret
      exact ⟨false,rfl,HQ.out.1,fun h => by cases h⟩
    ·have hnz : ((d.f1.length : Int) == 0) = false:=by simp;simpa using hne
     have HNE:=Aside0.mk hne
     clear hne
     go_wp2_with (first
      | (go_at_call 30;(with_reducible refine (spec_isProperty.calls _ A0 c0 d.f0 true _ HX.out.2.1.rd HX.out.2.1.cap (HP.out.1 _ (Nat.le_refl _))).mono ?_);rintro e w5 ⟨rfl,hn5⟩;have HB5:=Aside0.mk hn5.below;obtain ⟨nd,rfl⟩:=hn5.out;clear hn5)
      | (go_at_call 14;(with_reducible refine (areValues_any (HX.out.2.2.1.below HB5.out) (HX.out.2.2.2.below HB5.out)).mono ?_);rintro e w6 ⟨r,rfl,q1,q2⟩;have g6 : w6.cell? ⟨wr.heap.size,1,none⟩ = some (.slice A1 d.f1.length c1):=(pw_cell_below q1 (pw_cell_below HB5.out (by rw [blk_cell (heap_alloc_new wr _)];rfl)));have HQ:=Aside0.mk (And.intro (HBA.out.trans ((HB5.out.trans (q1.mono HB5.out.size)).mono HBA.out.size)) q2);clear q1 q2;rcases r with _|_))
     ·go_ret
      exact ⟨false,rfl,HQ.out.1,fun h => by cases h⟩
     ·go_roundg (((ds.length : Int) - (j + 1)).toNat + 1)
      case measure => omega
      case rel =>
       refine ⟨j + 1,rfl,by omega,by omega,⟨HQ.out.1,fun m hm y hy => ?_⟩,rfl⟩
       rcases Int.lt_or_le (m : Int) j with h'|h'
       ·exact HR.out.2 m h' y hy
       ·obtain rfl : m = j.toNat:=by omega
        rw [HX.out.1] at hy
        injection hy with hy
        subst hy
        exact ⟨HP.out.2 (by simp),HQ.out.2 (by simp),fun h => HNE.out (by rw [h];rfl)⟩
  ·have hje : j = ds.length:=by omega
   subst hje
   by_cases h8 : ds.length ≤ 10
   ·have h8z : (ds.length : Int) ≤ 10:=by omega
    go_wp2
    go_ret
    refine ⟨true,by simp,HR.out.1,fun _ => ⟨h8,fun x hx => ?_⟩⟩
    obtain ⟨m,hm,hmx⟩:=List.getElem_of_mem hx
    exact HR.out.2 m (by omega) x (by rw [List.getElem?_eq_getElem hm,hmx])
   ·have h8z : ¬ ((ds.length : Int) ≤ 10):=by omega
    have h8b : decide ((ds.length : Int) ≤ 10) = false:=decide_eq_false h8z
    go_wp2
    go_ret
    exact ⟨false,by simp,HR.out.1,fun h => by cases h⟩
def gapB (st : Int) : ByteArray:=if st = 0 then ⟨#[]⟩ else if st = 1 then ⟨#[32]⟩ else ⟨#[10,32]⟩
def gapL (st : Int) : List Int:=if st = 0 then [] else if st = 1 then [32] else [10,32]
theorem gap_bytes {st : Int} : bytesOf (gapB st) = gapL st:=by
 unfold gapB gapL
 split
 ·rfl
 ·split <;> rfl
theorem gap_len (st : Int) : (gapL st).length ≤ 2:=by unfold gapL;split;simp;split <;> simp
theorem gap_size (st : Int) : (gapB st).size ≤ 2:=by rw [← bytesOf_length,gap_bytes];exact gap_len st
theorem gap_any {w : World} (st : Int) (h0 : 0 ≤ st) (h1 : st ≤ 2) : Calls Tryz.prog 16 #[.int .i64 st] w fun e w' => e = .returned (.string (gapB st)) ∧ w = w':=by
 have hs : st = 0 ∨ st = 1 ∨ st = 2:=by omega
 have k0 : ∀ W : World,(Instr.index 75 (.agg #[.string ⟨#[]⟩,.string ⟨#[32]⟩,.string ⟨#[10,32]⟩]) (.int .i64 0)).run Tryz.prog W = .ok (.string ⟨#[]⟩) W:=fun W => by kernel_rfl
 have k1 : ∀ W : World,(Instr.index 75 (.agg #[.string ⟨#[]⟩,.string ⟨#[32]⟩,.string ⟨#[10,32]⟩]) (.int .i64 1)).run Tryz.prog W = .ok (.string ⟨#[32]⟩) W:=fun W => by kernel_rfl
 have k2 : ∀ W : World,(Instr.index 75 (.agg #[.string ⟨#[]⟩,.string ⟨#[32]⟩,.string ⟨#[10,32]⟩]) (.int .i64 2)).run Tryz.prog W = .ok (.string ⟨#[10,32]⟩) W:=fun W => by kernel_rfl
 rcases hs with rfl|rfl|rfl
 all_goals
  go_enter Tryz.func16,Tryz.ntmps16
  go_wp2
  go_ret
  exact ⟨rfl,rfl⟩
def txOne (st : Int) (first : Bool) (d : S68) : List Int:=(if first then [] else [59] ++ gapL st) ++ d.f0 ++ [58] ++ gapL st ++ (wordsL d.f1).drop 1
def txAll (st : Int) : List S68 → List Int
 | [] => []
 | d :: r => txOne st true d ++ r.flatMap (txOne st false)
theorem txAll_take {st : Int} {ds : List S68} {j : Nat} {d : S68} (h : ds[j]? = some d) : txAll st (ds.take (j + 1)) = txAll st (ds.take j) ++ txOne st (decide (j = 0)) d:=by
 cases ds with
 | nil => simp at h
 | cons d0 r =>
  cases j with
  | zero => simp at h;subst h;simp [txAll]
  | succ j =>
   simp only [List.getElem?_cons_succ] at h
   rw [List.take_succ_cons,List.take_succ_cons]
   simp only [txAll]
   rw [List.take_add_one,h,List.flatMap_append]
   simp
theorem reads_of_CI {w : World} {A : Option Addr} {xs : List Int} (h : Kd.C (Kd.int .u8) w A xs.length xs) : ReadsInt w .u8 A xs.length xs:=readsInt_of.2 (Kd.reads_of_C h)
theorem cut_one {w : World} {A : Option Addr} {c : Nat} {t : List Int} (hc : t.length ≤ c) (h : Kd.C (Kd.int .u8) w A t.length t) (hlo : 1 ≤ t.length) :
  ∃ A1 c1,Kd.C (Kd.int .u8) w A1 (t.drop 1).length (t.drop 1) ∧ ∀ W : World,(Instr.slice 24 (.slice A t.length c) (some (.int .i64 1)) none none).run Tryz.prog W = .ok (.slice A1 (t.drop 1).length c1) W:=by
 obtain ⟨i0,hi0,hzz⟩:=Option.map_eq_some_iff.1 info5
 simp only [Prod.mk.injEq] at hzz
 refine ⟨_,c - 1,Kd.C_drop (c:=c) h hlo hc,fun W => ?_⟩
 have hel : Tryz.prog.elem 24 = 5:=by simp [Program.elem,Tryz.underlying24]
 have hu : Tryz.prog.underlying 24 = some (.slice (Tryz.prog.elem 24)):=by rw [hel];exact Tryz.underlying24
 rw [run_slice_l W 24 A t.length c hu .i64 1 (by omega) (by omega),hel]
 simp [sizeOf,typeInfo,hi0,hzz.2.1,sliced,Result.andThen,show (Kd.int .u8).sz = 1 from rfl]
structure DT (w0 : World) (W : World) (v : Value) (xs : List Int) (L : Nat) : Prop where
 own : W.ownsRow w0.heap.size 5 1 v xs.length (nums .u8 xs)
 be : Below w0.heap.size w0 W
 len : xs.length ≤ L
theorem DT.hB {w0 W : World} {v : Value} {xs : List Int} {L : Nat} (h : DT w0 W v xs L) : w0.heap.size ≤ W.heap.size:=h.be.size
theorem DT.below {w0 W W' : World} {v : Value} {xs : List Int} {L : Nat} (h : DT w0 W v xs L) (hb : Below W.heap.size W W') : DT w0 W' v xs L:=⟨pw_own_below h.own hb,h.be.trans (hb.mono h.be.size),h.len⟩
theorem DT.blk {w0 W w1 : World} {v : Value} {xs : List Int} {L : Nat} (h : DT w0 W v xs L) (hg : W.grownBy w1 v.ownBlock) {g : Nat} {cs : Array Value} (hb : W.heap[g]? = some (.cells cs 68 (0,0))) : w1.heap[g]? = some (.cells cs 68 (0,0)) :=
 (hg.block g (blk_lt hb) (own_ne h.own hb (by decide))).trans hb
theorem DT.slice {w0 W : World} {v : Value} {xs : List Int} {L : Nat} (h : DT w0 W v xs L) : ∃ A n c,v = .slice A n c:=by
 obtain ⟨A,c,e⟩:=own_slice h.own
 exact ⟨A,_,c,e⟩
def DtP (w : World) (xs : List Int) (e : Ending) (w' : World) : Prop:=∃ v,e = .returned v ∧ w'.ownsRow w.heap.size 5 1 v xs.length (nums .u8 xs) ∧ Below w.heap.size w w'
theorem pw_blk_below {w w' : World} {g : Nat} {o : Obj} (h : w.heap[g]? = some o) (hb : Below w.heap.size w w') : w'.heap[g]? = some o:=(hb.block g (blk_lt h)).trans h
theorem wordsL_le {ws : List (List Int)} (h : ∀ x ∈ ws,x.length ≤ 60) : (wordsL ws).length ≤ 61 * ws.length:=by
 induction ws with
 | nil => simp [wordsL]
 | cons x r ih =>
  have:=ih (fun y hy => h y (by simp [hy]))
  have hx:=h x (by simp)
  unfold wordsL at *
  simp only [List.flatMap_cons,List.length_append,List.length_cons]
  omega
theorem wordsL_pos {ws : List (List Int)} (h : ws ≠ []) : 1 ≤ (wordsL ws).length:=by
 cases ws with
 | nil => exact absurd rfl h
 | cons x r => simp [wordsL]
theorem DeclarationsText_any {w : World} {A : Option Addr} {c : Nat} {ds : List S68} (h : DL w A c ds) (hv : Vds ds) (st : Int) (hst0 : 0 ≤ st) (hst1 : st ≤ 2) :
  Calls Tryz.prog 12 #[.slice A ds.length c,.int .i64 st] w (DtP w (txAll st ds)):=by
 have hl:=hv.len
 have HV:=Aside0.mk (And.intro h hv)
 clear h hv
 have hP0 : DT w (w.alloc (.cells #[] 5)) (.slice (some ⟨w.heap.size,0,none⟩) 0 0) (txAll st (ds.take 0)) 0:=by
  refine ⟨⟨rfl,.inr ⟨w.heap.size,0,#[],rfl,Nat.le_refl _,?_,by simp [txAll],by simp [maxLen,txAll],by simp,by simp [txAll,nums]⟩⟩,below_alloc (Below.refl _ _) _,by simp [txAll]⟩
  simpa using heap_alloc_new w (.cells #[] 5)
 have HP0:=Aside0.mk hP0
 clear hP0
 go_enter Tryz.func12,Tryz.ntmps12
 go_wp2
 go_loopg [5,11] (ds.length + 1) (fun gk v5 v11 wr => ∃ j : Int,v11 = .int .i64 j ∧ 0 ≤ j ∧ j ≤ ds.length ∧ Aside0 (DT w wr v5 (txAll st (ds.take j.toNat)) (1000 * j.toNat)) ∧ gk = ((ds.length : Int) - j).toNat + 1)
 case atStart => exact ⟨0,rfl,by omega,by omega,HP0,by omega⟩
 case round =>
  clear HP0
  obtain ⟨j,rfl,h0,h1,HR,rfl⟩:=hrel
  by_cases hj : j < ds.length
  ·obtain ⟨ad,A0,c0,A1,c1,d,rfl,hx,x0,x1,hvb,hvl⟩:=HV.out.1.get h0 hj
   replace x0:=pw_cell_below HR.out.be x0
   replace x1:=pw_cell_below HR.out.be x1
   have hjt:=eq_true h0
   have HVB:=Aside0.mk hvb
   have HVL:=Aside0.mk hvl
   have HD:=Aside0.mk (And.intro hx (HV.out.2.ok d (List.mem_of_getElem? hx)))
   obtain ⟨wl,hwl⟩ : ∃ x,(wordsL d.f1).drop 1 = x:=⟨_,rfl⟩
   have HWL : Aside0 (1 ≤ (wordsL d.f1).length ∧ wl.length ≤ 500 ∧ (wordsL d.f1).drop 1 = wl):=⟨wordsL_pos HD.out.2.ne,by
    have h1:=wordsL_le (ws:=d.f1) (fun x hx => by obtain ⟨qs,hq⟩:=HD.out.2.words.ok x hx;exact hq.len)
    have h2:=HD.out.2.words.len
    rw [← hwl,List.length_drop];omega,hwl⟩
   clear hvb hvl hx hwl
   obtain ⟨L,hL⟩ : ∃ L,1000 * j.toNat = L:=⟨_,rfl⟩
   have hLb : L ≤ 10000:=by omega
   rw [hL] at HR
   obtain ⟨A5,n5,c5,rfl⟩:=HR.out.slice
   have HP:=Aside0.mk (And.intro (HR.out.below (below_alloc (Below.refl _ _) (.cells #[.slice A0 d.f0.length c0,.slice A1 d.f1.length c1] 68))) (heap_alloc_new wr (.cells #[.slice A0 d.f0.length c0,.slice A1 d.f1.length c1] 68)))
   have htx:=txAll_take (st:=st) HD.out.1
   have HTX:=Aside0.mk htx
   clear htx
   by_cases hj0 : j = 0
   ·subst hj0
    have x0' : wr.cell? ad = some (.slice A0 d.f0.length c0):=by rw [← x0];simp [Addr.add]
    have x1' : wr.cell? ⟨ad.block,ad.off + 1,none⟩ = some (.slice A1 d.f1.length c1):=by rw [← x1];simp [Addr.add]
    clear x0 x1
    go_wp2_with (first
     | (at_builtin;refine print_append_row (w0:=w) w.heap.size rfl (.tmp 24) (.tmp 26) 24 5 .u8 1 (by rfl) Tryz.underlying24 info5 (by decide) (.slice A5 n5 c5) _ _ A0 d.f0.length c0 (by rfl) (by rfl) HP.out.1.own (reads_of_CI (Kd.C_below HVB.out.rd HP.out.1.be)) HP.out.1.be HP.out.1.hB (by have:=HP.out.1.len;have:=HD.out.2.name.len;omega) ?_;intro v3 w3 hown hB hg hat;have HP3:=Aside0.mk (And.intro (DT.mk (L:=L + 30) hown hB (by have a1:=HP.out.1.len;have a2:=HD.out.2.name.len;rw [List.length_append];omega)) (HP.out.1.blk hg HP.out.2));clear hown hB hg hat)
     | (at_builtin;refine print_append_num (w0:=w) w.heap.size rfl (.tmp 27) (.tmp 28) 24 5 .u8 1 (by rfl) Tryz.underlying24 info5 (by decide) v3 _ 58 (by rfl) (by first|rfl|simp [Act.eval]) HP3.out.1.own HP3.out.1.be HP3.out.1.hB (by have:=HP3.out.1.len;omega) ?_;intro v4 w4 hown hB hg hat;have HP4:=Aside0.mk (And.intro (DT.mk (L:=L + 31) hown hB (by have a1:=HP3.out.1.len;rw [List.length_append,List.length_singleton];omega)) (HP3.out.1.blk hg HP3.out.2));clear hown hB hg hat)
     | (go_at_call 16;(with_reducible refine (gap_any st hst0 hst1).mono ?_);rintro e w' ⟨rfl,rfl⟩)
     | (at_builtin;refine print_append_str (w0:=w) w.heap.size rfl (.tmp 29) (.tmp 31) 24 9 5 (by rfl) Tryz.underlying24 Tryz.underlying9 info5 v4 _ (gapB st) (by rfl) (by rfl) HP4.out.1.own HP4.out.1.be HP4.out.1.hB (by have:=HP4.out.1.len;have:=gap_size st;omega) ?_;rw [gap_bytes];intro v5b w5 hown hB hg;have HP5:=Aside0.mk (And.intro (DT.mk (L:=L + 33) hown hB (by have a1:=HP4.out.1.len;have a2:=gap_len st;rw [List.length_append];omega)) (HP4.out.1.blk hg HP4.out.2));clear hown hB hg;have y1 : w5.cell? ⟨wr.heap.size,1,none⟩ = some (.slice A1 d.f1.length c1):=(by rw [blk_cell HP5.out.2];rfl))
     | (go_at_call 17;(with_reducible refine (spec_words.calls _ A1 c1 d.f1 _ _ (Kd.C_below HVL.out.rd HP5.out.1.be) HVL.out.cap (words_f d.f1 (fun x hx => by obtain ⟨qs,hq⟩:=HD.out.2.words.ok x hx;have:=hq.len;omega) (by have:=HD.out.2.words.len;omega) _ (Nat.le_refl _))).mono ?_);rintro e w6 ⟨vw,rfl,hvw,hb6⟩;obtain ⟨Aw,cw,rfl⟩:=Kd.R_slice hvw;obtain ⟨-,hcw,hCw⟩:=Kd.R_reads' hvw;obtain ⟨Aq,cq,hCq,hcutq⟩:=cut_one hcw hCw HWL.out.1;rw [HWL.out.2.2] at hCq hcutq;have HP6:=Aside0.mk (And.intro (HP5.out.1.below hb6) (pw_blk_below HP5.out.2 hb6));have HCQ:=Aside0.mk hCq;clear hvw hb6 hcw hCw hCq)
     | (at_builtin;refine print_append_row (w0:=w) w.heap.size rfl (.tmp 33) (.tmp 37) 24 5 .u8 1 (by rfl) Tryz.underlying24 info5 (by decide) v5b _ _ Aq wl.length cq (by rfl) (by rfl) HP6.out.1.own (reads_of_CI HCQ.out) HP6.out.1.be HP6.out.1.hB (by have:=HP6.out.1.len;have:=HWL.out.2.1;omega) ?_;intro v7 w7 hown hB hg hat;have HP7:=Aside0.mk (And.intro (DT.mk (L:=L + 533) hown hB (by have a1:=HP6.out.1.len;have a2:=HWL.out.2.1;rw [List.length_append];omega)) (HP6.out.1.blk hg HP6.out.2));clear hown hB hg hat))
    go_roundg (((ds.length : Int) - (0 + 1)).toNat + 1)
    case measure => omega
    case rel =>
     refine ⟨0 + 1,rfl,by omega,by omega,⟨?_⟩,rfl⟩
     have h7:=HP7.out.1
     have e : txAll st (ds.take (0 + 1 : Int).toNat) = (((((txAll st (ds.take (0 : Int).toNat) ++ d.f0) ++ [58]) ++ gapL st) ++ wl)):=by
      rw [show (0 + 1 : Int).toNat = (0 : Int).toNat + 1 by omega,HTX.out]
      unfold txOne
      rw [← HWL.out.2.2,decide_eq_true (show (0 : Int).toNat = 0 from rfl)]
      simp
     rw [e]
     exact ⟨h7.own,h7.be,by have:=h7.len;omega⟩
   ·have hjz : 0 < j:=by omega
    go_wp2_with (first
     | (at_builtin;refine print_append_num (w0:=w) w.heap.size rfl (.tmp 18) (.tmp 19) 24 5 .u8 1 (by rfl) Tryz.underlying24 info5 (by decide) (.slice A5 n5 c5) _ 59 (by rfl) (by first|rfl|simp [Act.eval]) HP.out.1.own HP.out.1.be HP.out.1.hB (by have:=HP.out.1.len;omega) ?_;intro v1 w1 hown hB hg hat;have HP1:=Aside0.mk (And.intro (DT.mk (L:=L + 1) hown hB (by have a1:=HP.out.1.len;rw [List.length_append,List.length_singleton];omega)) (HP.out.1.blk hg HP.out.2));clear hown hB hg hat)
     | (go_at_call 16;(with_reducible refine (gap_any st hst0 hst1).mono ?_);rintro e w' ⟨rfl,rfl⟩)
     | (at_builtin;refine print_append_str (w0:=w) w.heap.size rfl (.tmp 20) (.tmp 22) 24 9 5 (by rfl) Tryz.underlying24 Tryz.underlying9 info5 v1 _ (gapB st) (by rfl) (by rfl) HP1.out.1.own HP1.out.1.be HP1.out.1.hB (by have:=HP1.out.1.len;have:=gap_size st;omega) ?_;rw [gap_bytes];intro v2b w2 hown hB hg;have HP2:=Aside0.mk (And.intro (DT.mk (L:=L + 3) hown hB (by have a1:=HP1.out.1.len;have a2:=gap_len st;rw [List.length_append];omega)) (HP1.out.1.blk hg HP1.out.2));clear hown hB hg;have y0 : w2.cell? ⟨wr.heap.size,0,none⟩ = some (.slice A0 d.f0.length c0):=(by rw [blk_cell HP2.out.2];rfl))
     | (at_builtin;refine print_append_row (w0:=w) w.heap.size rfl (.tmp 24) (.tmp 26) 24 5 .u8 1 (by rfl) Tryz.underlying24 info5 (by decide) v2b _ _ A0 d.f0.length c0 (by rfl) (by rfl) HP2.out.1.own (reads_of_CI (Kd.C_below HVB.out.rd HP2.out.1.be)) HP2.out.1.be HP2.out.1.hB (by have:=HP2.out.1.len;have:=HD.out.2.name.len;omega) ?_;intro v3 w3 hown hB hg hat;have HP3:=Aside0.mk (And.intro (DT.mk (L:=L + 33) hown hB (by have a1:=HP2.out.1.len;have a2:=HD.out.2.name.len;rw [List.length_append];omega)) (HP2.out.1.blk hg HP2.out.2));clear hown hB hg hat)
     | (at_builtin;refine print_append_num (w0:=w) w.heap.size rfl (.tmp 27) (.tmp 28) 24 5 .u8 1 (by rfl) Tryz.underlying24 info5 (by decide) v3 _ 58 (by rfl) (by first|rfl|simp [Act.eval]) HP3.out.1.own HP3.out.1.be HP3.out.1.hB (by have:=HP3.out.1.len;omega) ?_;intro v4 w4 hown hB hg hat;have HP4:=Aside0.mk (And.intro (DT.mk (L:=L + 34) hown hB (by have a1:=HP3.out.1.len;rw [List.length_append,List.length_singleton];omega)) (HP3.out.1.blk hg HP3.out.2));clear hown hB hg hat)
     | (go_at_call 16;(with_reducible refine (gap_any st hst0 hst1).mono ?_);rintro e w' ⟨rfl,rfl⟩)
     | (at_builtin;refine print_append_str (w0:=w) w.heap.size rfl (.tmp 29) (.tmp 31) 24 9 5 (by rfl) Tryz.underlying24 Tryz.underlying9 info5 v4 _ (gapB st) (by rfl) (by rfl) HP4.out.1.own HP4.out.1.be HP4.out.1.hB (by have:=HP4.out.1.len;have:=gap_size st;omega) ?_;rw [gap_bytes];intro v5b w5 hown hB hg;have HP5:=Aside0.mk (And.intro (DT.mk (L:=L + 36) hown hB (by have a1:=HP4.out.1.len;have a2:=gap_len st;rw [List.length_append];omega)) (HP4.out.1.blk hg HP4.out.2));clear hown hB hg;have y1 : w5.cell? ⟨wr.heap.size,1,none⟩ = some (.slice A1 d.f1.length c1):=(by rw [blk_cell HP5.out.2];rfl))
     | (go_at_call 17;(with_reducible refine (spec_words.calls _ A1 c1 d.f1 _ _ (Kd.C_below HVL.out.rd HP5.out.1.be) HVL.out.cap (words_f d.f1 (fun x hx => by obtain ⟨qs,hq⟩:=HD.out.2.words.ok x hx;have:=hq.len;omega) (by have:=HD.out.2.words.len;omega) _ (Nat.le_refl _))).mono ?_);rintro e w6 ⟨vw,rfl,hvw,hb6⟩;obtain ⟨Aw,cw,rfl⟩:=Kd.R_slice hvw;obtain ⟨-,hcw,hCw⟩:=Kd.R_reads' hvw;obtain ⟨Aq,cq,hCq,hcutq⟩:=cut_one hcw hCw HWL.out.1;rw [HWL.out.2.2] at hCq hcutq;have HP6:=Aside0.mk (And.intro (HP5.out.1.below hb6) (pw_blk_below HP5.out.2 hb6));have HCQ:=Aside0.mk hCq;clear hvw hb6 hcw hCw hCq)
     | (at_builtin;refine print_append_row (w0:=w) w.heap.size rfl (.tmp 33) (.tmp 37) 24 5 .u8 1 (by rfl) Tryz.underlying24 info5 (by decide) v5b _ _ Aq wl.length cq (by rfl) (by rfl) HP6.out.1.own (reads_of_CI HCQ.out) HP6.out.1.be HP6.out.1.hB (by have:=HP6.out.1.len;have:=HWL.out.2.1;omega) ?_;intro v7 w7 hown hB hg hat;have HP7:=Aside0.mk (And.intro (DT.mk (L:=L + 536) hown hB (by have a1:=HP6.out.1.len;have a2:=HWL.out.2.1;rw [List.length_append];omega)) (HP6.out.1.blk hg HP6.out.2));clear hown hB hg hat))
    go_roundg (((ds.length : Int) - (j + 1)).toNat + 1)
    case measure => omega
    case rel =>
     refine ⟨j + 1,rfl,by omega,by omega,⟨?_⟩,rfl⟩
     have h7:=HP7.out.1
     have e : txAll st (ds.take (j + 1 : Int).toNat) = (((((((txAll st (ds.take j.toNat) ++ [59]) ++ gapL st) ++ d.f0) ++ [58]) ++ gapL st) ++ wl)):=by
      rw [show (j + 1 : Int).toNat = (j : Int).toNat + 1 by omega,HTX.out]
      unfold txOne
      rw [← HWL.out.2.2,decide_eq_false (show ¬ j.toNat = 0 by omega)]
      simp
     rw [e]
     exact ⟨h7.own,h7.be,by have:=h7.len;omega⟩
  ·have hje : j = ds.length:=by omega
   subst hje
   obtain ⟨A5,n5,c5,rfl⟩:=HR.out.slice
   go_wp2
   go_ret
   have h7:=HR.out
   rw [show ((ds.length : Nat) : Int).toNat = ds.length by omega,List.take_length] at h7
   exact ⟨_,rfl,h7.own,h7.be⟩
def barW (ws : List (List Int)) : List Int:=ws.flatMap (· ++ [124])
theorem barW_take {ws : List (List Int)} {j : Nat} {x : List Int} (h : ws[j]? = some x) : barW (ws.take (j + 1)) = barW (ws.take j) ++ x ++ [124]:=by
 unfold barW
 rw [List.take_add_one,h,List.flatMap_append]
 simp
theorem barW_le {ws : List (List Int)} (j : Nat) : (barW (ws.take j)).length ≤ (barW ws).length:=by
 have : barW ws = barW (ws.take j) ++ barW (ws.drop j):=by
  unfold barW
  rw [← List.flatMap_append,List.take_append_drop]
 rw [this,List.length_append]
 omega
structure WL (w : World) (A : Option Addr) (c : Nat) (ws : List (List Int)) : Prop where
 cap : ws.length ≤ c
 rd : Kd.C (Kd.slice 5 (Kd.int .u8)) w A ws.length ws
theorem WL.get {w : World} {A : Option Addr} {c : Nat} {ws : List (List Int)} (h : WL w A c ws) {j : Int} (h0 : 0 ≤ j) (h1 : j < ws.length) :
  ∃ ad A0 c0 x,A = some ad ∧ ws[j.toNat]? = some x ∧ w.cell? (ad.add j.toNat) = some (.slice A0 x.length c0) ∧ x.length ≤ c0 ∧ Kd.C (Kd.int .u8) w A0 x.length x:=by
 obtain ⟨ad,A0,c0,e,x0,x1,x2⟩:=at_L6 h.rd j h0 h1
 have hx : ws[j.toNat]? = some (rd_L6 ws j):=by
  unfold rd_L6
  rw [List.getD_eq_getElem?_getD,List.getElem?_eq_getElem (by omega)];rfl
 exact ⟨ad,A0,c0,_,e,hx,x0,x1,x2⟩
structure PI (w0 W : World) (kd : ByteArray) (D : Value) (v : Value) (xs : List Int) : Prop where
 own : W.ownsRow w0.heap.size 5 1 v xs.length (nums .u8 xs)
 be : Below w0.heap.size w0 W
 out : W.heap[w0.heap.size]? = some (.cells #[.string ⟨#[]⟩,.slice none 0 0,.slice none 0 0,.slice none 0 0,.slice none 0 0,.string ⟨#[]⟩] 55 (0,0))
 blk : W.heap[w0.heap.size + 1]? = some (.cells #[.string kd,D,v,.slice none 0 0,.slice none 0 0,.string ⟨#[]⟩] 55 (0,0))
theorem PI.slice {w0 W : World} {kd : ByteArray} {D v : Value} {xs : List Int} (h : PI w0 W kd D v xs) : ∃ A n c,v = .slice A n c:=by
 obtain ⟨A,c,e⟩:=own_slice h.own
 exact ⟨A,_,c,e⟩
def PtP (w : World) (kd : ByteArray) (D : Value) (xs : List Int) (e : Ending) (w' : World) : Prop:=∃ v,e = .returned (.agg #[.string kd,D,v,.slice none 0 0,.slice none 0 0,.string ⟨#[]⟩]) ∧ w'.ownsRow w.heap.size 5 1 v xs.length (nums .u8 xs) ∧ Below w.heap.size w w'
theorem part_any {w : World} {A : Option Addr} {c : Nat} {ws : List (List Int)} (kd : ByteArray) (Ad : Option Addr) (nd cd : Nat) (h : WL w A c ws) (hb : (barW ws).length ≤ 1000000) (hl : ws.length ≤ 1000000) :
  Calls Tryz.prog 27 #[.string kd,.slice Ad nd cd,.slice A ws.length c] w (PtP w kd (.slice Ad nd cd) (barW ws)):=by
 have HV:=Aside0.mk (And.intro h hb)
 clear h hb
 have hP0 : PI w ((w.alloc (.cells #[.string ⟨#[]⟩,.slice none 0 0,.slice none 0 0,.slice none 0 0,.slice none 0 0,.string ⟨#[]⟩] 55)).alloc (.cells #[.string kd,.slice Ad nd cd,.slice none 0 0,.slice none 0 0,.slice none 0 0,.string ⟨#[]⟩] 55)) kd (.slice Ad nd cd) (.slice none 0 0) (barW (ws.take 0)):=by
  refine ⟨⟨rfl,.inl ⟨rfl,by simp [barW,nums]⟩⟩,below_alloc (below_alloc (Below.refl _ _) _) _,?_,?_⟩
  ·rw [(World.grownBy_alloc _ _ none).block _ (by simp) (by simp)]
   exact heap_alloc_new w _
  ·have:=heap_alloc_new (w.alloc (.cells #[.string ⟨#[]⟩,.slice none 0 0,.slice none 0 0,.slice none 0 0,.slice none 0 0,.string ⟨#[]⟩] 55)) (.cells #[.string kd,.slice Ad nd cd,.slice none 0 0,.slice none 0 0,.slice none 0 0,.string ⟨#[]⟩] 55)
   simpa using this
 have HP0:=Aside0.mk hP0
 clear hP0
 go_enter Tryz.func27,Tryz.ntmps27
 go_wp2
 go_loopg [15] (ws.length + 1) (fun gk v15 wr => ∃ j : Int,v15 = .int .i64 j ∧ 0 ≤ j ∧ j ≤ ws.length ∧ Aside0 (∃ v,PI w wr kd (.slice Ad nd cd) v (barW (ws.take j.toNat))) ∧ gk = ((ws.length : Int) - j).toNat + 1)
 case atStart => exact ⟨0,rfl,by omega,by omega,⟨_,HP0.out⟩,by omega⟩
 case round =>
  clear HP0
  obtain ⟨j,rfl,h0,h1,⟨v,hR⟩,rfl⟩:=hrel
  obtain ⟨A5,n5,c5,rfl⟩:=hR.slice
  have HR:=Aside0.mk hR
  have y0 : wr.cell? ⟨w.heap.size + 1,0,none⟩ = some (.string kd):=by rw [blk_cell hR.blk];rfl
  have y1 : wr.cell? ⟨w.heap.size + 1,1,none⟩ = some (.slice Ad nd cd):=by rw [blk_cell hR.blk];rfl
  have y2 : wr.cell? ⟨w.heap.size + 1,2,none⟩ = some (.slice A5 n5 c5):=by rw [blk_cell hR.blk];rfl
  have y3 : wr.cell? ⟨w.heap.size + 1,3,none⟩ = some (.slice none 0 0):=by rw [blk_cell hR.blk];rfl
  have y4 : wr.cell? ⟨w.heap.size + 1,4,none⟩ = some (.slice none 0 0):=by rw [blk_cell hR.blk];rfl
  have y5 : wr.cell? ⟨w.heap.size + 1,5,none⟩ = some (.string ⟨#[]⟩):=by rw [blk_cell hR.blk];rfl
  clear hR
  by_cases hj : j < ws.length
  ·obtain ⟨ad,A0,c0,x,rfl,hx,x0,x1,x2⟩:=HV.out.1.get h0 hj
   replace x0:=pw_cell_below HR.out.be x0
   have HX:=Aside0.mk (And.intro hx (And.intro x1 x2))
   have hlen : (barW (ws.take j.toNat) ++ x ++ [124]).length ≤ 1000000:=by
    rw [← barW_take hx]
    have:=barW_le (ws:=ws) (j.toNat + 1)
    have:=HV.out.2
    omega
   have hlx : (barW (ws.take j.toNat) ++ x).length + 1 ≤ 1000000:=by rw [List.length_append] at hlen;exact hlen
   have HL:=Aside0.mk hlx
   clear hx x1 x2 hlen hlx
   have hjt:=eq_true h0
   go_wp2_with (first
    | (at_builtin;refine print_append_row (w0:=w) w.heap.size rfl (.tmp 20) (.tmp 21) 24 5 .u8 1 (by rfl) Tryz.underlying24 info5 (by decide) (.slice A5 n5 c5) _ _ A0 x.length c0 (by rfl) (by rfl) HR.out.own (reads_of_CI (Kd.C_below HX.out.2.2 HR.out.be)) HR.out.be HR.out.be.size (by have:=HL.out;rw [List.length_append] at this;omega) ?_;intro v3 w3 hown hB hg hat;have HP3:=Aside0.mk (And.intro hown (And.intro hB hg));clear hown hB hg hat)
    | (at_builtin;refine print_append_num (w0:=w) w.heap.size rfl (.tmp 22) (.tmp 23) 24 5 .u8 1 (by rfl) Tryz.underlying24 info5 (by decide) v3 _ 124 (by rfl) (by first|rfl|simp [Act.eval]) HP3.out.1 HP3.out.2.1 HP3.out.2.1.size (by have:=HL.out;omega) ?_;intro v4 w4 hown hB hg hat;obtain ⟨A4,c4,rfl⟩:=own_slice hown;have HP4:=Aside0.mk (And.intro hown (And.intro hB hg));clear hown hB hg hat;have hblk:=HR.out.blk;replace hblk:=blk_grown hblk HP3.out.2.2 (own_ne HR.out.own hblk (by decide));replace hblk:=blk_grown hblk HP4.out.2.2 (own_ne HP3.out.1 hblk (by decide));have z2 : w4.cell? ⟨w.heap.size + 1,2,none⟩ = some (.slice A5 n5 c5):=(by rw [blk_cell hblk];rfl);have zf:=blk_frozen hblk 2;have HBL:=Aside0.mk hblk;clear hblk))
   go_roundg (((ws.length : Int) - (j + 1)).toNat + 1)
   case measure => omega
   case rel =>
    refine ⟨j + 1,rfl,by omega,by omega,⟨.slice A4 (barW (ws.take j.toNat) ++ x ++ [124]).length c4,?_⟩,rfl⟩
    rw [show (j + 1).toNat = j.toNat + 1 by omega,barW_take HX.out.1]
    have ho:=HR.out.out
    have ho2:=blk_grown (blk_grown ho HP3.out.2.2 (own_ne HR.out.own ho (by decide))) HP4.out.2.2 (own_ne HP3.out.1 (blk_grown ho HP3.out.2.2 (own_ne HR.out.own ho (by decide))) (by decide))
    refine ⟨own_setCell HP4.out.1 (own_ne HP4.out.1 HBL.out (by decide)) _,below_set HP4.out.2.1 (by omega),blk_far ho2 (by simp) _,?_⟩
    have hs:=blk_set HBL.out 2 (.slice A4 (barW (ws.take j.toNat) ++ x ++ [124]).length c4)
    simp only [List.setIfInBounds_toArray,List.set_cons_zero,List.set_cons_succ] at hs
    simpa only [List.length_append,List.length_cons,List.length_nil,Nat.add_assoc] using hs
  ·have hje : j = ws.length:=by omega
   subst hje
   have b0:=HR.out.out
   have q0 : (wr).cell? ⟨w.heap.size,0,none⟩ = some (.string ⟨#[]⟩):=by rw [blk_cell b0];rfl
   have f0 : (wr).frozen? ⟨w.heap.size,0,none⟩ = false:=blk_frozen b0 0
   have b1:=blk_set b0 0 (.string kd)
   have q1 : ((wr).setCell ⟨w.heap.size,0,none⟩ (.string kd)).cell? ⟨w.heap.size,1,none⟩ = some (.slice none 0 0):=by rw [blk_cell b1];rfl
   have f1 : ((wr).setCell ⟨w.heap.size,0,none⟩ (.string kd)).frozen? ⟨w.heap.size,1,none⟩ = false:=blk_frozen b1 1
   have b2:=blk_set b1 1 (.slice Ad nd cd)
   have q2 : (((wr).setCell ⟨w.heap.size,0,none⟩ (.string kd)).setCell ⟨w.heap.size,1,none⟩ (.slice Ad nd cd)).cell? ⟨w.heap.size,2,none⟩ = some (.slice none 0 0):=by rw [blk_cell b2];rfl
   have f2 : (((wr).setCell ⟨w.heap.size,0,none⟩ (.string kd)).setCell ⟨w.heap.size,1,none⟩ (.slice Ad nd cd)).frozen? ⟨w.heap.size,2,none⟩ = false:=blk_frozen b2 2
   have b3:=blk_set b2 2 (.slice A5 n5 c5)
   have q3 : ((((wr).setCell ⟨w.heap.size,0,none⟩ (.string kd)).setCell ⟨w.heap.size,1,none⟩ (.slice Ad nd cd)).setCell ⟨w.heap.size,2,none⟩ (.slice A5 n5 c5)).cell? ⟨w.heap.size,3,none⟩ = some (.slice none 0 0):=by rw [blk_cell b3];rfl
   have f3 : ((((wr).setCell ⟨w.heap.size,0,none⟩ (.string kd)).setCell ⟨w.heap.size,1,none⟩ (.slice Ad nd cd)).setCell ⟨w.heap.size,2,none⟩ (.slice A5 n5 c5)).frozen? ⟨w.heap.size,3,none⟩ = false:=blk_frozen b3 3
   have b4:=blk_set b3 3 (.slice none 0 0)
   have q4 : (((((wr).setCell ⟨w.heap.size,0,none⟩ (.string kd)).setCell ⟨w.heap.size,1,none⟩ (.slice Ad nd cd)).setCell ⟨w.heap.size,2,none⟩ (.slice A5 n5 c5)).setCell ⟨w.heap.size,3,none⟩ (.slice none 0 0)).cell? ⟨w.heap.size,4,none⟩ = some (.slice none 0 0):=by rw [blk_cell b4];rfl
   have f4 : (((((wr).setCell ⟨w.heap.size,0,none⟩ (.string kd)).setCell ⟨w.heap.size,1,none⟩ (.slice Ad nd cd)).setCell ⟨w.heap.size,2,none⟩ (.slice A5 n5 c5)).setCell ⟨w.heap.size,3,none⟩ (.slice none 0 0)).frozen? ⟨w.heap.size,4,none⟩ = false:=blk_frozen b4 4
   have b5:=blk_set b4 4 (.slice none 0 0)
   have q5 : ((((((wr).setCell ⟨w.heap.size,0,none⟩ (.string kd)).setCell ⟨w.heap.size,1,none⟩ (.slice Ad nd cd)).setCell ⟨w.heap.size,2,none⟩ (.slice A5 n5 c5)).setCell ⟨w.heap.size,3,none⟩ (.slice none 0 0)).setCell ⟨w.heap.size,4,none⟩ (.slice none 0 0)).cell? ⟨w.heap.size,5,none⟩ = some (.string ⟨#[]⟩):=by rw [blk_cell b5];rfl
   have f5 : ((((((wr).setCell ⟨w.heap.size,0,none⟩ (.string kd)).setCell ⟨w.heap.size,1,none⟩ (.slice Ad nd cd)).setCell ⟨w.heap.size,2,none⟩ (.slice A5 n5 c5)).setCell ⟨w.heap.size,3,none⟩ (.slice none 0 0)).setCell ⟨w.heap.size,4,none⟩ (.slice none 0 0)).frozen? ⟨w.heap.size,5,none⟩ = false:=blk_frozen b5 5
   have b6:=blk_set b5 5 (.string ⟨#[]⟩)
   have HB6:=Aside0.mk b6
   clear b0 b1 b2 b3 b4 b5 b6
   go_wp2
   (try simp only [Exit.inBlock,Exit.then])
   have h6:=HB6.out
   simp only [List.setIfInBounds_toArray,List.set_cons_zero,List.set_cons_succ] at h6
   refine bodyPost_ret (results_cell_row rfl _ _ w.heap.size 55 _ (0,0) _ rfl h6 (by rfl) (by rfl) (by rfl)) rfl ?_
   have hr:=HR.out
   rw [show ((ws.length : Nat) : Int).toNat = ws.length by omega,List.take_length] at hr
   have hn : some w.heap.size ≠ (Value.slice A5 n5 c5).ownBlock:=own_ne hr.own hr.out (by decide)
   refine ⟨_,rfl,?_,?_⟩
   ·exact own_setCell (own_setCell (own_setCell (own_setCell (own_setCell (own_setCell hr.own hn _) hn _) hn _) hn _) hn _) hn _
   ·exact below_set (below_set (below_set (below_set (below_set (below_set hr.be (Nat.le_refl _)) (Nat.le_refl _)) (Nat.le_refl _)) (Nat.le_refl _)) (Nat.le_refl _)) (Nat.le_refl _)
theorem info24z : (Tryz.prog.info? 24).map (fun i => (i.zero,i.size,i.bytes)) = some (some (.slice none 0 0),1,24):=by kernel_rfl
theorem add_blk (ad : Addr) (k : Nat) : (ad.add k).block = ad.block:=by
 unfold Addr.add
 split <;> rfl
theorem readsRow_grown {α : Type} {R : α → List Value → Prop} {size n : Nat} {w w1 : World} {A : Option Addr} {ps : List α} {row : Option Nat} (h : ReadsRow R size w A n ps) (hs : 0 < size) (hg : w.grownBy w1 row) (hne : ∀ ad,A = some ad → some ad.block ≠ row) : ReadsRow R size w1 A n ps:=by
 refine ⟨h.1,h.2.1,fun hp => ?_⟩
 obtain ⟨ad,e,hc⟩:=h.2.2 hp
 refine ⟨ad,e,fun j p hj => ?_⟩
 obtain ⟨c,h1,h2,h3⟩:=hc j p hj
 refine ⟨c,h1,h2,fun i u hu => ?_⟩
 have hx:=h3 i u hu
 have hlt : ad.block < w.heap.size:=by
  have:=World.block_lt_of_cell? w (ad.add (j * size + i)) hx
  rwa [add_blk] at this
 have hb:=hg.block ad.block hlt (hne ad e)
 have hbb : w1.heap[(ad.add (j * size + i)).block]? = w.heap[(ad.add (j * size + i)).block]?:=by rw [add_blk];exact hb
 unfold World.cell? at hx ⊢
 rw [hbb]
 exact hx
theorem row_T55 {w W : World} {A : Option Addr} {n : Nat} {ps : List S55} (h : ReadsRow (k55.K w) 6 W A n ps) {j : Int} (h0 : 0 ≤ j) (h1 : j < n) :
  ∃ ad A1 c1 A2 c2 A3 c3 A4 c4 p,A = some ad ∧ ps[j.toNat]? = some p ∧ W.cell? (ad.add (j.toNat * 6)) = some (.string p.f0) ∧ W.cell? ⟨(ad.add (j.toNat * 6)).block,(ad.add (j.toNat * 6)).off + 1,none⟩ = some (.slice A1 p.f1.length c1) ∧ W.cell? ⟨(ad.add (j.toNat * 6)).block,(ad.add (j.toNat * 6)).off + 2,none⟩ = some (.slice A2 p.f2.length c2) ∧ W.cell? ⟨(ad.add (j.toNat * 6)).block,(ad.add (j.toNat * 6)).off + 3,none⟩ = some (.slice A3 p.f3.length c3) ∧ W.cell? ⟨(ad.add (j.toNat * 6)).block,(ad.add (j.toNat * 6)).off + 4,none⟩ = some (.slice A4 p.f4.length c4) ∧ W.cell? ⟨(ad.add (j.toNat * 6)).block,(ad.add (j.toNat * 6)).off + 5,none⟩ = some (.string p.f5) ∧ p.f1.length ≤ c1 ∧ Kd.C (Kd.int .u8) w A1 p.f1.length p.f1 ∧ ad.block < W.heap.size:=by
 obtain ⟨ad,e,hc⟩:=h.2.2 (by omega)
 have hl : j.toNat < ps.length:=by have:=h.1;omega
 obtain ⟨c,k1,k2,k3⟩:=hc j.toNat _ (List.getElem?_eq_getElem hl)
 obtain ⟨A1,c1,A2,c2,A3,c3,A4,c4,rfl,l1,g1,l2,g2,l3,g3,l4,g4⟩:=k55_open k2
 refine ⟨ad,A1,c1,A2,c2,A3,c3,A4,c4,_,e,List.getElem?_eq_getElem hl,k3 0 _ rfl,by rw [← add_field _ _ 1 (by omega)];exact k3 1 _ rfl,by rw [← add_field _ _ 2 (by omega)];exact k3 2 _ rfl,by rw [← add_field _ _ 3 (by omega)];exact k3 3 _ rfl,by rw [← add_field _ _ 4 (by omega)];exact k3 4 _ rfl,by rw [← add_field _ _ 5 (by omega)];exact k3 5 _ rfl,l1,g1,?_⟩
 have:=World.block_lt_of_cell? W (ad.add (j.toNat * 6 + 0)) (k3 0 _ rfl)
 rwa [add_blk] at this
noncomputable def tokD (ws : List (List Int)) : List (List Int):=ws.flatMap (fun x => (toks x).map (·.2))
theorem tokD_take {ws : List (List Int)} {j : Nat} {x : List Int} (h : ws[j]? = some x) : tokD (ws.take (j + 1)) = tokD (ws.take j) ++ (toks x).map (·.2):=by
 unfold tokD
 rw [List.take_add_one,h,List.flatMap_append]
 simp
theorem tokD_le {ws : List (List Int)} (j : Nat) : (tokD (ws.take j)).length ≤ (tokD ws).length:=by
 have : tokD ws = tokD (ws.take j) ++ tokD (ws.drop j):=by
  unfold tokD
  rw [← List.flatMap_append,List.take_append_drop]
 rw [this,List.length_append]
 omega
structure TI (w0 W : World) (v : Value) (ds : List (List Int)) : Prop where
 row : ∃ cs,W.ownsRow w0.heap.size 24 1 v ds.length cs ∧ Reps ((Kd.slice 5 (Kd.int .u8)).K w0) 1 ds cs
 be : Below w0.heap.size w0 W
theorem TI.below {w0 W W' : World} {v : Value} {ds : List (List Int)} (h : TI w0 W v ds) (hb : Below W.heap.size W W') : TI w0 W' v ds:=by
 obtain ⟨cs,h1,h2⟩:=h.row
 exact ⟨⟨cs,pw_own_below h1 hb,h2⟩,h.be.trans (hb.mono h.be.size)⟩
theorem TI.slice {w0 W : World} {v : Value} {ds : List (List Int)} (h : TI w0 W v ds) : ∃ A c,v = .slice A ds.length c ∧ ds.length ≤ c ∧ ReadsRow ((Kd.slice 5 (Kd.int .u8)).K w0) 1 W A ds.length ds:=by
 obtain ⟨cs,h1,h2⟩:=h.row
 obtain ⟨A,c,rfl,h3⟩:=own_reads_row h1 h2 rfl
 exact ⟨A,c,rfl,own_le h1,h3⟩
theorem TI.lt {w0 W : World} {v : Value} {ds : List (List Int)} (h : TI w0 W v ds) : ∀ b,v.ownBlock = some b → b < W.heap.size:=by
 intro b hb
 obtain ⟨cs,⟨_,h1⟩,_⟩:=h.row
 rcases h1 with ⟨rfl,_⟩|⟨g,cap,cur,rfl,hg,hh,_⟩
 ·cases hb
 ·injection hb with hb
  subst hb
  exact blk_lt hh
def ToP (w : World) (ds : List (List Int)) (e : Ending) (w' : World) : Prop:=∃ A c,e = .returned (.slice A ds.length c) ∧ WL w' A c ds ∧ Below w.heap.size w w'
theorem TI.done {w0 W : World} {A : Option Addr} {n c : Nat} {ds : List (List Int)} (h : TI w0 W (.slice A n c) ds) : ToP w0 ds (.returned (.slice A n c)) W:=by
 obtain ⟨A1,c1,e,h1,h2⟩:=h.slice
 injection e with e1 e2 e3
 subst e1;subst e2;subst e3
 refine ⟨A,c,rfl,⟨h1,h2.1,h2.2.1,fun hp => ?_⟩,h.be⟩
 obtain ⟨ad,e,hc⟩:=h2.2.2 hp
 refine ⟨ad,e,fun j p hj => ?_⟩
 obtain ⟨c,k1,k2,k3⟩:=hc j p hj
 exact ⟨c,k1,Kd.K_below _ h.be k2,k3⟩
theorem tokensOf_any {w : World} {A : Option Addr} {c : Nat} {ws : List (List Int)} (h : VL w A c ws) (hT : TabU w) (hn : ∀ x ∈ ws,N0 x ∧ Nb x) (hb : (tokD ws).length ≤ 1000000) (hl : ws.length ≤ 1000000) :
  Calls Tryz.prog 28 #[.slice A ws.length c] w (ToP w (tokD ws)):=by
 have HV:=Aside0.mk h
 have HT:=Aside0.mk hT
 have HN:=Aside0.mk (And.intro hn hb)
 clear h hT hn hb
 have hP0 : TI w (w.alloc (.cells #[] 24)) (.slice (some ⟨w.heap.size,0,none⟩) 0 0) (tokD (ws.take 0)):=by
  refine ⟨⟨[],⟨rfl,.inr ⟨w.heap.size,0,#[],rfl,Nat.le_refl _,?_,by simp [tokD],by simp [maxLen,tokD],by simp,by simp [tokD]⟩⟩,Reps.none _ _⟩,below_alloc (Below.refl _ _) _⟩
  simpa using heap_alloc_new w (.cells #[] 24)
 have HP0:=Aside0.mk hP0
 clear hP0
 go_enter Tryz.func28,Tryz.ntmps28
 go_wp2
 go_loopg [3,13] (ws.length + 1) (fun gk v3 v13 wr => ∃ j : Int,v13 = .int .i64 j ∧ 0 ≤ j ∧ j ≤ ws.length ∧ Aside0 (TI w wr v3 (tokD (ws.take j.toNat))) ∧ gk = ((ws.length : Int) - j).toNat + 1)
 case atStart => exact ⟨0,rfl,by omega,by omega,HP0,by omega⟩
 case round =>
  clear HP0
  obtain ⟨j,rfl,h0,h1,HR,rfl⟩:=hrel
  obtain ⟨A3,c3,rfl,-,-⟩:=HR.out.slice
  by_cases hj : j < ws.length
  ·obtain ⟨ad,A0,c0,x,rfl,hx,x0,hvb⟩:=HV.out.get h0 hj
   replace x0:=pw_cell_below HR.out.be x0
   have hxn:=HN.out.1 x (List.mem_of_getElem? hx)
   have HX:=Aside0.mk (And.intro hx (And.intro hvb hxn))
   have htd:=tokD_take hx
   have HTD:=Aside0.mk htd
   have hle:=tokD_le (ws:=ws) (j.toNat + 1)
   have HLE:=Aside0.mk (show (tokD (ws.take (j.toNat + 1))).length ≤ 1000000 by have:=HN.out.2;omega)
   clear hx hvb hxn htd hle
   have hjt:=eq_true h0
   go_wp2_with (first
    | (go_at_call 49;(with_reducible refine (tokens (FF_ok HX.out.2.1.tx) HX.out.2.1 HR.out.be (HT.out.below HR.out.be)).mono ?_);rintro e w1 ⟨A5,c5,ps,ok,rfl,⟨q1,qb⟩,q2,q3,q4,q5,q6⟩;have HQ:=Aside0.mk (And.intro q3 (And.intro q4 (And.intro qb (q6.2 HX.out.2.2.1 HX.out.2.2.2).1)));clear q3 q4 qb q5 q6))
   have hI0 : TI w w1 (.slice A3 (tokD (ws.take j.toNat)).length c3) (tokD (ws.take j.toNat) ++ (ps.map (·.f1)).take 0) ∧ ReadsRow (k55.K w) 6 w1 A5 ps.length ps ∧ (∀ ad,A5 = some ad → some ad.block ≠ (Value.slice A3 (tokD (ws.take j.toNat)).length c3).ownBlock):=by
    refine ⟨by simpa using HR.out.below HQ.out.2.1,HQ.out.1,fun ad ha hh => ?_⟩
    have k1:=HQ.out.2.2.1 ad ha
    have k2:=HR.out.lt _ hh.symm
    omega
   have HI0:=Aside0.mk hI0
   clear hI0 q1 q2
   have e9 : ps.map (·.f1) = (toks x).map (·.2):=by rw [HQ.out.2.2.2,List.map_map];rfl
   have hpl : ps.length ≤ 1000000:=by
    have e1:=HLE.out
    have e2:=congrArg List.length e9
    rw [HTD.out,List.length_append,List.length_map] at e1
    rw [List.length_map,List.length_map] at e2
    omega
   have E9:=Aside0.mk e9
   clear e9
   go_loopg [3,24] (ps.length + 1) (fun gk v3 v24 ww => ∃ k : Int,v24 = .int .i64 k ∧ 0 ≤ k ∧ k ≤ ps.length ∧ Aside0 (TI w ww v3 (tokD (ws.take j.toNat) ++ (ps.map (·.f1)).take k.toNat) ∧ ReadsRow (k55.K w) 6 ww A5 ps.length ps ∧ (∀ ad,A5 = some ad → some ad.block ≠ v3.ownBlock)) ∧ gk = ((ps.length : Int) - k).toNat + 1)
   case atStart => exact ⟨0,rfl,by omega,by omega,HI0,by omega⟩
   case round =>
    clear HI0
    obtain ⟨k,rfl,k0,k1,HI,rfl⟩:=hrel
    obtain ⟨A6,c6,rfl,-,-⟩:=HI.out.1.slice
    by_cases hk : k < ps.length
    ·obtain ⟨ad5,A1,c1,A2,c2,A3',c3',A4,c4,p,rfl,hp,y0,y1,y2,y3,y4,y5,l1,g1,hlt⟩:=row_T55 HI.out.2.1 k0 hk
     have hkt:=eq_true k0
     have HP:=Aside0.mk (And.intro hp (And.intro l1 (And.intro g1 hlt)))
     obtain ⟨cs,hown,hreps⟩:=(HI.out.1.below (below_alloc (Below.refl _ wr) (.cells #[.string p.f0,.slice A1 p.f1.length c1,.slice A2 p.f2.length c2,.slice A3' p.f3.length c3',.slice A4 p.f4.length c4,.string p.f5] 55))).row
     have hbe:=(HI.out.1.below (below_alloc (Below.refl _ wr) (.cells #[.string p.f0,.slice A1 p.f1.length c1,.slice A2 p.f2.length c2,.slice A3' p.f3.length c3',.slice A4 p.f4.length c4,.string p.f5] 55))).be
     have hlen : (tokD (ws.take j.toNat) ++ (ps.map (·.f1)).take k.toNat).length ≤ 1000000:=by
      have e1:=HLE.out
      rw [HTD.out,List.length_append,List.length_map] at e1
      have e2:=congrArg List.length HQ.out.2.2.2
      rw [List.length_map] at e2
      rw [List.length_append,List.length_take,List.length_map]
      change ps.length = (toks x).length at e2
      omega
     have HO:=Aside0.mk (And.intro hown (And.intro hreps (And.intro hbe hlen)))
     clear hp l1 g1 hlt hown hreps hbe hlen
     go_wp2_with (first
      | (at_builtin;refine print_append_cells (w0:=w) w.heap.size rfl (.tmp 28) (.tmp 31) 36 24 _ 1 24 (by rfl) Tryz.underlying36 info24z rfl (by decide) (by decide) (.slice A6 (tokD (ws.take j.toNat) ++ (ps.map (·.f1)).take k.toNat).length c6) _ cs [.slice A1 p.f1.length c1] (by rfl) (by simp [Act.eval]) rfl (by intro u hu;simp at hu;rw [hu];rfl) HO.out.1 HO.out.2.2.1 HO.out.2.2.1.size (by have:=HO.out.2.2.2;omega) ?_;intro v1 w6 hown1 hB1 hg1 hat1;have P1:=Aside0.mk (And.intro hown1 (And.intro hB1 (And.intro hg1 hat1)));clear hown1 hB1 hg1 hat1))
     go_roundg (((ps.length : Int) - (k + 1)).toNat + 1)
     case measure => omega
     case rel =>
      refine ⟨k + 1,rfl,by omega,by omega,⟨?_,?_,?_⟩,rfl⟩
      ·obtain ⟨p1,p2,p3,p4⟩:=HP.out
       obtain ⟨s1,s2,s3,s4⟩:=P1.out
       have e : (ps.map (·.f1)).take (k + 1).toNat = (ps.map (·.f1)).take k.toNat ++ [p.f1]:=by
        rw [show (k + 1).toNat = k.toNat + 1 by omega,List.take_add_one,List.getElem?_map,p1];rfl
       rw [e,← List.append_assoc]
       refine ⟨⟨_,?_,Reps.snoc HO.out.2.1 (p:=p.f1) (c:=[.slice A1 p.f1.length c1]) ⟨A1,c1,rfl,p2,p3⟩ rfl⟩,s2⟩
       rw [List.length_append,List.length_singleton]
       exact s1
      ·obtain ⟨s1,s2,s3,s4⟩:=P1.out
       have r1:=readsRow_grown HI.out.2.1 (by decide) (World.grownBy_alloc wr (.cells #[.string p.f0,.slice A1 p.f1.length c1,.slice A2 p.f2.length c2,.slice A3' p.f3.length c3',.slice A4 p.f4.length c4,.string p.f5] 55) none) (fun ad _ => by simp)
       exact readsRow_grown r1 (by decide) s3 HI.out.2.2
      ·intro ad ha hh
       obtain ⟨s1,s2,s3,s4⟩:=P1.out
       injection ha with ha
       subst ha
       rcases s4 with s4|⟨b,s4,s5⟩
       ·exact HI.out.2.2 _ rfl (hh.trans s4)
       ·rw [s4] at hh
        injection hh with hh
        have:=HP.out.2.2.2
        have e8 : (wr.alloc (.cells #[.string p.f0,.slice A1 p.f1.length c1,.slice A2 p.f2.length c2,.slice A3' p.f3.length c3',.slice A4 p.f4.length c4,.string p.f5] 55)).heap.size = wr.heap.size + 1:=by simp
        omega
    ·have hke : k = ps.length:=by omega
     subst hke
     go_wp2
     go_roundg (((ws.length : Int) - (j + 1)).toNat + 1)
     case measure => omega
     case rel =>
      refine ⟨j + 1,rfl,by omega,by omega,⟨?_⟩,rfl⟩
      have hi:=HI.out.1
      have e : tokD (ws.take (j + 1).toNat) = tokD (ws.take j.toNat) ++ (ps.map (·.f1)).take ((ps.length : Nat) : Int).toNat:=by
       rw [show (j + 1).toNat = j.toNat + 1 by omega,HTD.out,List.take_of_length_le (l:=ps.map (·.f1)) (by rw [List.length_map];omega),E9.out]
      rw [e]
      have eL : (tokD (ws.take j.toNat) ++ (ps.map (·.f1)).take ((ps.length : Nat) : Int).toNat).length = (tokD (ws.take j.toNat)).length + ps.length:=by rw [List.length_append,List.length_take,List.length_map];omega
      rw [eL] at hi
      exact hi
  ·have hje : j = ws.length:=by omega
   subst hje
   go_wp2
   go_ret
   have hr:=HR.out
   rw [show ((ws.length : Nat) : Int).toNat = ws.length by omega,List.take_length] at hr
   exact hr.done
end Go.Proofs.YtlglijnaeaonpaaGreatDoor.Lx
end
