/- FnStyle: a part of the proof (Mg); in it lines that print.sh printed, those that are used. -/
import Derived.Test.YtlglijnaeaonpaaGreatDoorMa
import Derived.Test.YtlglijnaeaonpaaGreatDoorMc
section
set_option maxHeartbeats 8000000
set_option maxRecDepth 100000
set_option linter.unusedVariables false
set_option linter.unusedSimpArgs false
namespace Go.Proofs.YtlglijnaeaonpaaGreatDoor.PFnStyle
open Go.RowKit Go.Proofs.YtlglijnaeaonpaaGreatDoorW.PrintWords Go.Proofs.YtlglijnaeaonpaaGreatDoorW.PrintLast Go.Proofs.YtlglijnaeaonpaaGreatDoorW.PrintMore
attribute [local go_sem] max2_int min2_int max_two min_two max_three min_three max_four min_four
def spec_Lower.f (a0 : Int) : Option (Int):=if a0 ≥ 65 then (if a0 ≤ 90 then (some ((((a0 + 97) % 256) - 65) % 256)) else (some a0)) else (some a0)
theorem spec_Lower.calls (a0 : Int) (r : Int) (w : World) (h : spec_Lower.f a0 = some r) :
  Calls Tryz.prog 154 #[.int .u8 a0] w fun e w' => e = .returned (.int .u8 r) ∧ Drawn0 w w':=by
 have H : (if a0 ≥ 65 then (if a0 ≤ 90 then (some ((((a0 + 97) % 256) - 65) % 256)) else (some a0)) else (some a0)) = some r:=h
 clear h
 by_cases c2 : a0 ≥ 65
 ·rw [if_pos c2] at H
  have c2b0 : decide (65 ≤ a0) = true:=decide_eq_true c2
  clear c2
  by_cases c3 : a0 ≤ 90
  ·rw [if_pos c3] at H
   have c3b0 : decide (a0 ≤ 90) = true:=decide_eq_true c3
   clear c3
   obtain rfl:=Option.some.inj H
   go_enter Tryz.func154,Tryz.ntmps154
   go_wp2
   go_ret
   exact ⟨by first|rfl|(simp;done)|(simp [*];done),by repeat (first|exact Drawn0.refl _|apply Drawn0.step)⟩
  ·rw [if_neg c3] at H
   have c3b0 : decide (a0 ≤ 90) = false:=decide_eq_false c3
   clear c3
   obtain rfl:=Option.some.inj H
   go_enter Tryz.func154,Tryz.ntmps154
   go_wp2
   go_ret
   exact ⟨by first|rfl|(simp;done)|(simp [*];done),by repeat (first|exact Drawn0.refl _|apply Drawn0.step)⟩
 ·rw [if_neg c2] at H
  have c2b0 : decide (65 ≤ a0) = false:=decide_eq_false c2
  clear c2
  obtain rfl:=Option.some.inj H
  go_enter Tryz.func154,Tryz.ntmps154
  go_wp2
  go_ret
  exact ⟨by first|rfl|(simp;done)|(simp [*];done),by repeat (first|exact Drawn0.refl _|apply Drawn0.step)⟩
def spec_EqualFold.l0 : Nat → List Int → List Int → Int → Int → Option (Bool)
 | 0,_,_,_,_ => none
 | k + 1,x1,x12,x13,x14 => if x14 < x13 then (if 0 ≤ x14 then (if x14 < (x12.length : Int) then ((spec_Lower.f (rd x12 x14)).bind fun t364 => (if x14 < (x1.length : Int) then (if t364 = (rd x1 x14) then (spec_EqualFold.l0 k x1 x12 x13 (wrap64 (x14 + 1))) else (some false)) else (none))) else (none)) else (none)) else (some true)
def spec_EqualFold.f (k : Nat) (l0 : List Int) (l1 : List Int) : Option (Bool):=if (l0.length : Int) = (l1.length : Int) then (spec_EqualFold.l0 k l1 l0 (l0.length : Int) 0) else (some false)
theorem spec_EqualFold.calls (k : Nat) (A0 : Option Addr) (c0 : Nat) (l0 : List Int) (A1 : Option Addr) (c1 : Nat) (l1 : List Int) (r : Bool) (w : World) (hr0 : Kd.C (Kd.int .u8) w A0 l0.length l0) (hc0 : l0.length ≤ c0) (hr1 : Kd.C (Kd.int .u8) w A1 l1.length l1) (hc1 : l1.length ≤ c1) (h : spec_EqualFold.f k l0 l1 = some r) :
  Calls Tryz.prog 140 #[.slice A0 l0.length c0,.slice A1 l1.length c1] w fun e w' => e = .returned (.bool r) ∧ Drawn0 w w':=by
 have HR0:=Aside0.mk hr0
 have HC0:=Aside0.mk hc0
 clear hr0 hc0
 have HR1:=Aside0.mk hr1
 have HC1:=Aside0.mk hc1
 clear hr1 hc1
 have H : (if (l0.length : Int) = (l1.length : Int) then (spec_EqualFold.l0 k l1 l0 (l0.length : Int) 0) else (some false)) = some r:=h
 clear h
 by_cases c3 : (l0.length : Int) = (l1.length : Int)
 ·rw [if_pos c3] at H
  have c3b0 : ((l0.length : Int) == (l1.length : Int)) = true:=beq_iff_eq.mpr c3
  have c3b1 : ((l0.length : Int) != (l1.length : Int)) = false:=bne_eq_false_iff_eq.mpr c3
  have c3b2 : (l0.length == l1.length) = true:=by first|simpa using c3|(simp at c3 ⊢;omega)
  clear c3
  have H':=Aside0.mk H
  clear H
  go_enter Tryz.func140,Tryz.ntmps140
  go_wp2
  repeat (go_quiet (fail);try go_wp2)
  go_loopg [14] k (fun kq v14 w' => ∃ (x14_1 : Int),v14 = .int .i64 x14_1 ∧ Aside0 (spec_EqualFold.l0 kq l1 l0 (l0.length : Int) x14_1 = some r) ∧ Aside0 (kq ≤ k) ∧ Drawn0 w w')
  case atStart => exact ⟨(0),(by first|rfl|(simp;done)|(simp [*];done)),H',⟨Nat.le_refl _⟩,by repeat (first|exact Drawn0.refl _|apply Drawn0.step)⟩
  case round =>
   clear H'
   try clear c1
   try clear p2
   try clear c3
   try clear c3b0
   try clear c3b1
   try clear c3b2
   obtain ⟨x14_1,rfl,HA,HK1,⟨m1,rfl⟩⟩:=hrel
   cases gk with
   | zero => exact absurd HA.out (by simp [spec_EqualFold.l0])
   | succ k1 =>
    have H:=HA.out
    clear HA
    simp only [spec_EqualFold.l0] at H
    by_cases c4 : x14_1 < (l0.length : Int)
    ·rw [if_pos c4] at H
     have c4b0 : decide (x14_1 < (l0.length : Int)) = true:=decide_eq_true c4
     clear c4
     by_cases c5 : 0 ≤ x14_1
     ·rw [if_pos c5] at H
      have c5b0 : decide (0 ≤ x14_1) = true:=decide_eq_true c5
      clear c5
      by_cases c6 : x14_1 < (l0.length : Int)
      ·rw [if_pos c6] at H
       have c6b0 : decide (x14_1 < (l0.length : Int)) = true:=decide_eq_true c6
       clear c6
       replace H:=Option.bind_eq_some_iff.mp H
       obtain ⟨t364,A70,H⟩:=H
       replace H : (if x14_1 < (l1.length : Int) then (if t364 = (rd l1 x14_1) then (spec_EqualFold.l0 k1 l1 l0 (l0.length : Int) (wrap64 (x14_1 + 1))) else (some false)) else (none)) = some r:=H
       have A7:=Aside0.mk A70
       clear A70
       by_cases c8 : x14_1 < (l1.length : Int)
       ·rw [if_pos c8] at H
        have c8b0 : decide (x14_1 < (l1.length : Int)) = true:=decide_eq_true c8
        clear c8
        by_cases c9 : t364 = (rd l1 x14_1)
        ·rw [if_pos c9] at H
         have c9b0 : (t364 == (rd l1 x14_1)) = true:=beq_iff_eq.mpr c9
         have c9b1 : (t364 != (rd l1 x14_1)) = false:=bne_eq_false_iff_eq.mpr c9
         clear c9
         have H':=Aside0.mk H
         clear H
         have p363 : 0 ≤ (x14_1 : Int):=of_decide_eq_true (by first|(with_reducible assumption)|assumption)
         have q363 : x14_1 < (l0.length : Int):=of_decide_eq_true (by first|(with_reducible assumption)|assumption)
         obtain ⟨ad363,e363,hx363_0⟩:=Kd.at_int HR0.out x14_1 p363 q363
         cases e363
         replace p363:=eq_true p363
         replace q363:=eq_true q363
         go_wp2_with (first|(go_at_call 154;(with_reducible refine (spec_Lower.calls (rd l0 x14_1) t364 _ A7.out).mono ?_);rintro e w' ⟨rfl,⟨nd,rfl⟩⟩;(try first|exact ⟨rfl,_,World.drewN_drewN _ _ _⟩|exact ⟨rfl,_,Eq.trans (World.drewN_drewN _ _ _) (congrArg (World.drewN _) (Nat.add_assoc _ _ _))⟩);have p365 : 0 ≤ (x14_1 : Int):=of_decide_eq_true (by first|(with_reducible assumption)|assumption);have q365 : x14_1 < (l1.length : Int):=of_decide_eq_true (by first|(with_reducible assumption)|assumption);obtain ⟨ad365,e365,hx365_0⟩:=Kd.at_int HR1.out x14_1 p365 q365;cases e365;replace p365:=eq_true p365;replace q365:=eq_true q365))
         repeat (go_quiet (first|(go_at_call 154;(with_reducible refine (spec_Lower.calls (rd l0 x14_1) t364 _ A7.out).mono ?_);rintro e w' ⟨rfl,⟨nd,rfl⟩⟩;(try first|exact ⟨rfl,_,World.drewN_drewN _ _ _⟩|exact ⟨rfl,_,Eq.trans (World.drewN_drewN _ _ _) (congrArg (World.drewN _) (Nat.add_assoc _ _ _))⟩);have p365 : 0 ≤ (x14_1 : Int):=of_decide_eq_true (by first|(with_reducible assumption)|assumption);have q365 : x14_1 < (l1.length : Int):=of_decide_eq_true (by first|(with_reducible assumption)|assumption);obtain ⟨ad365,e365,hx365_0⟩:=Kd.at_int HR1.out x14_1 p365 q365;cases e365;replace p365:=eq_true p365;replace q365:=eq_true q365));try go_wp2_with (first|(go_at_call 154;(with_reducible refine (spec_Lower.calls (rd l0 x14_1) t364 _ A7.out).mono ?_);rintro e w' ⟨rfl,⟨nd,rfl⟩⟩;(try first|exact ⟨rfl,_,World.drewN_drewN _ _ _⟩|exact ⟨rfl,_,Eq.trans (World.drewN_drewN _ _ _) (congrArg (World.drewN _) (Nat.add_assoc _ _ _))⟩);have p365 : 0 ≤ (x14_1 : Int):=of_decide_eq_true (by first|(with_reducible assumption)|assumption);have q365 : x14_1 < (l1.length : Int):=of_decide_eq_true (by first|(with_reducible assumption)|assumption);obtain ⟨ad365,e365,hx365_0⟩:=Kd.at_int HR1.out x14_1 p365 q365;cases e365;replace p365:=eq_true p365;replace q365:=eq_true q365)))
         go_roundg k1
         case measure => have:=HK1.out;omega
         case rel => exact ⟨(wrap64 (x14_1 + 1)),(by first|rfl|(simp;done)|(simp [*];done)),H',⟨by have:=HK1.out;omega⟩,by repeat (first|exact Drawn0.refl _|apply Drawn0.step)⟩
        ·rw [if_neg c9] at H
         have c9b0 : (t364 == (rd l1 x14_1)) = false:=beq_eq_false_iff_ne.mpr c9
         have c9b1 : (t364 != (rd l1 x14_1)) = true:=bne_iff_ne.mpr c9
         obtain rfl:=Option.some.inj H
         have p363 : 0 ≤ (x14_1 : Int):=of_decide_eq_true (by first|(with_reducible assumption)|assumption)
         have q363 : x14_1 < (l0.length : Int):=of_decide_eq_true (by first|(with_reducible assumption)|assumption)
         obtain ⟨ad363,e363,hx363_0⟩:=Kd.at_int HR0.out x14_1 p363 q363
         cases e363
         replace p363:=eq_true p363
         replace q363:=eq_true q363
         go_wp2_with (first|(go_at_call 154;(with_reducible refine (spec_Lower.calls (rd l0 x14_1) t364 _ A7.out).mono ?_);rintro e w' ⟨rfl,⟨nd,rfl⟩⟩;(try first|exact ⟨rfl,_,World.drewN_drewN _ _ _⟩|exact ⟨rfl,_,Eq.trans (World.drewN_drewN _ _ _) (congrArg (World.drewN _) (Nat.add_assoc _ _ _))⟩);have p365 : 0 ≤ (x14_1 : Int):=of_decide_eq_true (by first|(with_reducible assumption)|assumption);have q365 : x14_1 < (l1.length : Int):=of_decide_eq_true (by first|(with_reducible assumption)|assumption);obtain ⟨ad365,e365,hx365_0⟩:=Kd.at_int HR1.out x14_1 p365 q365;cases e365;replace p365:=eq_true p365;replace q365:=eq_true q365))
         repeat (go_quiet (first|(go_at_call 154;(with_reducible refine (spec_Lower.calls (rd l0 x14_1) t364 _ A7.out).mono ?_);rintro e w' ⟨rfl,⟨nd,rfl⟩⟩;(try first|exact ⟨rfl,_,World.drewN_drewN _ _ _⟩|exact ⟨rfl,_,Eq.trans (World.drewN_drewN _ _ _) (congrArg (World.drewN _) (Nat.add_assoc _ _ _))⟩);have p365 : 0 ≤ (x14_1 : Int):=of_decide_eq_true (by first|(with_reducible assumption)|assumption);have q365 : x14_1 < (l1.length : Int):=of_decide_eq_true (by first|(with_reducible assumption)|assumption);obtain ⟨ad365,e365,hx365_0⟩:=Kd.at_int HR1.out x14_1 p365 q365;cases e365;replace p365:=eq_true p365;replace q365:=eq_true q365));try go_wp2_with (first|(go_at_call 154;(with_reducible refine (spec_Lower.calls (rd l0 x14_1) t364 _ A7.out).mono ?_);rintro e w' ⟨rfl,⟨nd,rfl⟩⟩;(try first|exact ⟨rfl,_,World.drewN_drewN _ _ _⟩|exact ⟨rfl,_,Eq.trans (World.drewN_drewN _ _ _) (congrArg (World.drewN _) (Nat.add_assoc _ _ _))⟩);have p365 : 0 ≤ (x14_1 : Int):=of_decide_eq_true (by first|(with_reducible assumption)|assumption);have q365 : x14_1 < (l1.length : Int):=of_decide_eq_true (by first|(with_reducible assumption)|assumption);obtain ⟨ad365,e365,hx365_0⟩:=Kd.at_int HR1.out x14_1 p365 q365;cases e365;replace p365:=eq_true p365;replace q365:=eq_true q365)))
         go_ret
         exact ⟨by first|rfl|(simp;done)|(simp [*];done),by repeat (first|exact Drawn0.refl _|apply Drawn0.step)⟩
       ·rw [if_neg c8] at H
        exact absurd H (by simp)
      ·rw [if_neg c6] at H
       exact absurd H (by simp)
     ·rw [if_neg c5] at H
      exact absurd H (by simp)
    ·rw [if_neg c4] at H
     have c4b0 : decide (x14_1 < (l0.length : Int)) = false:=decide_eq_false c4
     clear c4
     obtain rfl:=Option.some.inj H
     go_wp2
     repeat (go_quiet (fail);try go_wp2)
     go_ret
     exact ⟨by first|rfl|(simp;done)|(simp [*];done),by repeat (first|exact Drawn0.refl _|apply Drawn0.step)⟩
 ·rw [if_neg c3] at H
  have c3b0 : ((l0.length : Int) == (l1.length : Int)) = false:=beq_eq_false_iff_ne.mpr c3
  have c3b1 : ((l0.length : Int) != (l1.length : Int)) = true:=bne_iff_ne.mpr c3
  have c3b2 : (l0.length == l1.length) = false:=by first|simpa using c3|(simp at c3 ⊢;omega)
  obtain rfl:=Option.some.inj H
  go_enter Tryz.func140,Tryz.ntmps140
  go_wp2
  repeat (go_quiet (fail);try go_wp2)
  go_ret
  exact ⟨by first|rfl|(simp;done)|(simp [*];done),by repeat (first|exact Drawn0.refl _|apply Drawn0.step)⟩
def spec_reader_wrong.f (s0_0 : List Int) (s0_1 : Int) (s0_2 : Bool) : Option (ByteArray × Int × Bool):=some ((⟨#[98,97,100,32,117,114,108]⟩ : ByteArray),s0_1,true)
theorem spec_reader_wrong.calls (g : Nat) (s0_0 : List Int) (s0_1 : Int) (s0_2 : Bool) (r1 : ByteArray) (r2 : Int) (r3 : Bool) (w0 w : World) (hI : IsS115 w0 w g s0_0 s0_1 s0_2) (hB : Below w0.heap.size w0 w) (h : spec_reader_wrong.f s0_0 s0_1 s0_2 = some (r1,r2,r3)) :
  Calls Tryz.prog 155 #[.pointer (some ⟨g,0,none⟩)] w fun e w' => e = .returned (.string r1) ∧ IsS115 w0 w' g s0_0 r2 r3 ∧ Below w0.heap.size w0 w' ∧ KeepBut w w' g none:=by
 have HI0:=Aside0.mk hI
 have HK:=Aside0.mk (KeepBut.refl w g none)
 have HL:=Aside0.mk hB.size
 clear hI
 have HW0:=Aside0.mk hB.size
 have HB:=Aside0.mk hB
 clear hB
 have H : (some ((⟨#[98,97,100,32,117,114,108]⟩ : ByteArray),s0_1,true)) = some (r1,r2,r3):=h
 clear h
 simp only [Option.some.injEq,Prod.mk.injEq] at H
 obtain ⟨rfl,rfl,rfl⟩:=H
 obtain ⟨ASz2_0,cSz2_0,HGz2,hgz2,HSz2_0⟩:=HI0.out
 have hcz2_0:=cellS115_0 HGz2
 have hcz2_1:=cellS115_1 HGz2
 have hcz2_2:=cellS115_2 HGz2
 have hfz2_1:=blk_frozen HGz2 1
 have hfz2_2:=blk_frozen HGz2 2
 clear HGz2 hgz2
 go_enter Tryz.func155,Tryz.ntmps155
 go_wp2
 go_ret
 exact ⟨by first|rfl|(simp [errW_none,errW_some] <;> rfl)|(simp [*,errW_none,errW_some] <;> rfl),by repeat (first|(with_reducible first|exact HI0.out|apply sA|apply sB|apply sC|apply sD|apply sE)|exact HI0.out),by repeat (first|(with_reducible first|exact HB.out|apply bA|apply bB|apply bC|refine bD ?_ (IsS115.ge HI0.out))|exact HB.out),by repeat (first|(with_reducible first|exact HK.out|apply kA|apply kB|apply kC|apply kD)|exact HK.out)⟩
def spec_isControl.f (a0 : Int) : Option (Bool):=if a0 ≤ 8 then (some true) else (if a0 = 11 then (some true) else (if a0 ≥ 14 then (if a0 ≤ 31 then (some true) else (some (a0 == 127))) else (some (a0 == 127))))
theorem spec_isControl.calls (a0 : Int) (r : Bool) (w : World) (h : spec_isControl.f a0 = some r) :
  Calls Tryz.prog 156 #[.int .u8 a0] w fun e w' => e = .returned (.bool r) ∧ Drawn0 w w':=by
 have H : (if a0 ≤ 8 then (some true) else (if a0 = 11 then (some true) else (if a0 ≥ 14 then (if a0 ≤ 31 then (some true) else (some (a0 == 127))) else (some (a0 == 127))))) = some r:=h
 clear h
 by_cases c2 : a0 ≤ 8
 ·rw [if_pos c2] at H
  have c2b0 : decide (a0 ≤ 8) = true:=decide_eq_true c2
  clear c2
  obtain rfl:=Option.some.inj H
  go_enter Tryz.func156,Tryz.ntmps156
  go_wp2
  go_ret
  exact ⟨by first|rfl|(simp;done)|(simp [*];done),by repeat (first|exact Drawn0.refl _|apply Drawn0.step)⟩
 ·rw [if_neg c2] at H
  have c2b0 : decide (a0 ≤ 8) = false:=decide_eq_false c2
  clear c2
  by_cases c3 : a0 = 11
  ·rw [if_pos c3] at H
   have c3b0 : (a0 == 11) = true:=beq_iff_eq.mpr c3
   have c3b1 : (a0 != 11) = false:=bne_eq_false_iff_eq.mpr c3
   clear c3
   obtain rfl:=Option.some.inj H
   go_enter Tryz.func156,Tryz.ntmps156
   go_wp2
   go_ret
   exact ⟨by first|rfl|(simp;done)|(simp [*];done),by repeat (first|exact Drawn0.refl _|apply Drawn0.step)⟩
  ·rw [if_neg c3] at H
   have c3b0 : (a0 == 11) = false:=beq_eq_false_iff_ne.mpr c3
   have c3b1 : (a0 != 11) = true:=bne_iff_ne.mpr c3
   by_cases c4 : a0 ≥ 14
   ·rw [if_pos c4] at H
    have c4b0 : decide (14 ≤ a0) = true:=decide_eq_true c4
    clear c4
    by_cases c5 : a0 ≤ 31
    ·rw [if_pos c5] at H
     have c5b0 : decide (a0 ≤ 31) = true:=decide_eq_true c5
     clear c5
     obtain rfl:=Option.some.inj H
     go_enter Tryz.func156,Tryz.ntmps156
     go_wp2
     go_ret
     exact ⟨by first|rfl|(simp;done)|(simp [*];done),by repeat (first|exact Drawn0.refl _|apply Drawn0.step)⟩
    ·rw [if_neg c5] at H
     have c5b0 : decide (a0 ≤ 31) = false:=decide_eq_false c5
     clear c5
     obtain rfl:=Option.some.inj H
     go_enter Tryz.func156,Tryz.ntmps156
     go_wp2
     go_ret
     exact ⟨by first|rfl|(simp;done)|(simp [*];done),by repeat (first|exact Drawn0.refl _|apply Drawn0.step)⟩
   ·rw [if_neg c4] at H
    have c4b0 : decide (14 ≤ a0) = false:=decide_eq_false c4
    clear c4
    obtain rfl:=Option.some.inj H
    go_enter Tryz.func156,Tryz.ntmps156
    go_wp2
    go_ret
    exact ⟨by first|rfl|(simp;done)|(simp [*];done),by repeat (first|exact Drawn0.refl _|apply Drawn0.step)⟩
mutual
def spec_reader_address.l0 : Nat → List Int → Int → Bool → Option (ByteArray × Int × Bool)
 | 0,_,_,_ => none
 | k + 1,x1000,x1001,x1002 => (spec_reader_over.f x1000 x1001 x1002).bind fun bt368 => (if bt368.1 = true then (some ((⟨#[117,114,108]⟩ : ByteArray),bt368.2.1,true)) else ((spec_reader_peek.f x1000 bt368.2.1 bt368.2.2 0).bind fun bt371 => (if bt371.1 = 41 then (some ((⟨#[117,114,108]⟩ : ByteArray),wrap64 (bt371.2.1 + 1),bt371.2.2)) else ((spec_IsBlank.f bt371.1).bind fun t374 => (if t374 = true then ((spec_reader_blanks.f k x1000 bt371.2.1 bt371.2.2).bind fun bt375 => ((spec_reader_peek.f x1000 bt375.1 bt375.2 0).bind fun bt377 => (if bt377.1 = 41 then (some ((⟨#[117,114,108]⟩ : ByteArray),wrap64 (bt377.2.1 + 1),bt377.2.2)) else ((spec_reader_wrong.f x1000 bt377.2.1 bt377.2.2).bind fun bt380 => (some (bt380.1,bt380.2.1,bt380.2.2)))))) else (if bt371.1 = 34 then (spec_reader_address.j1 k bt371.1 true x1000 bt371.2.1 bt371.2.2) else (if bt371.1 = 39 then (spec_reader_address.j1 k bt371.1 true x1000 bt371.2.1 bt371.2.2) else (if bt371.1 = 40 then (spec_reader_address.j1 k bt371.1 true x1000 bt371.2.1 bt371.2.2) else ((spec_isControl.f bt371.1).bind fun t383 => (spec_reader_address.j1 k bt371.1 t383 x1000 bt371.2.1 bt371.2.2))))))))))
def spec_reader_address.j1 : Nat → Int → Bool → List Int → Int → Bool → Option (ByteArray × Int × Bool)
 | 0,_,_,_,_,_ => none
 | k + 1,x3,x45,x1000,x1001,x1002 => if x45 = true then ((spec_reader_wrong.f x1000 x1001 x1002).bind fun bt384 => (some (bt384.1,bt384.2.1,bt384.2.2))) else (if x3 = 92 then ((spec_reader_escapes.f x1000 x1001 x1002 0).bind fun bt387 => (if bt387.1 = true then ((spec_reader_escape.f k x1000 bt387.2.1 bt387.2.2).bind fun bt390 => (spec_reader_address.l0 k x1000 bt390.1 bt390.2)) else ((spec_reader_wrong.f x1000 bt387.2.1 bt387.2.2).bind fun bt392 => (some (bt392.1,bt392.2.1,bt392.2.2))))) else (spec_reader_address.l0 k x1000 (wrap64 (x1001 + 1)) x1002))
end
def spec_reader_address.f (k : Nat) (s0_0 : List Int) (s0_1 : Int) (s0_2 : Bool) : Option (ByteArray × Int × Bool):=(spec_reader_blanks.f k s0_0 s0_1 s0_2).bind fun bt366 => (spec_reader_address.l0 k s0_0 bt366.1 bt366.2)
theorem spec_reader_address.calls (k : Nat) (g : Nat) (s0_0 : List Int) (s0_1 : Int) (s0_2 : Bool) (r1 : ByteArray) (r2 : Int) (r3 : Bool) (w0 w : World) (hI : IsS115 w0 w g s0_0 s0_1 s0_2) (hB : Below w0.heap.size w0 w) (h : spec_reader_address.f k s0_0 s0_1 s0_2 = some (r1,r2,r3)) :
  Calls Tryz.prog 141 #[.pointer (some ⟨g,0,none⟩)] w fun e w' => e = .returned (.string r1) ∧ IsS115 w0 w' g s0_0 r2 r3 ∧ Below w0.heap.size w0 w' ∧ KeepBut w w' g none:=by
 have HI0:=Aside0.mk hI
 have HK:=Aside0.mk (KeepBut.refl w g none)
 have HL:=Aside0.mk hB.size
 clear hI
 have HW0:=Aside0.mk hB.size
 have HB:=Aside0.mk hB
 clear hB
 have H : ((spec_reader_blanks.f k s0_0 s0_1 s0_2).bind fun bt366 => (spec_reader_address.l0 k s0_0 bt366.1 bt366.2)) = some (r1,r2,r3):=h
 clear h
 replace H:=Option.bind_eq_some_iff.mp H
 obtain ⟨⟨t366,t367⟩,A20,H⟩:=H
 replace H : (spec_reader_address.l0 k s0_0 t366 t367) = some (r1,r2,r3):=H
 have A2:=Aside0.mk A20
 clear A20
 have H':=Aside0.mk H
 clear H
 go_enter Tryz.func141,Tryz.ntmps141
 go_wp2_with (first|((with_reducible refine gate_callee (f:=106) rfl ?_);refine goesL_ (some 5) rfl rfl Tryz.func106 (by kernel_rfl) rfl #[.pointer (some ⟨g,0,none⟩)] rfl (by (try simp only [List.map_toArray,List.map_cons,List.map_nil]);first|done|rfl|(simp only [List.length_drop,List.length_take];rfl)) ?_;(with_reducible refine (spec_reader_blanks.calls k g s0_0 s0_1 s0_2 t366 t367 w0 _ ?side1 ?side2 A2.out).mono ?_);(case side1 => repeat (first|(with_reducible first|exact HI0.out|apply sA|apply sB|apply sC|apply sD|apply sE)|exact HI0.out));(case side2 => repeat (first|(with_reducible first|exact HB.out|apply bA|apply bB|apply bC|refine bD ?_ (IsS115.ge HI0.out))|exact HB.out));rintro e w3 ⟨rfl,hi,hb,hk⟩;refine ⟨_,rfl,?_⟩;have n0_:=Aside0.mk (KeepBut.trans (by repeat (first|(with_reducible first|exact HK.out|apply kA|apply kB|apply kC|apply kD)|exact HK.out)) hk (.inl rfl));have n1_:=Aside0.mk (hb);have n2_:=Aside0.mk (hi);clear HK;clear HB;clear HI0;have HK:=n0_;have HB:=n1_;have HI0:=n2_;clear n0_ n1_ n2_;(try clear hb);(try clear hb2);(try clear hk);(try clear hi)))
 go_simp
 go_loopg [] k (fun kq w' => ∃ (x1001_1 : Int) (x1002_1 : Bool),Aside0 (spec_reader_address.l0 kq s0_0 x1001_1 x1002_1 = some (r1,r2,r3)) ∧ Aside0 (kq ≤ k) ∧ Aside0 (IsS115 w0 w' g s0_0 x1001_1 x1002_1) ∧ Aside0 (KeepBut w w' g none) ∧ Aside0 (Below w0.heap.size w0 w'))
 case atStart => exact ⟨(t366),(t367),H',⟨Nat.le_refl _⟩,⟨by repeat (first|(with_reducible first|exact HI0.out|apply sA|apply sB|apply sC|apply sD|apply sE)|exact HI0.out)⟩,⟨by repeat (first|(with_reducible first|exact HK.out|apply kA|apply kB|apply kC|apply kD)|exact HK.out)⟩,⟨by repeat (first|(with_reducible first|exact HB.out|apply bA|apply bB|apply bC|refine bD ?_ (IsS115.ge HI0.out))|exact HB.out)⟩⟩
 case round =>
  clear H'
  try clear c1
  try clear p2
  obtain ⟨x1001_1,x1002_1,HA,HK1,HI0,HK,HB⟩:=hrel
  cases gk with
  | zero => exact absurd HA.out (by simp [spec_reader_address.l0])
  | succ k1 =>
   have H:=HA.out
   clear HA
   simp only [spec_reader_address.l0] at H
   replace H:=Option.bind_eq_some_iff.mp H
   obtain ⟨⟨t368,t369,t370⟩,A40,H⟩:=H
   replace H : (if t368 = true then (some ((⟨#[117,114,108]⟩ : ByteArray),t369,true)) else ((spec_reader_peek.f s0_0 t369 t370 0).bind fun bt371 => (if bt371.1 = 41 then (some ((⟨#[117,114,108]⟩ : ByteArray),wrap64 (bt371.2.1 + 1),bt371.2.2)) else ((spec_IsBlank.f bt371.1).bind fun t374 => (if t374 = true then ((spec_reader_blanks.f k1 s0_0 bt371.2.1 bt371.2.2).bind fun bt375 => ((spec_reader_peek.f s0_0 bt375.1 bt375.2 0).bind fun bt377 => (if bt377.1 = 41 then (some ((⟨#[117,114,108]⟩ : ByteArray),wrap64 (bt377.2.1 + 1),bt377.2.2)) else ((spec_reader_wrong.f s0_0 bt377.2.1 bt377.2.2).bind fun bt380 => (some (bt380.1,bt380.2.1,bt380.2.2)))))) else (if bt371.1 = 34 then (spec_reader_address.j1 k1 bt371.1 true s0_0 bt371.2.1 bt371.2.2) else (if bt371.1 = 39 then (spec_reader_address.j1 k1 bt371.1 true s0_0 bt371.2.1 bt371.2.2) else (if bt371.1 = 40 then (spec_reader_address.j1 k1 bt371.1 true s0_0 bt371.2.1 bt371.2.2) else ((spec_isControl.f bt371.1).bind fun t383 => (spec_reader_address.j1 k1 bt371.1 t383 s0_0 bt371.2.1 bt371.2.2)))))))))) = some (r1,r2,r3):=H
   have A4:=Aside0.mk A40
   clear A40
   by_cases c5 : t368 = true
   ·subst c5
    have H1 : (some ((⟨#[117,114,108]⟩ : ByteArray),t369,true)) = some (r1,r2,r3):=by rw [if_pos rfl] at H;exact H
    clear H
    have H:=H1
    clear H1
    simp only [Option.some.injEq,Prod.mk.injEq] at H
    obtain ⟨rfl,rfl,rfl⟩:=H
    go_wp2_with (first|((with_reducible refine gate_callee (f:=67) rfl ?_);refine goesL_ (some 7) rfl rfl Tryz.func67 (by kernel_rfl) rfl #[.pointer (some ⟨g,0,none⟩)] rfl (by (try simp only [List.map_toArray,List.map_cons,List.map_nil]);first|done|rfl|(simp only [List.length_drop,List.length_take];rfl)) ?_;(with_reducible refine (spec_reader_over.calls g s0_0 x1001_1 x1002_1 true t369 t370 w0 _ ?side1 ?side2 A4.out).mono ?_);(case side1 => repeat (first|(with_reducible first|exact HI0.out|apply sA|apply sB|apply sC|apply sD|apply sE)|exact HI0.out));(case side2 => repeat (first|(with_reducible first|exact HB.out|apply bA|apply bB|apply bC|refine bD ?_ (IsS115.ge HI0.out))|exact HB.out));rintro e w6 ⟨rfl,hi,hb,hk⟩;refine ⟨_,rfl,?_⟩;have n0_:=Aside0.mk (KeepBut.trans (by repeat (first|(with_reducible first|exact HK.out|apply kA|apply kB|apply kC|apply kD)|exact HK.out)) hk (.inl rfl));have n1_:=Aside0.mk (hb);have n2_:=Aside0.mk (hi);clear HK;clear HB;clear HI0;have HK:=n0_;have HB:=n1_;have HI0:=n2_;clear n0_ n1_ n2_;(try clear hb);(try clear hb2);(try clear hk);(try clear hi);obtain ⟨ASz7_0,cSz7_0,HGz7,hgz7,HSz7_0⟩:=HI0.out;have hcz7_0:=cellS115_0 HGz7;have hcz7_1:=cellS115_1 HGz7;have hcz7_2:=cellS115_2 HGz7;have hfz7_1:=blk_frozen HGz7 1;have hfz7_2:=blk_frozen HGz7 2;clear HGz7 hgz7))
    go_ret
    exact ⟨by first|rfl|(simp [errW_none,errW_some] <;> rfl)|(simp [*,errW_none,errW_some] <;> rfl),by repeat (first|(with_reducible first|exact HI0.out|apply sA|apply sB|apply sC|apply sD|apply sE)|exact HI0.out),by repeat (first|(with_reducible first|exact HB.out|apply bA|apply bB|apply bC|refine bD ?_ (IsS115.ge HI0.out))|exact HB.out),by repeat (first|(with_reducible first|exact HK.out|apply kA|apply kB|apply kC|apply kD)|exact HK.out)⟩
   ·replace c5:=Bool.eq_false_iff.mpr c5
    subst c5
    have H1 : ((spec_reader_peek.f s0_0 t369 t370 0).bind fun bt371 => (if bt371.1 = 41 then (some ((⟨#[117,114,108]⟩ : ByteArray),wrap64 (bt371.2.1 + 1),bt371.2.2)) else ((spec_IsBlank.f bt371.1).bind fun t374 => (if t374 = true then ((spec_reader_blanks.f k1 s0_0 bt371.2.1 bt371.2.2).bind fun bt375 => ((spec_reader_peek.f s0_0 bt375.1 bt375.2 0).bind fun bt377 => (if bt377.1 = 41 then (some ((⟨#[117,114,108]⟩ : ByteArray),wrap64 (bt377.2.1 + 1),bt377.2.2)) else ((spec_reader_wrong.f s0_0 bt377.2.1 bt377.2.2).bind fun bt380 => (some (bt380.1,bt380.2.1,bt380.2.2)))))) else (if bt371.1 = 34 then (spec_reader_address.j1 k1 bt371.1 true s0_0 bt371.2.1 bt371.2.2) else (if bt371.1 = 39 then (spec_reader_address.j1 k1 bt371.1 true s0_0 bt371.2.1 bt371.2.2) else (if bt371.1 = 40 then (spec_reader_address.j1 k1 bt371.1 true s0_0 bt371.2.1 bt371.2.2) else ((spec_isControl.f bt371.1).bind fun t383 => (spec_reader_address.j1 k1 bt371.1 t383 s0_0 bt371.2.1 bt371.2.2))))))))) = some (r1,r2,r3):=by rw [if_neg (show ¬ (false = true) by decide)] at H;exact H
    clear H
    have H:=H1
    clear H1
    replace H:=Option.bind_eq_some_iff.mp H
    obtain ⟨⟨t371,t372,t373⟩,A80,H⟩:=H
    replace H : (if t371 = 41 then (some ((⟨#[117,114,108]⟩ : ByteArray),wrap64 (t372 + 1),t373)) else ((spec_IsBlank.f t371).bind fun t374 => (if t374 = true then ((spec_reader_blanks.f k1 s0_0 t372 t373).bind fun bt375 => ((spec_reader_peek.f s0_0 bt375.1 bt375.2 0).bind fun bt377 => (if bt377.1 = 41 then (some ((⟨#[117,114,108]⟩ : ByteArray),wrap64 (bt377.2.1 + 1),bt377.2.2)) else ((spec_reader_wrong.f s0_0 bt377.2.1 bt377.2.2).bind fun bt380 => (some (bt380.1,bt380.2.1,bt380.2.2)))))) else (if t371 = 34 then (spec_reader_address.j1 k1 t371 true s0_0 t372 t373) else (if t371 = 39 then (spec_reader_address.j1 k1 t371 true s0_0 t372 t373) else (if t371 = 40 then (spec_reader_address.j1 k1 t371 true s0_0 t372 t373) else ((spec_isControl.f t371).bind fun t383 => (spec_reader_address.j1 k1 t371 t383 s0_0 t372 t373)))))))) = some (r1,r2,r3):=H
    have A8:=Aside0.mk A80
    clear A80
    by_cases c9 : t371 = 41
    ·rw [if_pos c9] at H
     have c9b0 : (t371 == 41) = true:=beq_iff_eq.mpr c9
     have c9b1 : (t371 != 41) = false:=bne_eq_false_iff_eq.mpr c9
     clear c9
     simp only [Option.some.injEq,Prod.mk.injEq] at H
     obtain ⟨rfl,rfl,rfl⟩:=H
     go_wp2_with (first|((with_reducible refine gate_callee (f:=67) rfl ?_);refine goesL_ (some 7) rfl rfl Tryz.func67 (by kernel_rfl) rfl #[.pointer (some ⟨g,0,none⟩)] rfl (by (try simp only [List.map_toArray,List.map_cons,List.map_nil]);first|done|rfl|(simp only [List.length_drop,List.length_take];rfl)) ?_;(with_reducible refine (spec_reader_over.calls g s0_0 x1001_1 x1002_1 false t369 t370 w0 _ ?side1 ?side2 A4.out).mono ?_);(case side1 => repeat (first|(with_reducible first|exact HI0.out|apply sA|apply sB|apply sC|apply sD|apply sE)|exact HI0.out));(case side2 => repeat (first|(with_reducible first|exact HB.out|apply bA|apply bB|apply bC|refine bD ?_ (IsS115.ge HI0.out))|exact HB.out));rintro e w10 ⟨rfl,hi,hb,hk⟩;refine ⟨_,rfl,?_⟩;have n0_:=Aside0.mk (KeepBut.trans (by repeat (first|(with_reducible first|exact HK.out|apply kA|apply kB|apply kC|apply kD)|exact HK.out)) hk (.inl rfl));have n1_:=Aside0.mk (hb);have n2_:=Aside0.mk (hi);clear HK;clear HB;clear HI0;have HK:=n0_;have HB:=n1_;have HI0:=n2_;clear n0_ n1_ n2_;(try clear hb);(try clear hb2);(try clear hk);(try clear hi))|((with_reducible refine gate_callee (f:=104) rfl ?_);refine goesL_ (some 10) rfl rfl Tryz.func104 (by kernel_rfl) rfl #[.pointer (some ⟨g,0,none⟩),.int .i64 0] rfl (by (try simp only [List.map_toArray,List.map_cons,List.map_nil]);first|done|rfl|(simp only [List.length_drop,List.length_take];rfl)) ?_;(with_reducible refine (spec_reader_peek.calls g s0_0 t369 t370 0 t371 t372 t373 w0 _ ?side1 ?side2 A8.out).mono ?_);(case side1 => repeat (first|(with_reducible first|exact HI0.out|apply sA|apply sB|apply sC|apply sD|apply sE)|exact HI0.out));(case side2 => repeat (first|(with_reducible first|exact HB.out|apply bA|apply bB|apply bC|refine bD ?_ (IsS115.ge HI0.out))|exact HB.out));rintro e w11 ⟨rfl,hi,hb,hk⟩;refine ⟨_,rfl,?_⟩;have n0_:=Aside0.mk (KeepBut.trans (by repeat (first|(with_reducible first|exact HK.out|apply kA|apply kB|apply kC|apply kD)|exact HK.out)) hk (.inl rfl));have n1_:=Aside0.mk (hb);have n2_:=Aside0.mk (hi);clear HK;clear HB;clear HI0;have HK:=n0_;have HB:=n1_;have HI0:=n2_;clear n0_ n1_ n2_;(try clear hb);(try clear hb2);(try clear hk);(try clear hi);obtain ⟨ASz12_0,cSz12_0,HGz12,hgz12,HSz12_0⟩:=HI0.out;have hcz12_0:=cellS115_0 HGz12;have hcz12_1:=cellS115_1 HGz12;have hcz12_2:=cellS115_2 HGz12;have hfz12_1:=blk_frozen HGz12 1;have hfz12_2:=blk_frozen HGz12 2;clear HGz12 hgz12))
     go_ret
     exact ⟨by first|rfl|(simp [errW_none,errW_some] <;> rfl)|(simp [*,errW_none,errW_some] <;> rfl),by repeat (first|(with_reducible first|exact HI0.out|apply sA|apply sB|apply sC|apply sD|apply sE)|exact HI0.out),by repeat (first|(with_reducible first|exact HB.out|apply bA|apply bB|apply bC|refine bD ?_ (IsS115.ge HI0.out))|exact HB.out),by repeat (first|(with_reducible first|exact HK.out|apply kA|apply kB|apply kC|apply kD)|exact HK.out)⟩
    ·rw [if_neg c9] at H
     have c9b0 : (t371 == 41) = false:=beq_eq_false_iff_ne.mpr c9
     have c9b1 : (t371 != 41) = true:=bne_iff_ne.mpr c9
     replace H:=Option.bind_eq_some_iff.mp H
     obtain ⟨t374,A130,H⟩:=H
     replace H : (if t374 = true then ((spec_reader_blanks.f k1 s0_0 t372 t373).bind fun bt375 => ((spec_reader_peek.f s0_0 bt375.1 bt375.2 0).bind fun bt377 => (if bt377.1 = 41 then (some ((⟨#[117,114,108]⟩ : ByteArray),wrap64 (bt377.2.1 + 1),bt377.2.2)) else ((spec_reader_wrong.f s0_0 bt377.2.1 bt377.2.2).bind fun bt380 => (some (bt380.1,bt380.2.1,bt380.2.2)))))) else (if t371 = 34 then (spec_reader_address.j1 k1 t371 true s0_0 t372 t373) else (if t371 = 39 then (spec_reader_address.j1 k1 t371 true s0_0 t372 t373) else (if t371 = 40 then (spec_reader_address.j1 k1 t371 true s0_0 t372 t373) else ((spec_isControl.f t371).bind fun t383 => (spec_reader_address.j1 k1 t371 t383 s0_0 t372 t373)))))) = some (r1,r2,r3):=H
     have A13:=Aside0.mk A130
     clear A130
     by_cases c14 : t374 = true
     ·subst c14
      have H1 : ((spec_reader_blanks.f k1 s0_0 t372 t373).bind fun bt375 => ((spec_reader_peek.f s0_0 bt375.1 bt375.2 0).bind fun bt377 => (if bt377.1 = 41 then (some ((⟨#[117,114,108]⟩ : ByteArray),wrap64 (bt377.2.1 + 1),bt377.2.2)) else ((spec_reader_wrong.f s0_0 bt377.2.1 bt377.2.2).bind fun bt380 => (some (bt380.1,bt380.2.1,bt380.2.2)))))) = some (r1,r2,r3):=by rw [if_pos rfl] at H;exact H
      clear H
      have H:=H1
      clear H1
      replace H:=Option.bind_eq_some_iff.mp H
      obtain ⟨⟨t375,t376⟩,A150,H⟩:=H
      replace H : ((spec_reader_peek.f s0_0 t375 t376 0).bind fun bt377 => (if bt377.1 = 41 then (some ((⟨#[117,114,108]⟩ : ByteArray),wrap64 (bt377.2.1 + 1),bt377.2.2)) else ((spec_reader_wrong.f s0_0 bt377.2.1 bt377.2.2).bind fun bt380 => (some (bt380.1,bt380.2.1,bt380.2.2))))) = some (r1,r2,r3):=H
      have A15:=Aside0.mk A150
      clear A150
      replace H:=Option.bind_eq_some_iff.mp H
      obtain ⟨⟨t377,t378,t379⟩,A160,H⟩:=H
      replace H : (if t377 = 41 then (some ((⟨#[117,114,108]⟩ : ByteArray),wrap64 (t378 + 1),t379)) else ((spec_reader_wrong.f s0_0 t378 t379).bind fun bt380 => (some (bt380.1,bt380.2.1,bt380.2.2)))) = some (r1,r2,r3):=H
      have A16:=Aside0.mk A160
      clear A160
      by_cases c17 : t377 = 41
      ·rw [if_pos c17] at H
       have c17b0 : (t377 == 41) = true:=beq_iff_eq.mpr c17
       have c17b1 : (t377 != 41) = false:=bne_eq_false_iff_eq.mpr c17
       clear c17
       simp only [Option.some.injEq,Prod.mk.injEq] at H
       obtain ⟨rfl,rfl,rfl⟩:=H
       go_wp2_with (first|((with_reducible refine gate_callee (f:=67) rfl ?_);refine goesL_ (some 7) rfl rfl Tryz.func67 (by kernel_rfl) rfl #[.pointer (some ⟨g,0,none⟩)] rfl (by (try simp only [List.map_toArray,List.map_cons,List.map_nil]);first|done|rfl|(simp only [List.length_drop,List.length_take];rfl)) ?_;(with_reducible refine (spec_reader_over.calls g s0_0 x1001_1 x1002_1 false t369 t370 w0 _ ?side1 ?side2 A4.out).mono ?_);(case side1 => repeat (first|(with_reducible first|exact HI0.out|apply sA|apply sB|apply sC|apply sD|apply sE)|exact HI0.out));(case side2 => repeat (first|(with_reducible first|exact HB.out|apply bA|apply bB|apply bC|refine bD ?_ (IsS115.ge HI0.out))|exact HB.out));rintro e w18 ⟨rfl,hi,hb,hk⟩;refine ⟨_,rfl,?_⟩;have n0_:=Aside0.mk (KeepBut.trans (by repeat (first|(with_reducible first|exact HK.out|apply kA|apply kB|apply kC|apply kD)|exact HK.out)) hk (.inl rfl));have n1_:=Aside0.mk (hb);have n2_:=Aside0.mk (hi);clear HK;clear HB;clear HI0;have HK:=n0_;have HB:=n1_;have HI0:=n2_;clear n0_ n1_ n2_;(try clear hb);(try clear hb2);(try clear hk);(try clear hi))|((with_reducible refine gate_callee (f:=104) rfl ?_);refine goesL_ (some 10) rfl rfl Tryz.func104 (by kernel_rfl) rfl #[.pointer (some ⟨g,0,none⟩),.int .i64 0] rfl (by (try simp only [List.map_toArray,List.map_cons,List.map_nil]);first|done|rfl|(simp only [List.length_drop,List.length_take];rfl)) ?_;(with_reducible refine (spec_reader_peek.calls g s0_0 t369 t370 0 t371 t372 t373 w0 _ ?side1 ?side2 A8.out).mono ?_);(case side1 => repeat (first|(with_reducible first|exact HI0.out|apply sA|apply sB|apply sC|apply sD|apply sE)|exact HI0.out));(case side2 => repeat (first|(with_reducible first|exact HB.out|apply bA|apply bB|apply bC|refine bD ?_ (IsS115.ge HI0.out))|exact HB.out));rintro e w19 ⟨rfl,hi,hb,hk⟩;refine ⟨_,rfl,?_⟩;have n0_:=Aside0.mk (KeepBut.trans (by repeat (first|(with_reducible first|exact HK.out|apply kA|apply kB|apply kC|apply kD)|exact HK.out)) hk (.inl rfl));have n1_:=Aside0.mk (hb);have n2_:=Aside0.mk (hi);clear HK;clear HB;clear HI0;have HK:=n0_;have HB:=n1_;have HI0:=n2_;clear n0_ n1_ n2_;(try clear hb);(try clear hb2);(try clear hk);(try clear hi))|((with_reducible refine gate_callee (f:=105) rfl ?_);refine goesL_ (some 30) rfl rfl Tryz.func105 (by kernel_rfl) rfl #[.int .u8 t371] rfl (by (try simp only [List.map_toArray,List.map_cons,List.map_nil]);first|done|rfl|(simp only [List.length_drop,List.length_take];rfl)) ?_;(with_reducible refine (spec_IsBlank.calls t371 true _ A13.out).mono ?_);rintro e w' ⟨rfl,⟨nd,rfl⟩⟩;refine ⟨_,rfl,?_⟩;(try (rw [drewN_self w19];generalize hq_ : World.drewN w19 _ = w19;have n0_ : Aside0 (IsS115 w0 w19 g s0_0 t372 t373):=⟨by rw [← hq_];exact (by repeat (first|(with_reducible first|exact HI0.out|apply sA|apply sB|apply sC|apply sD|apply sE)|exact HI0.out))⟩;have n1_ : Aside0 (KeepBut w w19 g none):=⟨by rw [← hq_];exact (by repeat (first|(with_reducible first|exact HK.out|apply kA|apply kB|apply kC|apply kD)|exact HK.out))⟩;have n2_ : Aside0 (Below w0.heap.size w0 w19):=⟨by rw [← hq_];exact (by repeat (first|(with_reducible first|exact HB.out|apply bA|apply bB|apply bC|refine bD ?_ (IsS115.ge HI0.out))|exact HB.out))⟩;clear HI0 HK HB hq_;have HI0:=n0_;have HK:=n1_;have HB:=n2_;clear n0_ n1_ n2_)))|((with_reducible refine gate_callee (f:=106) rfl ?_);refine goesL_ (some 32) rfl rfl Tryz.func106 (by kernel_rfl) rfl #[.pointer (some ⟨g,0,none⟩)] rfl (by (try simp only [List.map_toArray,List.map_cons,List.map_nil]);first|done|rfl|(simp only [List.length_drop,List.length_take];rfl)) ?_;(with_reducible refine (spec_reader_blanks.calls k1 g s0_0 t372 t373 t375 t376 w0 _ ?side1 ?side2 A15.out).mono ?_);(case side1 => repeat (first|(with_reducible first|exact HI0.out|apply sA|apply sB|apply sC|apply sD|apply sE)|exact HI0.out));(case side2 => repeat (first|(with_reducible first|exact HB.out|apply bA|apply bB|apply bC|refine bD ?_ (IsS115.ge HI0.out))|exact HB.out));rintro e w20 ⟨rfl,hi,hb,hk⟩;refine ⟨_,rfl,?_⟩;have n0_:=Aside0.mk (KeepBut.trans (by repeat (first|(with_reducible first|exact HK.out|apply kA|apply kB|apply kC|apply kD)|exact HK.out)) hk (.inl rfl));have n1_:=Aside0.mk (hb);have n2_:=Aside0.mk (hi);clear HK;clear HB;clear HI0;have HK:=n0_;have HB:=n1_;have HI0:=n2_;clear n0_ n1_ n2_;(try clear hb);(try clear hb2);(try clear hk);(try clear hi))|((with_reducible refine gate_callee (f:=104) rfl ?_);refine goesL_ (some 34) rfl rfl Tryz.func104 (by kernel_rfl) rfl #[.pointer (some ⟨g,0,none⟩),.int .i64 0] rfl (by (try simp only [List.map_toArray,List.map_cons,List.map_nil]);first|done|rfl|(simp only [List.length_drop,List.length_take];rfl)) ?_;(with_reducible refine (spec_reader_peek.calls g s0_0 t375 t376 0 t377 t378 t379 w0 _ ?side1 ?side2 A16.out).mono ?_);(case side1 => repeat (first|(with_reducible first|exact HI0.out|apply sA|apply sB|apply sC|apply sD|apply sE)|exact HI0.out));(case side2 => repeat (first|(with_reducible first|exact HB.out|apply bA|apply bB|apply bC|refine bD ?_ (IsS115.ge HI0.out))|exact HB.out));rintro e w21 ⟨rfl,hi,hb,hk⟩;refine ⟨_,rfl,?_⟩;have n0_:=Aside0.mk (KeepBut.trans (by repeat (first|(with_reducible first|exact HK.out|apply kA|apply kB|apply kC|apply kD)|exact HK.out)) hk (.inl rfl));have n1_:=Aside0.mk (hb);have n2_:=Aside0.mk (hi);clear HK;clear HB;clear HI0;have HK:=n0_;have HB:=n1_;have HI0:=n2_;clear n0_ n1_ n2_;(try clear hb);(try clear hb2);(try clear hk);(try clear hi);obtain ⟨ASz22_0,cSz22_0,HGz22,hgz22,HSz22_0⟩:=HI0.out;have hcz22_0:=cellS115_0 HGz22;have hcz22_1:=cellS115_1 HGz22;have hcz22_2:=cellS115_2 HGz22;have hfz22_1:=blk_frozen HGz22 1;have hfz22_2:=blk_frozen HGz22 2;clear HGz22 hgz22))
       go_ret
       exact ⟨by first|rfl|(simp [errW_none,errW_some] <;> rfl)|(simp [*,errW_none,errW_some] <;> rfl),by repeat (first|(with_reducible first|exact HI0.out|apply sA|apply sB|apply sC|apply sD|apply sE)|exact HI0.out),by repeat (first|(with_reducible first|exact HB.out|apply bA|apply bB|apply bC|refine bD ?_ (IsS115.ge HI0.out))|exact HB.out),by repeat (first|(with_reducible first|exact HK.out|apply kA|apply kB|apply kC|apply kD)|exact HK.out)⟩
      ·rw [if_neg c17] at H
       have c17b0 : (t377 == 41) = false:=beq_eq_false_iff_ne.mpr c17
       have c17b1 : (t377 != 41) = true:=bne_iff_ne.mpr c17
       replace H:=Option.bind_eq_some_iff.mp H
       obtain ⟨⟨t380,t381,t382⟩,A230,H⟩:=H
       replace H : (some (t380,t381,t382)) = some (r1,r2,r3):=H
       have A23:=Aside0.mk A230
       clear A230
       simp only [Option.some.injEq,Prod.mk.injEq] at H
       obtain ⟨rfl,rfl,rfl⟩:=H
       go_wp2_with (first|((with_reducible refine gate_callee (f:=67) rfl ?_);refine goesL_ (some 7) rfl rfl Tryz.func67 (by kernel_rfl) rfl #[.pointer (some ⟨g,0,none⟩)] rfl (by (try simp only [List.map_toArray,List.map_cons,List.map_nil]);first|done|rfl|(simp only [List.length_drop,List.length_take];rfl)) ?_;(with_reducible refine (spec_reader_over.calls g s0_0 x1001_1 x1002_1 false t369 t370 w0 _ ?side1 ?side2 A4.out).mono ?_);(case side1 => repeat (first|(with_reducible first|exact HI0.out|apply sA|apply sB|apply sC|apply sD|apply sE)|exact HI0.out));(case side2 => repeat (first|(with_reducible first|exact HB.out|apply bA|apply bB|apply bC|refine bD ?_ (IsS115.ge HI0.out))|exact HB.out));rintro e w24 ⟨rfl,hi,hb,hk⟩;refine ⟨_,rfl,?_⟩;have n0_:=Aside0.mk (KeepBut.trans (by repeat (first|(with_reducible first|exact HK.out|apply kA|apply kB|apply kC|apply kD)|exact HK.out)) hk (.inl rfl));have n1_:=Aside0.mk (hb);have n2_:=Aside0.mk (hi);clear HK;clear HB;clear HI0;have HK:=n0_;have HB:=n1_;have HI0:=n2_;clear n0_ n1_ n2_;(try clear hb);(try clear hb2);(try clear hk);(try clear hi))|((with_reducible refine gate_callee (f:=104) rfl ?_);refine goesL_ (some 10) rfl rfl Tryz.func104 (by kernel_rfl) rfl #[.pointer (some ⟨g,0,none⟩),.int .i64 0] rfl (by (try simp only [List.map_toArray,List.map_cons,List.map_nil]);first|done|rfl|(simp only [List.length_drop,List.length_take];rfl)) ?_;(with_reducible refine (spec_reader_peek.calls g s0_0 t369 t370 0 t371 t372 t373 w0 _ ?side1 ?side2 A8.out).mono ?_);(case side1 => repeat (first|(with_reducible first|exact HI0.out|apply sA|apply sB|apply sC|apply sD|apply sE)|exact HI0.out));(case side2 => repeat (first|(with_reducible first|exact HB.out|apply bA|apply bB|apply bC|refine bD ?_ (IsS115.ge HI0.out))|exact HB.out));rintro e w25 ⟨rfl,hi,hb,hk⟩;refine ⟨_,rfl,?_⟩;have n0_:=Aside0.mk (KeepBut.trans (by repeat (first|(with_reducible first|exact HK.out|apply kA|apply kB|apply kC|apply kD)|exact HK.out)) hk (.inl rfl));have n1_:=Aside0.mk (hb);have n2_:=Aside0.mk (hi);clear HK;clear HB;clear HI0;have HK:=n0_;have HB:=n1_;have HI0:=n2_;clear n0_ n1_ n2_;(try clear hb);(try clear hb2);(try clear hk);(try clear hi))|((with_reducible refine gate_callee (f:=105) rfl ?_);refine goesL_ (some 30) rfl rfl Tryz.func105 (by kernel_rfl) rfl #[.int .u8 t371] rfl (by (try simp only [List.map_toArray,List.map_cons,List.map_nil]);first|done|rfl|(simp only [List.length_drop,List.length_take];rfl)) ?_;(with_reducible refine (spec_IsBlank.calls t371 true _ A13.out).mono ?_);rintro e w' ⟨rfl,⟨nd,rfl⟩⟩;refine ⟨_,rfl,?_⟩)|((with_reducible refine gate_callee (f:=106) rfl ?_);refine goesL_ (some 32) rfl rfl Tryz.func106 (by kernel_rfl) rfl #[.pointer (some ⟨g,0,none⟩)] rfl (by (try simp only [List.map_toArray,List.map_cons,List.map_nil]);first|done|rfl|(simp only [List.length_drop,List.length_take];rfl)) ?_;(with_reducible refine (spec_reader_blanks.calls k1 g s0_0 t372 t373 t375 t376 w0 _ ?side1 ?side2 A15.out).mono ?_);(case side1 => repeat (first|(with_reducible first|exact HI0.out|apply sA|apply sB|apply sC|apply sD|apply sE)|exact HI0.out));(case side2 => repeat (first|(with_reducible first|exact HB.out|apply bA|apply bB|apply bC|refine bD ?_ (IsS115.ge HI0.out))|exact HB.out));rintro e w26 ⟨rfl,hi,hb,hk⟩;refine ⟨_,rfl,?_⟩;have n0_:=Aside0.mk (KeepBut.trans (by repeat (first|(with_reducible first|exact HK.out|apply kA|apply kB|apply kC|apply kD)|exact HK.out)) hk (.inl rfl));have n1_:=Aside0.mk (hb);have n2_:=Aside0.mk (hi);clear HK;clear HB;clear HI0;have HK:=n0_;have HB:=n1_;have HI0:=n2_;clear n0_ n1_ n2_;(try clear hb);(try clear hb2);(try clear hk);(try clear hi))|((with_reducible refine gate_callee (f:=104) rfl ?_);refine goesL_ (some 34) rfl rfl Tryz.func104 (by kernel_rfl) rfl #[.pointer (some ⟨g,0,none⟩),.int .i64 0] rfl (by (try simp only [List.map_toArray,List.map_cons,List.map_nil]);first|done|rfl|(simp only [List.length_drop,List.length_take];rfl)) ?_;(with_reducible refine (spec_reader_peek.calls g s0_0 t375 t376 0 t377 t378 t379 w0 _ ?side1 ?side2 A16.out).mono ?_);(case side1 => repeat (first|(with_reducible first|exact HI0.out|apply sA|apply sB|apply sC|apply sD|apply sE)|exact HI0.out));(case side2 => repeat (first|(with_reducible first|exact HB.out|apply bA|apply bB|apply bC|refine bD ?_ (IsS115.ge HI0.out))|exact HB.out));rintro e w27 ⟨rfl,hi,hb,hk⟩;refine ⟨_,rfl,?_⟩;have n0_:=Aside0.mk (KeepBut.trans (by repeat (first|(with_reducible first|exact HK.out|apply kA|apply kB|apply kC|apply kD)|exact HK.out)) hk (.inl rfl));have n1_:=Aside0.mk (hb);have n2_:=Aside0.mk (hi);clear HK;clear HB;clear HI0;have HK:=n0_;have HB:=n1_;have HI0:=n2_;clear n0_ n1_ n2_;(try clear hb);(try clear hb2);(try clear hk);(try clear hi))|((with_reducible refine gate_callee (f:=155) rfl ?_);refine goesL_ (some 44) rfl rfl Tryz.func155 (by kernel_rfl) rfl #[.pointer (some ⟨g,0,none⟩)] rfl (by (try simp only [List.map_toArray,List.map_cons,List.map_nil]);first|done|rfl|(simp only [List.length_drop,List.length_take];rfl)) ?_;(with_reducible refine (spec_reader_wrong.calls g s0_0 t378 t379 t380 t381 t382 w0 _ ?side1 ?side2 A23.out).mono ?_);(case side1 => repeat (first|(with_reducible first|exact HI0.out|apply sA|apply sB|apply sC|apply sD|apply sE)|exact HI0.out));(case side2 => repeat (first|(with_reducible first|exact HB.out|apply bA|apply bB|apply bC|refine bD ?_ (IsS115.ge HI0.out))|exact HB.out));rintro e w28 ⟨rfl,hi,hb,hk⟩;refine ⟨_,rfl,?_⟩;have n0_:=Aside0.mk (KeepBut.trans (by repeat (first|(with_reducible first|exact HK.out|apply kA|apply kB|apply kC|apply kD)|exact HK.out)) hk (.inl rfl));have n1_:=Aside0.mk (hb);have n2_:=Aside0.mk (hi);clear HK;clear HB;clear HI0;have HK:=n0_;have HB:=n1_;have HI0:=n2_;clear n0_ n1_ n2_;(try clear hb);(try clear hb2);(try clear hk);(try clear hi)))
       go_ret
       exact ⟨by first|rfl|(simp [errW_none,errW_some] <;> rfl)|(simp [*,errW_none,errW_some] <;> rfl),by repeat (first|(with_reducible first|exact HI0.out|apply sA|apply sB|apply sC|apply sD|apply sE)|exact HI0.out),by repeat (first|(with_reducible first|exact HB.out|apply bA|apply bB|apply bC|refine bD ?_ (IsS115.ge HI0.out))|exact HB.out),by repeat (first|(with_reducible first|exact HK.out|apply kA|apply kB|apply kC|apply kD)|exact HK.out)⟩
     ·replace c14:=Bool.eq_false_iff.mpr c14
      subst c14
      have H1 : (if t371 = 34 then (spec_reader_address.j1 k1 t371 true s0_0 t372 t373) else (if t371 = 39 then (spec_reader_address.j1 k1 t371 true s0_0 t372 t373) else (if t371 = 40 then (spec_reader_address.j1 k1 t371 true s0_0 t372 t373) else ((spec_isControl.f t371).bind fun t383 => (spec_reader_address.j1 k1 t371 t383 s0_0 t372 t373))))) = some (r1,r2,r3):=by rw [if_neg (show ¬ (false = true) by decide)] at H;exact H
      clear H
      have H:=H1
      clear H1
      have HC29:=Aside0.mk H
      clear H
      go_upto_region 14 with (first|((with_reducible refine gate_callee (f:=67) rfl ?_);refine goesL_ (some 7) rfl rfl Tryz.func67 (by kernel_rfl) rfl #[.pointer (some ⟨g,0,none⟩)] rfl (by (try simp only [List.map_toArray,List.map_cons,List.map_nil]);first|done|rfl|(simp only [List.length_drop,List.length_take];rfl)) ?_;(with_reducible refine (spec_reader_over.calls g s0_0 x1001_1 x1002_1 false t369 t370 w0 _ ?side1 ?side2 A4.out).mono ?_);(case side1 => repeat (first|(with_reducible first|exact HI0.out|apply sA|apply sB|apply sC|apply sD|apply sE)|exact HI0.out));(case side2 => repeat (first|(with_reducible first|exact HB.out|apply bA|apply bB|apply bC|refine bD ?_ (IsS115.ge HI0.out))|exact HB.out));rintro e w30 ⟨rfl,hi,hb,hk⟩;refine ⟨_,rfl,?_⟩;have n0_:=Aside0.mk (KeepBut.trans (by repeat (first|(with_reducible first|exact HK.out|apply kA|apply kB|apply kC|apply kD)|exact HK.out)) hk (.inl rfl));have n1_:=Aside0.mk (hb);have n2_:=Aside0.mk (hi);clear HK;clear HB;clear HI0;have HK:=n0_;have HB:=n1_;have HI0:=n2_;clear n0_ n1_ n2_;(try clear hb);(try clear hb2);(try clear hk);(try clear hi))|((with_reducible refine gate_callee (f:=104) rfl ?_);refine goesL_ (some 10) rfl rfl Tryz.func104 (by kernel_rfl) rfl #[.pointer (some ⟨g,0,none⟩),.int .i64 0] rfl (by (try simp only [List.map_toArray,List.map_cons,List.map_nil]);first|done|rfl|(simp only [List.length_drop,List.length_take];rfl)) ?_;(with_reducible refine (spec_reader_peek.calls g s0_0 t369 t370 0 t371 t372 t373 w0 _ ?side1 ?side2 A8.out).mono ?_);(case side1 => repeat (first|(with_reducible first|exact HI0.out|apply sA|apply sB|apply sC|apply sD|apply sE)|exact HI0.out));(case side2 => repeat (first|(with_reducible first|exact HB.out|apply bA|apply bB|apply bC|refine bD ?_ (IsS115.ge HI0.out))|exact HB.out));rintro e w31 ⟨rfl,hi,hb,hk⟩;refine ⟨_,rfl,?_⟩;have n0_:=Aside0.mk (KeepBut.trans (by repeat (first|(with_reducible first|exact HK.out|apply kA|apply kB|apply kC|apply kD)|exact HK.out)) hk (.inl rfl));have n1_:=Aside0.mk (hb);have n2_:=Aside0.mk (hi);clear HK;clear HB;clear HI0;have HK:=n0_;have HB:=n1_;have HI0:=n2_;clear n0_ n1_ n2_;(try clear hb);(try clear hb2);(try clear hk);(try clear hi))|((with_reducible refine gate_callee (f:=105) rfl ?_);refine goesL_ (some 30) rfl rfl Tryz.func105 (by kernel_rfl) rfl #[.int .u8 t371] rfl (by (try simp only [List.map_toArray,List.map_cons,List.map_nil]);first|done|rfl|(simp only [List.length_drop,List.length_take];rfl)) ?_;(with_reducible refine (spec_IsBlank.calls t371 false _ A13.out).mono ?_);rintro e w' ⟨rfl,⟨nd,rfl⟩⟩;refine ⟨_,rfl,?_⟩))
      (try simp only [Act.put,List.setIfInBounds_toArray,List.set_cons_zero,List.set_cons_succ])
      go_cut [45] (fun v45 wc => ∃ (kq : Nat) (x45_28 : Bool),v45 = .bool x45_28 ∧ Aside0 (spec_reader_address.j1 kq t371 x45_28 s0_0 t372 t373 = some (r1,r2,r3)) ∧ Aside0 (kq ≤ k1) ∧ Aside0 (IsS115 w0 wc g s0_0 t372 t373) ∧ Aside0 (KeepBut w wc g none) ∧ Aside0 (Below w0.heap.size w0 wc))
      case first =>
       have H:=HC29.out
       clear HC29
       by_cases c32 : t371 = 34
       ·rw [if_pos c32] at H
        have c32b0 : (t371 == 34) = true:=beq_iff_eq.mpr c32
        have c32b1 : (t371 != 34) = false:=bne_eq_false_iff_eq.mpr c32
        clear c32
        (first|rw [c32b0]|(simp only [i64_w,i32_w];rw [c32b0])|skip)
        have H':=Aside0.mk H
        clear H
        go_wp2
        go_meet
        case rel => exact ⟨_,(true),(by first|rfl|(simp;done)|(simp [*];done)),H',⟨by have:=HK1.out;first|omega|exact Nat.le_refl _⟩,⟨by repeat (first|(with_reducible first|exact HI0.out|apply sA|apply sB|apply sC|apply sD|apply sE)|exact HI0.out)⟩,⟨by repeat (first|(with_reducible first|exact HK.out|apply kA|apply kB|apply kC|apply kD)|exact HK.out)⟩,⟨by repeat (first|(with_reducible first|exact HB.out|apply bA|apply bB|apply bC|refine bD ?_ (IsS115.ge HI0.out))|exact HB.out)⟩⟩
       ·rw [if_neg c32] at H
        have c32b0 : (t371 == 34) = false:=beq_eq_false_iff_ne.mpr c32
        have c32b1 : (t371 != 34) = true:=bne_iff_ne.mpr c32
        (first|rw [c32b0]|(simp only [i64_w,i32_w];rw [c32b0])|skip)
        by_cases c33 : t371 = 39
        ·rw [if_pos c33] at H
         have c33b0 : (t371 == 39) = true:=beq_iff_eq.mpr c33
         have c33b1 : (t371 != 39) = false:=bne_eq_false_iff_eq.mpr c33
         clear c33
         have H':=Aside0.mk H
         clear H
         go_wp2
         go_meet
         case rel => exact ⟨_,(true),(by first|rfl|(simp;done)|(simp [*];done)),H',⟨by have:=HK1.out;first|omega|exact Nat.le_refl _⟩,⟨by repeat (first|(with_reducible first|exact HI0.out|apply sA|apply sB|apply sC|apply sD|apply sE)|exact HI0.out)⟩,⟨by repeat (first|(with_reducible first|exact HK.out|apply kA|apply kB|apply kC|apply kD)|exact HK.out)⟩,⟨by repeat (first|(with_reducible first|exact HB.out|apply bA|apply bB|apply bC|refine bD ?_ (IsS115.ge HI0.out))|exact HB.out)⟩⟩
        ·rw [if_neg c33] at H
         have c33b0 : (t371 == 39) = false:=beq_eq_false_iff_ne.mpr c33
         have c33b1 : (t371 != 39) = true:=bne_iff_ne.mpr c33
         by_cases c34 : t371 = 40
         ·rw [if_pos c34] at H
          have c34b0 : (t371 == 40) = true:=beq_iff_eq.mpr c34
          have c34b1 : (t371 != 40) = false:=bne_eq_false_iff_eq.mpr c34
          clear c34
          have H':=Aside0.mk H
          clear H
          go_wp2
          go_meet
          case rel => exact ⟨_,(true),(by first|rfl|(simp;done)|(simp [*];done)),H',⟨by have:=HK1.out;first|omega|exact Nat.le_refl _⟩,⟨by repeat (first|(with_reducible first|exact HI0.out|apply sA|apply sB|apply sC|apply sD|apply sE)|exact HI0.out)⟩,⟨by repeat (first|(with_reducible first|exact HK.out|apply kA|apply kB|apply kC|apply kD)|exact HK.out)⟩,⟨by repeat (first|(with_reducible first|exact HB.out|apply bA|apply bB|apply bC|refine bD ?_ (IsS115.ge HI0.out))|exact HB.out)⟩⟩
         ·rw [if_neg c34] at H
          have c34b0 : (t371 == 40) = false:=beq_eq_false_iff_ne.mpr c34
          have c34b1 : (t371 != 40) = true:=bne_iff_ne.mpr c34
          replace H:=Option.bind_eq_some_iff.mp H
          obtain ⟨t383,A350,H⟩:=H
          replace H : (spec_reader_address.j1 k1 t371 t383 s0_0 t372 t373) = some (r1,r2,r3):=H
          have A35:=Aside0.mk A350
          clear A350
          have H':=Aside0.mk H
          clear H
          go_wp2_with (first|(go_at_call 156;(with_reducible refine (spec_isControl.calls t371 t383 _ A35.out).mono ?_);rintro e w' ⟨rfl,⟨nd,rfl⟩⟩))
          go_meet
          case rel => exact ⟨_,(t383),(by first|rfl|(simp;done)|(simp [*];done)),H',⟨by have:=HK1.out;first|omega|exact Nat.le_refl _⟩,⟨by repeat (first|(with_reducible first|exact HI0.out|apply sA|apply sB|apply sC|apply sD|apply sE)|exact HI0.out)⟩,⟨by repeat (first|(with_reducible first|exact HK.out|apply kA|apply kB|apply kC|apply kD)|exact HK.out)⟩,⟨by repeat (first|(with_reducible first|exact HB.out|apply bA|apply bB|apply bC|refine bD ?_ (IsS115.ge HI0.out))|exact HB.out)⟩⟩
      case rest =>
       clear HC29
       try clear c1
       try clear p2
       try clear c3
       try clear c5
       try clear c6
       try clear p6
       try clear c9
       try clear c9b0
       try clear c9b1
       try clear c10
       try clear c14
       try clear c15
       try clear c17
       try clear c17b0
       try clear c17b1
       try clear c32
       try clear c32b0
       try clear c32b1
       try clear c33
       try clear c33b0
       try clear c33b1
       try clear c34
       try clear c34b0
       try clear c34b1
       try clear hcz12_0
       try clear hcz12_1
       try clear hcz12_2
       try clear hcz22_0
       try clear hcz22_1
       try clear hcz22_2
       try clear hcz7_0
       try clear hcz7_1
       try clear hcz7_2
       try clear hfz12_1
       try clear hfz12_2
       try clear hfz22_1
       try clear hfz22_2
       try clear hfz7_1
       try clear hfz7_2
       try clear p2
       obtain ⟨kq,x45_28,rfl,HA,HJ28,HI0,HK,HB⟩:=hcut
       cases kq with
       | zero => exact absurd HA.out (by simp [spec_reader_address.j1])
       | succ kj28 =>
        have H:=HA.out
        clear HA
        simp only [spec_reader_address.j1] at H
        by_cases c36 : x45_28 = true
        ·subst c36
         have H1 : ((spec_reader_wrong.f s0_0 t372 t373).bind fun bt384 => (some (bt384.1,bt384.2.1,bt384.2.2))) = some (r1,r2,r3):=by rw [if_pos rfl] at H;exact H
         clear H
         have H:=H1
         clear H1
         replace H:=Option.bind_eq_some_iff.mp H
         obtain ⟨⟨t384,t385,t386⟩,A370,H⟩:=H
         replace H : (some (t384,t385,t386)) = some (r1,r2,r3):=H
         have A37:=Aside0.mk A370
         clear A370
         simp only [Option.some.injEq,Prod.mk.injEq] at H
         obtain ⟨rfl,rfl,rfl⟩:=H
         go_wp2_with (first|((with_reducible refine gate_callee (f:=155) rfl ?_);refine goesL_ (some 61) rfl rfl Tryz.func155 (by kernel_rfl) rfl #[.pointer (some ⟨g,0,none⟩)] rfl (by (try simp only [List.map_toArray,List.map_cons,List.map_nil]);first|done|rfl|(simp only [List.length_drop,List.length_take];rfl)) ?_;(with_reducible refine (spec_reader_wrong.calls g s0_0 t372 t373 t384 t385 t386 w0 _ ?side1 ?side2 A37.out).mono ?_);(case side1 => repeat (first|(with_reducible first|exact HI0.out|apply sA|apply sB|apply sC|apply sD|apply sE)|exact HI0.out));(case side2 => repeat (first|(with_reducible first|exact HB.out|apply bA|apply bB|apply bC|refine bD ?_ (IsS115.ge HI0.out))|exact HB.out));rintro e w38 ⟨rfl,hi,hb,hk⟩;refine ⟨_,rfl,?_⟩;have n0_:=Aside0.mk (KeepBut.trans (by repeat (first|(with_reducible first|exact HK.out|apply kA|apply kB|apply kC|apply kD)|exact HK.out)) hk (.inl rfl));have n1_:=Aside0.mk (hb);have n2_:=Aside0.mk (hi);clear HK;clear HB;clear HI0;have HK:=n0_;have HB:=n1_;have HI0:=n2_;clear n0_ n1_ n2_;(try clear hb);(try clear hb2);(try clear hk);(try clear hi)))
         go_ret
         exact ⟨by first|rfl|(simp [errW_none,errW_some] <;> rfl)|(simp [*,errW_none,errW_some] <;> rfl),by repeat (first|(with_reducible first|exact HI0.out|apply sA|apply sB|apply sC|apply sD|apply sE)|exact HI0.out),by repeat (first|(with_reducible first|exact HB.out|apply bA|apply bB|apply bC|refine bD ?_ (IsS115.ge HI0.out))|exact HB.out),by repeat (first|(with_reducible first|exact HK.out|apply kA|apply kB|apply kC|apply kD)|exact HK.out)⟩
        ·replace c36:=Bool.eq_false_iff.mpr c36
         subst c36
         have H1 : (if t371 = 92 then ((spec_reader_escapes.f s0_0 t372 t373 0).bind fun bt387 => (if bt387.1 = true then ((spec_reader_escape.f kj28 s0_0 bt387.2.1 bt387.2.2).bind fun bt390 => (spec_reader_address.l0 kj28 s0_0 bt390.1 bt390.2)) else ((spec_reader_wrong.f s0_0 bt387.2.1 bt387.2.2).bind fun bt392 => (some (bt392.1,bt392.2.1,bt392.2.2))))) else (spec_reader_address.l0 kj28 s0_0 (wrap64 (t372 + 1)) t373)) = some (r1,r2,r3):=by rw [if_neg (show ¬ (false = true) by decide)] at H;exact H
         clear H
         have H:=H1
         clear H1
         by_cases c39 : t371 = 92
         ·rw [if_pos c39] at H
          have c39b0 : (t371 == 92) = true:=beq_iff_eq.mpr c39
          have c39b1 : (t371 != 92) = false:=bne_eq_false_iff_eq.mpr c39
          clear c39
          replace H:=Option.bind_eq_some_iff.mp H
          obtain ⟨⟨t387,t388,t389⟩,A400,H⟩:=H
          replace H : (if t387 = true then ((spec_reader_escape.f kj28 s0_0 t388 t389).bind fun bt390 => (spec_reader_address.l0 kj28 s0_0 bt390.1 bt390.2)) else ((spec_reader_wrong.f s0_0 t388 t389).bind fun bt392 => (some (bt392.1,bt392.2.1,bt392.2.2)))) = some (r1,r2,r3):=H
          have A40:=Aside0.mk A400
          clear A400
          by_cases c41 : t387 = true
          ·subst c41
           have H1 : ((spec_reader_escape.f kj28 s0_0 t388 t389).bind fun bt390 => (spec_reader_address.l0 kj28 s0_0 bt390.1 bt390.2)) = some (r1,r2,r3):=by rw [if_pos rfl] at H;exact H
           clear H
           have H:=H1
           clear H1
           replace H:=Option.bind_eq_some_iff.mp H
           obtain ⟨⟨t390,t391⟩,A420,H⟩:=H
           replace H : (spec_reader_address.l0 kj28 s0_0 t390 t391) = some (r1,r2,r3):=H
           have A42:=Aside0.mk A420
           clear A420
           have H':=Aside0.mk H
           clear H
           go_wp2_with (first|((with_reducible refine gate_callee (f:=135) rfl ?_);refine goesL_ (some 66) rfl rfl Tryz.func135 (by kernel_rfl) rfl #[.pointer (some ⟨g,0,none⟩),.int .i64 0] rfl (by (try simp only [List.map_toArray,List.map_cons,List.map_nil]);first|done|rfl|(simp only [List.length_drop,List.length_take];rfl)) ?_;(with_reducible refine (spec_reader_escapes.calls g s0_0 t372 t373 0 true t388 t389 w0 _ ?side1 ?side2 A40.out).mono ?_);(case side1 => repeat (first|(with_reducible first|exact HI0.out|apply sA|apply sB|apply sC|apply sD|apply sE)|exact HI0.out));(case side2 => repeat (first|(with_reducible first|exact HB.out|apply bA|apply bB|apply bC|refine bD ?_ (IsS115.ge HI0.out))|exact HB.out));rintro e w43 ⟨rfl,hi,hb,hk⟩;refine ⟨_,rfl,?_⟩;have n0_:=Aside0.mk (KeepBut.trans (by repeat (first|(with_reducible first|exact HK.out|apply kA|apply kB|apply kC|apply kD)|exact HK.out)) hk (.inl rfl));have n1_:=Aside0.mk (hb);have n2_:=Aside0.mk (hi);clear HK;clear HB;clear HI0;have HK:=n0_;have HB:=n1_;have HI0:=n2_;clear n0_ n1_ n2_;(try clear hb);(try clear hb2);(try clear hk);(try clear hi))|((with_reducible refine gate_callee (f:=136) rfl ?_);refine goesL_ (some 71) rfl rfl Tryz.func136 (by kernel_rfl) rfl #[.pointer (some ⟨g,0,none⟩)] rfl (by (try simp only [List.map_toArray,List.map_cons,List.map_nil]);first|done|rfl|(simp only [List.length_drop,List.length_take];rfl)) ?_;(with_reducible refine (spec_reader_escape.calls kj28 g s0_0 t388 t389 t390 t391 w0 _ ?side1 ?side2 A42.out).mono ?_);(case side1 => repeat (first|(with_reducible first|exact HI0.out|apply sA|apply sB|apply sC|apply sD|apply sE)|exact HI0.out));(case side2 => repeat (first|(with_reducible first|exact HB.out|apply bA|apply bB|apply bC|refine bD ?_ (IsS115.ge HI0.out))|exact HB.out));rintro e w44 ⟨rfl,hi,hb,hk⟩;refine ⟨_,rfl,?_⟩;have n0_:=Aside0.mk (KeepBut.trans (by repeat (first|(with_reducible first|exact HK.out|apply kA|apply kB|apply kC|apply kD)|exact HK.out)) hk (.inl rfl));have n1_:=Aside0.mk (hb);have n2_:=Aside0.mk (hi);clear HK;clear HB;clear HI0;have HK:=n0_;have HB:=n1_;have HI0:=n2_;clear n0_ n1_ n2_;(try clear hb);(try clear hb2);(try clear hk);(try clear hi)))
           go_roundg kj28
           case measure => have:=HK1.out;have:=HJ28.out;omega
           case rel => exact ⟨(t390),(t391),H',⟨by have:=HK1.out;have:=HJ28.out;omega⟩,⟨by repeat (first|(with_reducible first|exact HI0.out|apply sA|apply sB|apply sC|apply sD|apply sE)|exact HI0.out)⟩,⟨by repeat (first|(with_reducible first|exact HK.out|apply kA|apply kB|apply kC|apply kD)|exact HK.out)⟩,⟨by repeat (first|(with_reducible first|exact HB.out|apply bA|apply bB|apply bC|refine bD ?_ (IsS115.ge HI0.out))|exact HB.out)⟩⟩
          ·replace c41:=Bool.eq_false_iff.mpr c41
           subst c41
           have H1 : ((spec_reader_wrong.f s0_0 t388 t389).bind fun bt392 => (some (bt392.1,bt392.2.1,bt392.2.2))) = some (r1,r2,r3):=by rw [if_neg (show ¬ (false = true) by decide)] at H;exact H
           clear H
           have H:=H1
           clear H1
           replace H:=Option.bind_eq_some_iff.mp H
           obtain ⟨⟨t392,t393,t394⟩,A450,H⟩:=H
           replace H : (some (t392,t393,t394)) = some (r1,r2,r3):=H
           have A45:=Aside0.mk A450
           clear A450
           simp only [Option.some.injEq,Prod.mk.injEq] at H
           obtain ⟨rfl,rfl,rfl⟩:=H
           go_wp2_with (first|((with_reducible refine gate_callee (f:=135) rfl ?_);refine goesL_ (some 66) rfl rfl Tryz.func135 (by kernel_rfl) rfl #[.pointer (some ⟨g,0,none⟩),.int .i64 0] rfl (by (try simp only [List.map_toArray,List.map_cons,List.map_nil]);first|done|rfl|(simp only [List.length_drop,List.length_take];rfl)) ?_;(with_reducible refine (spec_reader_escapes.calls g s0_0 t372 t373 0 false t388 t389 w0 _ ?side1 ?side2 A40.out).mono ?_);(case side1 => repeat (first|(with_reducible first|exact HI0.out|apply sA|apply sB|apply sC|apply sD|apply sE)|exact HI0.out));(case side2 => repeat (first|(with_reducible first|exact HB.out|apply bA|apply bB|apply bC|refine bD ?_ (IsS115.ge HI0.out))|exact HB.out));rintro e w46 ⟨rfl,hi,hb,hk⟩;refine ⟨_,rfl,?_⟩;have n0_:=Aside0.mk (KeepBut.trans (by repeat (first|(with_reducible first|exact HK.out|apply kA|apply kB|apply kC|apply kD)|exact HK.out)) hk (.inl rfl));have n1_:=Aside0.mk (hb);have n2_:=Aside0.mk (hi);clear HK;clear HB;clear HI0;have HK:=n0_;have HB:=n1_;have HI0:=n2_;clear n0_ n1_ n2_;(try clear hb);(try clear hb2);(try clear hk);(try clear hi))|((with_reducible refine gate_callee (f:=155) rfl ?_);refine goesL_ (some 69) rfl rfl Tryz.func155 (by kernel_rfl) rfl #[.pointer (some ⟨g,0,none⟩)] rfl (by (try simp only [List.map_toArray,List.map_cons,List.map_nil]);first|done|rfl|(simp only [List.length_drop,List.length_take];rfl)) ?_;(with_reducible refine (spec_reader_wrong.calls g s0_0 t388 t389 t392 t393 t394 w0 _ ?side1 ?side2 A45.out).mono ?_);(case side1 => repeat (first|(with_reducible first|exact HI0.out|apply sA|apply sB|apply sC|apply sD|apply sE)|exact HI0.out));(case side2 => repeat (first|(with_reducible first|exact HB.out|apply bA|apply bB|apply bC|refine bD ?_ (IsS115.ge HI0.out))|exact HB.out));rintro e w47 ⟨rfl,hi,hb,hk⟩;refine ⟨_,rfl,?_⟩;have n0_:=Aside0.mk (KeepBut.trans (by repeat (first|(with_reducible first|exact HK.out|apply kA|apply kB|apply kC|apply kD)|exact HK.out)) hk (.inl rfl));have n1_:=Aside0.mk (hb);have n2_:=Aside0.mk (hi);clear HK;clear HB;clear HI0;have HK:=n0_;have HB:=n1_;have HI0:=n2_;clear n0_ n1_ n2_;(try clear hb);(try clear hb2);(try clear hk);(try clear hi)))
           go_ret
           exact ⟨by first|rfl|(simp [errW_none,errW_some] <;> rfl)|(simp [*,errW_none,errW_some] <;> rfl),by repeat (first|(with_reducible first|exact HI0.out|apply sA|apply sB|apply sC|apply sD|apply sE)|exact HI0.out),by repeat (first|(with_reducible first|exact HB.out|apply bA|apply bB|apply bC|refine bD ?_ (IsS115.ge HI0.out))|exact HB.out),by repeat (first|(with_reducible first|exact HK.out|apply kA|apply kB|apply kC|apply kD)|exact HK.out)⟩
         ·rw [if_neg c39] at H
          have c39b0 : (t371 == 92) = false:=beq_eq_false_iff_ne.mpr c39
          have c39b1 : (t371 != 92) = true:=bne_iff_ne.mpr c39
          have H':=Aside0.mk H
          clear H
          obtain ⟨ASz48_0,cSz48_0,HGz48,hgz48,HSz48_0⟩:=HI0.out
          have hcz48_0:=cellS115_0 HGz48
          have hcz48_1:=cellS115_1 HGz48
          have hcz48_2:=cellS115_2 HGz48
          have hfz48_1:=blk_frozen HGz48 1
          have hfz48_2:=blk_frozen HGz48 2
          clear HGz48 hgz48
          go_wp2
          go_roundg kj28
          case measure => have:=HK1.out;have:=HJ28.out;omega
          case rel => exact ⟨(wrap64 (t372 + 1)),(t373),H',⟨by have:=HK1.out;have:=HJ28.out;omega⟩,⟨by repeat (first|(with_reducible first|exact HI0.out|apply sA|apply sB|apply sC|apply sD|apply sE)|exact HI0.out)⟩,⟨by repeat (first|(with_reducible first|exact HK.out|apply kA|apply kB|apply kC|apply kD)|exact HK.out)⟩,⟨by repeat (first|(with_reducible first|exact HB.out|apply bA|apply bB|apply bC|refine bD ?_ (IsS115.ge HI0.out))|exact HB.out)⟩⟩
def spec_reader_two.f (s0_0 : List Int) (s0_1 : Int) (s0_2 : Bool) (a1 : ByteArray) : Option (ByteArray × Int × Bool):=some (a1,wrap64 (s0_1 + 2),s0_2)
theorem spec_reader_two.calls (g : Nat) (s0_0 : List Int) (s0_1 : Int) (s0_2 : Bool) (a1 : ByteArray) (r1 : ByteArray) (r2 : Int) (r3 : Bool) (w0 w : World) (hI : IsS115 w0 w g s0_0 s0_1 s0_2) (hB : Below w0.heap.size w0 w) (h : spec_reader_two.f s0_0 s0_1 s0_2 a1 = some (r1,r2,r3)) :
  Calls Tryz.prog 143 #[.pointer (some ⟨g,0,none⟩),.string a1] w fun e w' => e = .returned (.string r1) ∧ IsS115 w0 w' g s0_0 r2 r3 ∧ Below w0.heap.size w0 w' ∧ KeepBut w w' g none:=by
 have HI0:=Aside0.mk hI
 have HK:=Aside0.mk (KeepBut.refl w g none)
 have HL:=Aside0.mk hB.size
 clear hI
 have HW0:=Aside0.mk hB.size
 have HB:=Aside0.mk hB
 clear hB
 have H : (some (a1,wrap64 (s0_1 + 2),s0_2)) = some (r1,r2,r3):=h
 clear h
 simp only [Option.some.injEq,Prod.mk.injEq] at H
 obtain ⟨rfl,rfl,rfl⟩:=H
 obtain ⟨ASz3_0,cSz3_0,HGz3,hgz3,HSz3_0⟩:=HI0.out
 have hcz3_0:=cellS115_0 HGz3
 have hcz3_1:=cellS115_1 HGz3
 have hcz3_2:=cellS115_2 HGz3
 have hfz3_1:=blk_frozen HGz3 1
 have hfz3_2:=blk_frozen HGz3 2
 clear HGz3 hgz3
 go_enter Tryz.func143,Tryz.ntmps143
 go_wp2
 go_ret
 exact ⟨by first|rfl|(simp [errW_none,errW_some] <;> rfl)|(simp [*,errW_none,errW_some] <;> rfl),by repeat (first|(with_reducible first|exact HI0.out|apply sA|apply sB|apply sC|apply sD|apply sE)|exact HI0.out),by repeat (first|(with_reducible first|exact HB.out|apply bA|apply bB|apply bC|refine bD ?_ (IsS115.ge HI0.out))|exact HB.out),by repeat (first|(with_reducible first|exact HK.out|apply kA|apply kB|apply kC|apply kD)|exact HK.out)⟩
def spec_reader_one.f (s0_0 : List Int) (s0_1 : Int) (s0_2 : Bool) (a1 : ByteArray) : Option (ByteArray × Int × Bool):=some (a1,wrap64 (s0_1 + 1),s0_2)
theorem spec_reader_one.calls (g : Nat) (s0_0 : List Int) (s0_1 : Int) (s0_2 : Bool) (a1 : ByteArray) (r1 : ByteArray) (r2 : Int) (r3 : Bool) (w0 w : World) (hI : IsS115 w0 w g s0_0 s0_1 s0_2) (hB : Below w0.heap.size w0 w) (h : spec_reader_one.f s0_0 s0_1 s0_2 a1 = some (r1,r2,r3)) :
  Calls Tryz.prog 144 #[.pointer (some ⟨g,0,none⟩),.string a1] w fun e w' => e = .returned (.string r1) ∧ IsS115 w0 w' g s0_0 r2 r3 ∧ Below w0.heap.size w0 w' ∧ KeepBut w w' g none:=by
 have HI0:=Aside0.mk hI
 have HK:=Aside0.mk (KeepBut.refl w g none)
 have HL:=Aside0.mk hB.size
 clear hI
 have HW0:=Aside0.mk hB.size
 have HB:=Aside0.mk hB
 clear hB
 have H : (some (a1,wrap64 (s0_1 + 1),s0_2)) = some (r1,r2,r3):=h
 clear h
 simp only [Option.some.injEq,Prod.mk.injEq] at H
 obtain ⟨rfl,rfl,rfl⟩:=H
 obtain ⟨ASz3_0,cSz3_0,HGz3,hgz3,HSz3_0⟩:=HI0.out
 have hcz3_0:=cellS115_0 HGz3
 have hcz3_1:=cellS115_1 HGz3
 have hcz3_2:=cellS115_2 HGz3
 have hfz3_1:=blk_frozen HGz3 1
 have hfz3_2:=blk_frozen HGz3 2
 clear HGz3 hgz3
 go_enter Tryz.func144,Tryz.ntmps144
 go_wp2
 go_ret
 exact ⟨by first|rfl|(simp [errW_none,errW_some] <;> rfl)|(simp [*,errW_none,errW_some] <;> rfl),by repeat (first|(with_reducible first|exact HI0.out|apply sA|apply sB|apply sC|apply sD|apply sE)|exact HI0.out),by repeat (first|(with_reducible first|exact HB.out|apply bA|apply bB|apply bC|refine bD ?_ (IsS115.ge HI0.out))|exact HB.out),by repeat (first|(with_reducible first|exact HK.out|apply kA|apply kB|apply kC|apply kD)|exact HK.out)⟩
end Go.Proofs.YtlglijnaeaonpaaGreatDoor.PFnStyle
end
