/- FnStyle: a part of the proof (Mf); in it lines that print.sh printed, those that are used. -/
import Derived.Test.YtlglijnaeaonpaaGreatDoorMa
section
set_option maxHeartbeats 8000000
set_option maxRecDepth 100000
set_option linter.unusedVariables false
set_option linter.unusedSimpArgs false
namespace Go.Proofs.YtlglijnaeaonpaaGreatDoor.PFnStyle
open Go.RowKit Go.Proofs.YtlglijnaeaonpaaGreatDoorW.PrintWords Go.Proofs.YtlglijnaeaonpaaGreatDoorW.PrintLast Go.Proofs.YtlglijnaeaonpaaGreatDoorW.PrintMore
attribute [local go_sem] max2_int min2_int max_two min_two max_three min_three max_four min_four
def spec_isEnd.f (a0 : ByteArray) : Option (Bool):=if a0.toList = ([101,110,100] : List UInt8) then (some true) else (some (a0.toList == ([101,110,100,32,97,116] : List UInt8)))
theorem spec_isEnd.calls (a0 : ByteArray) (r : Bool) (w : World) (h : spec_isEnd.f a0 = some r) :
  Calls Tryz.prog 26 #[.string a0] w fun e w' => e = .returned (.bool r) ∧ Drawn0 w w':=by
 have H : (if a0.toList = ([101,110,100] : List UInt8) then (some true) else (some (a0.toList == ([101,110,100,32,97,116] : List UInt8)))) = some r:=h
 clear h
 by_cases c2 : a0.toList = ([101,110,100] : List UInt8)
 ·rw [if_pos c2] at H
  have c2b0 : (a0.toList == ([101,110,100] : List UInt8)) = true:=beq_iff_eq.mpr c2
  have c2b1 : (a0.toList != ([101,110,100] : List UInt8)) = false:=bne_eq_false_iff_eq.mpr c2
  clear c2
  obtain rfl:=Option.some.inj H
  go_enter Tryz.func26,Tryz.ntmps26
  go_wp2
  go_ret
  exact ⟨by first|rfl|(simp;done)|(simp [*];done),by repeat (first|exact Drawn0.refl _|apply Drawn0.step)⟩
 ·rw [if_neg c2] at H
  have c2b0 : (a0.toList == ([101,110,100] : List UInt8)) = false:=beq_eq_false_iff_ne.mpr c2
  have c2b1 : (a0.toList != ([101,110,100] : List UInt8)) = true:=bne_iff_ne.mpr c2
  obtain rfl:=Option.some.inj H
  go_enter Tryz.func26,Tryz.ntmps26
  go_wp2
  go_ret
  exact ⟨by first|rfl|(simp;done)|(simp [*];done),by repeat (first|exact Drawn0.refl _|apply Drawn0.step)⟩
def laws_zzFits3.l0 : Nat → List (List Int) → Int → Int → Option (Bool)
 | 0,_,_,_ => none
 | k + 1,x8,x9,x10 => if x10 < x9 then (if 0 ≤ x10 then (if x10 < (x8.length : Int) then (if ((rd_L6 x8 x10).length : Int) > 2147483647 then (some false) else (laws_zzFits3.l0 k x8 x9 (wrap64 (x10 + 1)))) else (none)) else (none)) else (some true)
def laws_zzFits3.f (k : Nat) (l0 : List (List Int)) : Option (Bool):=if (l0.length : Int) > 2147483647 then (some false) else (laws_zzFits3.l0 k l0 (l0.length : Int) 0)
theorem laws_zzFits3.calls (k : Nat) (A0 : Option Addr) (c0 : Nat) (l0 : List (List Int)) (r : Bool) (w : World) (hr0 : Kd.C (Kd.slice 5 (Kd.int .u8)) w A0 l0.length l0) (hc0 : l0.length ≤ c0) (h : laws_zzFits3.f k l0 = some r) :
  Calls Tryz.prog 50 #[.slice A0 l0.length c0] w fun e w' => e = .returned (.bool r) ∧ Drawn0 w w':=by
 have HR0:=Aside0.mk hr0
 have HC0:=Aside0.mk hc0
 clear hr0 hc0
 have H : (if (l0.length : Int) > 2147483647 then (some false) else (laws_zzFits3.l0 k l0 (l0.length : Int) 0)) = some r:=h
 clear h
 by_cases c2 : (l0.length : Int) > 2147483647
 ·rw [if_pos c2] at H
  have c2b0 : decide (2147483647 < (l0.length : Int)) = true:=decide_eq_true c2
  have c2b1 : decide (2147483647 < l0.length) = true:=decide_eq_true (by omega)
  clear c2
  obtain rfl:=Option.some.inj H
  go_enter Tryz.func50,Tryz.ntmps50
  go_wp2
  go_ret
  exact ⟨by first|rfl|(simp;done)|(simp [*];done),by repeat (first|exact Drawn0.refl _|apply Drawn0.step)⟩
 ·rw [if_neg c2] at H
  have c2b0 : decide (2147483647 < (l0.length : Int)) = false:=decide_eq_false c2
  have c2b1 : decide (2147483647 < l0.length) = false:=decide_eq_false (by omega)
  clear c2
  have H':=Aside0.mk H
  clear H
  go_enter Tryz.func50,Tryz.ntmps50
  go_wp2
  go_loopg [10] k (fun kq v10 w' => ∃ (x10_1 : Int),v10 = .int .i64 x10_1 ∧ Aside0 (laws_zzFits3.l0 kq l0 (l0.length : Int) x10_1 = some r) ∧ Aside0 (kq ≤ k) ∧ Drawn0 w w')
  case atStart => exact ⟨(0),(by first|rfl|(simp;done)|(simp [*];done)),H',⟨Nat.le_refl _⟩,by repeat (first|exact Drawn0.refl _|apply Drawn0.step)⟩
  case round =>
   clear H'
   try clear c2
   try clear c2b0
   try clear c2b1
   try clear p2
   obtain ⟨x10_1,rfl,HA,HK1,⟨m1,rfl⟩⟩:=hrel
   cases gk with
   | zero => exact absurd HA.out (by simp [laws_zzFits3.l0])
   | succ k1 =>
    have H:=HA.out
    clear HA
    simp only [laws_zzFits3.l0] at H
    by_cases c3 : x10_1 < (l0.length : Int)
    ·rw [if_pos c3] at H
     have c3b0 : decide (x10_1 < (l0.length : Int)) = true:=decide_eq_true c3
     clear c3
     by_cases c4 : 0 ≤ x10_1
     ·rw [if_pos c4] at H
      have c4b0 : decide (0 ≤ x10_1) = true:=decide_eq_true c4
      clear c4
      by_cases c5 : x10_1 < (l0.length : Int)
      ·rw [if_pos c5] at H
       have c5b0 : decide (x10_1 < (l0.length : Int)) = true:=decide_eq_true c5
       clear c5
       by_cases c6 : ((rd_L6 l0 x10_1).length : Int) > 2147483647
       ·rw [if_pos c6] at H
        have c6b0 : decide (2147483647 < ((rd_L6 l0 x10_1).length : Int)) = true:=decide_eq_true c6
        have c6b1 : decide (2147483647 < (rd_L6 l0 x10_1).length) = true:=decide_eq_true (by omega)
        clear c6
        obtain rfl:=Option.some.inj H
        have p162 : 0 ≤ (x10_1 : Int):=of_decide_eq_true (by first|(with_reducible assumption)|assumption)
        have q162 : x10_1 < (l0.length : Int):=of_decide_eq_true (by first|(with_reducible assumption)|assumption)
        obtain ⟨ad162,A162_0,c162_0,e162,hx162_0,hl162_0,hi162_0⟩:=at_L6 HR0.out x10_1 p162 q162
        cases e162
        have HR162_0:=Aside0.mk hi162_0
        have HC162_0:=Aside0.mk hl162_0
        clear hi162_0 hl162_0
        replace p162:=eq_true p162
        replace q162:=eq_true q162
        go_wp2
        go_ret
        exact ⟨by first|rfl|(simp;done)|(simp [*];done),by repeat (first|exact Drawn0.refl _|apply Drawn0.step)⟩
       ·rw [if_neg c6] at H
        have c6b0 : decide (2147483647 < ((rd_L6 l0 x10_1).length : Int)) = false:=decide_eq_false c6
        have c6b1 : decide (2147483647 < (rd_L6 l0 x10_1).length) = false:=decide_eq_false (by omega)
        clear c6
        have H':=Aside0.mk H
        clear H
        have p162 : 0 ≤ (x10_1 : Int):=of_decide_eq_true (by first|(with_reducible assumption)|assumption)
        have q162 : x10_1 < (l0.length : Int):=of_decide_eq_true (by first|(with_reducible assumption)|assumption)
        obtain ⟨ad162,A162_0,c162_0,e162,hx162_0,hl162_0,hi162_0⟩:=at_L6 HR0.out x10_1 p162 q162
        cases e162
        have HR162_0:=Aside0.mk hi162_0
        have HC162_0:=Aside0.mk hl162_0
        clear hi162_0 hl162_0
        replace p162:=eq_true p162
        replace q162:=eq_true q162
        go_wp2
        go_roundg k1
        case measure => have:=HK1.out;omega
        case rel => exact ⟨(wrap64 (x10_1 + 1)),(by first|rfl|(simp;done)|(simp [*];done)),H',⟨by have:=HK1.out;omega⟩,by repeat (first|exact Drawn0.refl _|apply Drawn0.step)⟩
      ·rw [if_neg c5] at H
       exact absurd H (by simp)
     ·rw [if_neg c4] at H
      exact absurd H (by simp)
    ·rw [if_neg c3] at H
     have c3b0 : decide (x10_1 < (l0.length : Int)) = false:=decide_eq_false c3
     clear c3
     obtain rfl:=Option.some.inj H
     go_wp2
     go_ret
     exact ⟨by first|rfl|(simp;done)|(simp [*];done),by repeat (first|exact Drawn0.refl _|apply Drawn0.step)⟩
def laws_zzFits2.f (k : Nat) (l0_0 : List Int) (l0_1 : List (List Int)) : Option (Bool):=if (l0_0.length : Int) > 2147483647 then (some false) else ((laws_zzFits3.f k l0_1).bind fun t164 => (if t164 = true then (some true) else (some false)))
theorem laws_zzFits2.calls (k : Nat) (A0_0 : Option Addr) (c0_0 : Nat) (l0_0 : List Int) (A0_1 : Option Addr) (c0_1 : Nat) (l0_1 : List (List Int)) (r : Bool) (w : World) (hr0_0 : Kd.C (Kd.int .u8) w A0_0 l0_0.length l0_0) (hc0_0 : l0_0.length ≤ c0_0) (hr0_1 : Kd.C (Kd.slice 5 (Kd.int .u8)) w A0_1 l0_1.length l0_1) (hc0_1 : l0_1.length ≤ c0_1) (h : laws_zzFits2.f k l0_0 l0_1 = some r) :
  Calls Tryz.prog 29 #[.agg #[.slice A0_0 l0_0.length c0_0,.slice A0_1 l0_1.length c0_1]] w fun e w' => e = .returned (.bool r) ∧ Below w.heap.size w w':=by
 have hu68:=Tryz.underlying68
 have HR0_0:=Aside0.mk hr0_0
 have HC0_0:=Aside0.mk hc0_0
 clear hr0_0 hc0_0
 have HR0_1:=Aside0.mk hr0_1
 have HC0_1:=Aside0.mk hc0_1
 clear hr0_1 hc0_1
 have HB:=Aside0.mk (Below.refl w.heap.size w)
 have H : (if (l0_0.length : Int) > 2147483647 then (some false) else ((laws_zzFits3.f k l0_1).bind fun t164 => (if t164 = true then (some true) else (some false)))) = some r:=h
 clear h
 by_cases c2 : (l0_0.length : Int) > 2147483647
 ·rw [if_pos c2] at H
  have c2b0 : decide (2147483647 < (l0_0.length : Int)) = true:=decide_eq_true c2
  have c2b1 : decide (2147483647 < l0_0.length) = true:=decide_eq_true (by omega)
  clear c2
  obtain rfl:=Option.some.inj H
  go_enter Tryz.func29,Tryz.ntmps29
  go_wp2_with (first|((with_reducible refine gate_dst (N:=1) rfl ?_);refine box_event ?hg (N:=1) ?hd (cs:=#[.slice A0_0 l0_0.length c0_0,.slice A0_1 l0_1.length c0_1]) (t:=68) ?hr ?_;(case hd => rfl);(case hg => rfl);(case hr => first|(go_simp;done)|(go_simp;rfl));intro gb163 hg w3 hbox hb;have n0_:=Aside0.mk (below_step (by repeat (first|(with_reducible first|exact HB.out|apply bA|apply bB|apply bC)|exact HB.out)) hb);have n1_:=Aside0.mk (hbox);have n2_:=Aside0.mk ((by rw [hg];exact (below_size (by repeat (first|(with_reducible first|exact HB.out|apply bA|apply bB|apply bC)|exact HB.out))) : w.heap.size ≤ gb163));have n3_:=Aside0.mk ((by rw [hg];exact (below_size (by repeat (first|(with_reducible first|exact HB.out|apply bA|apply bB|apply bC)|exact HB.out))) : w.heap.size ≤ gb163));clear HB;have HB:=n0_;have BK163:=n1_;have GW163:=n2_;have GE163:=n3_;clear n0_ n1_ n2_ n3_;clear hb hbox hg;have hcz4_0 : w3.cell? ⟨gb163,0,none⟩ = some (.slice A0_0 l0_0.length c0_0):=(blk_cell BK163.out 0).trans rfl;have hcz4_1 : w3.cell? ⟨gb163,1,none⟩ = some (.slice A0_1 l0_1.length c0_1):=(blk_cell BK163.out 1).trans rfl;have hfz4_0:=blk_frozen BK163.out 0;have hfz4_1:=blk_frozen BK163.out 1))
  go_ret
  exact ⟨by first|rfl|(simp [errW_none,errW_some] <;> rfl)|(simp [*,errW_none,errW_some] <;> rfl),by repeat (first|(with_reducible first|exact HB.out|apply bA|apply bB|apply bC|refine bD ?_ GE163.out)|exact HB.out)⟩
 ·rw [if_neg c2] at H
  have c2b0 : decide (2147483647 < (l0_0.length : Int)) = false:=decide_eq_false c2
  have c2b1 : decide (2147483647 < l0_0.length) = false:=decide_eq_false (by omega)
  clear c2
  replace H:=Option.bind_eq_some_iff.mp H
  obtain ⟨t164,A50,H⟩:=H
  replace H : (if t164 = true then (some true) else (some false)) = some r:=H
  have A5:=Aside0.mk A50
  clear A50
  by_cases c6 : t164 = true
  ·subst c6
   have H1 : (some true) = some r:=by rw [if_pos rfl] at H;exact H
   clear H
   have H:=H1
   clear H1
   obtain rfl:=Option.some.inj H
   go_enter Tryz.func29,Tryz.ntmps29
   go_wp2_with (first|((with_reducible refine gate_dst (N:=1) rfl ?_);refine box_event ?hg (N:=1) ?hd (cs:=#[.slice A0_0 l0_0.length c0_0,.slice A0_1 l0_1.length c0_1]) (t:=68) ?hr ?_;(case hd => rfl);(case hg => rfl);(case hr => first|(go_simp;done)|(go_simp;rfl));intro gb163 hg w7 hbox hb;have n0_:=Aside0.mk (below_step (by repeat (first|(with_reducible first|exact HB.out|apply bA|apply bB|apply bC)|exact HB.out)) hb);have n1_:=Aside0.mk (hbox);have n2_:=Aside0.mk ((by rw [hg];exact (below_size (by repeat (first|(with_reducible first|exact HB.out|apply bA|apply bB|apply bC)|exact HB.out))) : w.heap.size ≤ gb163));have n3_:=Aside0.mk ((by rw [hg];exact (below_size (by repeat (first|(with_reducible first|exact HB.out|apply bA|apply bB|apply bC)|exact HB.out))) : w.heap.size ≤ gb163));clear HB;have HB:=n0_;have BK163:=n1_;have GW163:=n2_;have GE163:=n3_;clear n0_ n1_ n2_ n3_;clear hb hbox hg;have hcz8_0 : w7.cell? ⟨gb163,0,none⟩ = some (.slice A0_0 l0_0.length c0_0):=(blk_cell BK163.out 0).trans rfl;have hcz8_1 : w7.cell? ⟨gb163,1,none⟩ = some (.slice A0_1 l0_1.length c0_1):=(blk_cell BK163.out 1).trans rfl;have hfz8_0:=blk_frozen BK163.out 0;have hfz8_1:=blk_frozen BK163.out 1)|((with_reducible refine gate_callee (f:=50) rfl ?_);refine goesL_ (some 9) rfl rfl Tryz.func50 (by kernel_rfl) rfl #[.slice A0_1 l0_1.length c0_1] rfl (by (try simp only [List.map_toArray,List.map_cons,List.map_nil]);first|done|rfl|(simp only [List.length_drop,List.length_take];rfl)) ?_;(with_reducible refine (laws_zzFits3.calls k _ _ l0_1 true _ ?side1 ?side2 A5.out).mono ?_);(case side1 => repeat (first|exact (Kd.C_below HR0_1.out HB.out)|(with_reducible refine Kd.C_alloc ?_ _)|(with_reducible refine Kd.C_drewN ?_ _)|(with_reducible refine Kd.C_drew ?_)));(case side2 => exact HC0_1.out);rintro e w' ⟨rfl,⟨nd,rfl⟩⟩;refine ⟨_,rfl,?_⟩))
   go_ret
   exact ⟨by first|rfl|(simp [errW_none,errW_some] <;> rfl)|(simp [*,errW_none,errW_some] <;> rfl),by repeat (first|(with_reducible first|exact HB.out|apply bA|apply bB|apply bC|refine bD ?_ GE163.out)|exact HB.out)⟩
  ·replace c6:=Bool.eq_false_iff.mpr c6
   subst c6
   have H1 : (some false) = some r:=by rw [if_neg (show ¬ (false = true) by decide)] at H;exact H
   clear H
   have H:=H1
   clear H1
   obtain rfl:=Option.some.inj H
   go_enter Tryz.func29,Tryz.ntmps29
   go_wp2_with (first|((with_reducible refine gate_dst (N:=1) rfl ?_);refine box_event ?hg (N:=1) ?hd (cs:=#[.slice A0_0 l0_0.length c0_0,.slice A0_1 l0_1.length c0_1]) (t:=68) ?hr ?_;(case hd => rfl);(case hg => rfl);(case hr => first|(go_simp;done)|(go_simp;rfl));intro gb163 hg w9 hbox hb;have n0_:=Aside0.mk (below_step (by repeat (first|(with_reducible first|exact HB.out|apply bA|apply bB|apply bC)|exact HB.out)) hb);have n1_:=Aside0.mk (hbox);have n2_:=Aside0.mk ((by rw [hg];exact (below_size (by repeat (first|(with_reducible first|exact HB.out|apply bA|apply bB|apply bC)|exact HB.out))) : w.heap.size ≤ gb163));have n3_:=Aside0.mk ((by rw [hg];exact (below_size (by repeat (first|(with_reducible first|exact HB.out|apply bA|apply bB|apply bC)|exact HB.out))) : w.heap.size ≤ gb163));clear HB;have HB:=n0_;have BK163:=n1_;have GW163:=n2_;have GE163:=n3_;clear n0_ n1_ n2_ n3_;clear hb hbox hg;have hcz10_0 : w9.cell? ⟨gb163,0,none⟩ = some (.slice A0_0 l0_0.length c0_0):=(blk_cell BK163.out 0).trans rfl;have hcz10_1 : w9.cell? ⟨gb163,1,none⟩ = some (.slice A0_1 l0_1.length c0_1):=(blk_cell BK163.out 1).trans rfl;have hfz10_0:=blk_frozen BK163.out 0;have hfz10_1:=blk_frozen BK163.out 1)|((with_reducible refine gate_callee (f:=50) rfl ?_);refine goesL_ (some 9) rfl rfl Tryz.func50 (by kernel_rfl) rfl #[.slice A0_1 l0_1.length c0_1] rfl (by (try simp only [List.map_toArray,List.map_cons,List.map_nil]);first|done|rfl|(simp only [List.length_drop,List.length_take];rfl)) ?_;(with_reducible refine (laws_zzFits3.calls k _ _ l0_1 false _ ?side1 ?side2 A5.out).mono ?_);(case side1 => repeat (first|exact (Kd.C_below HR0_1.out HB.out)|(with_reducible refine Kd.C_alloc ?_ _)|(with_reducible refine Kd.C_drewN ?_ _)|(with_reducible refine Kd.C_drew ?_)));(case side2 => exact HC0_1.out);rintro e w' ⟨rfl,⟨nd,rfl⟩⟩;refine ⟨_,rfl,?_⟩))
   go_ret
   exact ⟨by first|rfl|(simp [errW_none,errW_some] <;> rfl)|(simp [*,errW_none,errW_some] <;> rfl),by repeat (first|(with_reducible first|exact HB.out|apply bA|apply bB|apply bC|refine bD ?_ GE163.out)|exact HB.out)⟩
def laws_zzFits1.l0 : Nat → List (S68) → Int → Int → Option (Bool)
 | 0,_,_,_ => none
 | k + 1,x8,x9,x10 => if x10 < x9 then (if 0 ≤ x10 then (if x10 < (x8.length : Int) then ((laws_zzFits2.f k ((rd_T68 x8 x10).f0) ((rd_T68 x8 x10).f1)).bind fun t167 => (if t167 = true then (laws_zzFits1.l0 k x8 x9 (wrap64 (x10 + 1))) else (some false))) else (none)) else (none)) else (some true)
def laws_zzFits1.f (k : Nat) (l0 : List (S68)) : Option (Bool):=if (l0.length : Int) > 2147483647 then (some false) else (laws_zzFits1.l0 k l0 (l0.length : Int) 0)
theorem laws_zzFits1.calls (k : Nat) (A0 : Option Addr) (c0 : Nat) (l0 : List (S68)) (r : Bool) (w : World) (hr0 : Kd.C k68 w A0 l0.length l0) (hc0 : l0.length ≤ c0) (h : laws_zzFits1.f k l0 = some r) :
  Calls Tryz.prog 10 #[.slice A0 l0.length c0] w fun e w' => e = .returned (.bool r) ∧ Below w.heap.size w w':=by
 have hu68:=Tryz.underlying68
 have HR0:=Aside0.mk hr0
 have HC0:=Aside0.mk hc0
 clear hr0 hc0
 have HB:=Aside0.mk (Below.refl w.heap.size w)
 have H : (if (l0.length : Int) > 2147483647 then (some false) else (laws_zzFits1.l0 k l0 (l0.length : Int) 0)) = some r:=h
 clear h
 by_cases c2 : (l0.length : Int) > 2147483647
 ·rw [if_pos c2] at H
  have c2b0 : decide (2147483647 < (l0.length : Int)) = true:=decide_eq_true c2
  have c2b1 : decide (2147483647 < l0.length) = true:=decide_eq_true (by omega)
  clear c2
  obtain rfl:=Option.some.inj H
  go_enter Tryz.func10,Tryz.ntmps10
  go_wp2
  go_ret
  exact ⟨by first|rfl|(simp [errW_none,errW_some] <;> rfl)|(simp [*,errW_none,errW_some] <;> rfl),by repeat (first|(with_reducible first|exact HB.out|apply bA|apply bB|apply bC)|exact HB.out)⟩
 ·rw [if_neg c2] at H
  have c2b0 : decide (2147483647 < (l0.length : Int)) = false:=decide_eq_false c2
  have c2b1 : decide (2147483647 < l0.length) = false:=decide_eq_false (by omega)
  clear c2
  have H':=Aside0.mk H
  clear H
  go_enter Tryz.func10,Tryz.ntmps10
  go_wp2
  go_loopg [10] k (fun kq v10 w' => ∃ (x10_1 : Int),v10 = .int .i64 x10_1 ∧ Aside0 (laws_zzFits1.l0 kq l0 (l0.length : Int) x10_1 = some r) ∧ Aside0 (kq ≤ k) ∧ Aside0 (Below w.heap.size w w'))
  case atStart => exact ⟨(0),(by first|rfl|(simp;done)|(simp [*];done)),H',⟨Nat.le_refl _⟩,⟨by repeat (first|(with_reducible first|exact HB.out|apply bA|apply bB|apply bC)|exact HB.out)⟩⟩
  case round =>
   clear H'
   try clear c1
   try clear c2
   try clear c2b0
   try clear c2b1
   try clear p2
   obtain ⟨x10_1,rfl,HA,HK1,HB⟩:=hrel
   cases gk with
   | zero => exact absurd HA.out (by simp [laws_zzFits1.l0])
   | succ k1 =>
    have H:=HA.out
    clear HA
    simp only [laws_zzFits1.l0] at H
    by_cases c3 : x10_1 < (l0.length : Int)
    ·rw [if_pos c3] at H
     have c3b0 : decide (x10_1 < (l0.length : Int)) = true:=decide_eq_true c3
     clear c3
     by_cases c4 : 0 ≤ x10_1
     ·rw [if_pos c4] at H
      have c4b0 : decide (0 ≤ x10_1) = true:=decide_eq_true c4
      clear c4
      by_cases c5 : x10_1 < (l0.length : Int)
      ·rw [if_pos c5] at H
       have c5b0 : decide (x10_1 < (l0.length : Int)) = true:=decide_eq_true c5
       clear c5
       replace H:=Option.bind_eq_some_iff.mp H
       obtain ⟨t167,A60,H⟩:=H
       replace H : (if t167 = true then (laws_zzFits1.l0 k1 l0 (l0.length : Int) (wrap64 (x10_1 + 1))) else (some false)) = some r:=H
       have A6:=Aside0.mk A60
       clear A60
       by_cases c7 : t167 = true
       ·subst c7
        have H1 : (laws_zzFits1.l0 k1 l0 (l0.length : Int) (wrap64 (x10_1 + 1))) = some r:=by rw [if_pos rfl] at H;exact H
        clear H
        have H:=H1
        clear H1
        have H':=Aside0.mk H
        clear H
        have p165 : 0 ≤ (x10_1 : Int):=of_decide_eq_true (by first|(with_reducible assumption)|assumption)
        have q165 : x10_1 < (l0.length : Int):=of_decide_eq_true (by first|(with_reducible assumption)|assumption)
        obtain ⟨ad165,A165_0,c165_0,A165_1,c165_1,e165,hx165_0,hx165_1,hl165_0,hi165_0,hl165_1,hi165_1⟩:=at_T68 HR0.out x10_1 p165 q165
        cases e165
        replace hx165_0:=(HB.out.cell (World.block_lt_of_cell? w _ hx165_0)).trans hx165_0
        replace hx165_1:=(HB.out.cell (World.block_lt_of_cell? w _ hx165_1)).trans hx165_1
        have HR165_0:=Aside0.mk hi165_0
        have HC165_0:=Aside0.mk hl165_0
        clear hi165_0 hl165_0
        have HR165_1:=Aside0.mk hi165_1
        have HC165_1:=Aside0.mk hl165_1
        clear hi165_1 hl165_1
        replace p165:=eq_true p165
        replace q165:=eq_true q165
        go_wp2_with (first|((with_reducible refine gate_dst (N:=4) rfl ?_);refine box_event ?hg (N:=4) ?hd (cs:=#[.slice none 0 0,.slice none 0 0]) (t:=68) ?hr ?_;(case hd => rfl);(case hg => rfl);(case hr => first|(go_simp;done)|(go_simp;rfl));intro gb166 hg w8 hbox hb;have n0_:=Aside0.mk (below_step (by repeat (first|(with_reducible first|exact HB.out|apply bA|apply bB|apply bC)|exact HB.out)) hb);have n1_:=Aside0.mk (hbox);have n2_:=Aside0.mk ((by rw [hg];exact (below_size (by repeat (first|(with_reducible first|exact HB.out|apply bA|apply bB|apply bC)|exact HB.out))) : w.heap.size ≤ gb166));have n3_:=Aside0.mk ((by rw [hg];exact (below_size (by repeat (first|(with_reducible first|exact HB.out|apply bA|apply bB|apply bC)|exact HB.out))) : w.heap.size ≤ gb166));clear HB;have HB:=n0_;have BK166:=n1_;have GW166:=n2_;have GE166:=n3_;clear n0_ n1_ n2_ n3_;clear hb hbox hg;have hcz9_0 : w8.cell? ⟨gb166,0,none⟩ = some (.slice none 0 0):=(blk_cell BK166.out 0).trans rfl;have hcz9_1 : w8.cell? ⟨gb166,1,none⟩ = some (.slice none 0 0):=(blk_cell BK166.out 1).trans rfl;have hfz9_0:=blk_frozen BK166.out 0;have hfz9_1:=blk_frozen BK166.out 1)|((with_reducible refine gate_callee (f:=29) rfl ?_);refine goesL_ (some 15) rfl rfl Tryz.func29 (by kernel_rfl) rfl #[.agg #[.slice A165_0 ((rd_T68 l0 x10_1).f0).length c165_0,.slice A165_1 ((rd_T68 l0 x10_1).f1).length c165_1]] rfl (by (try simp only [List.map_toArray,List.map_cons,List.map_nil]);first|done|rfl|(simp only [List.length_drop,List.length_take];rfl)) ?_;(with_reducible refine (laws_zzFits2.calls k1 _ _ ((rd_T68 l0 x10_1).f0) _ _ ((rd_T68 l0 x10_1).f1) true _ ?side1 ?side2 ?side3 ?side4 A6.out).mono ?_);(case side1 => exact Kd.C_below HR165_0.out (by repeat (first|(with_reducible first|exact HB.out|apply bA|apply bB|apply bC|refine bD ?_ GE166.out)|exact HB.out)));(case side2 => exact HC165_0.out);(case side3 => exact Kd.C_below HR165_1.out (by repeat (first|(with_reducible first|exact HB.out|apply bA|apply bB|apply bC|refine bD ?_ GE166.out)|exact HB.out)));(case side4 => exact HC165_1.out);rintro e w10 ⟨rfl,hb⟩;refine ⟨_,rfl,?_⟩;have n0_:=Aside0.mk (blk_below (g:=gb166) (o:=.cells #[.slice A165_0 ((rd_T68 l0 x10_1).f0).length c165_0,.slice A165_1 ((rd_T68 l0 x10_1).f1).length c165_1] 68 (0,0)) (by (with_reducible repeat (first|refine blk_drewN ?_ _|refine blk_drew ?_|refine blk_alloc ?_ _));refine blk_put (cs:=#[.slice A165_0 ((rd_T68 l0 x10_1).f0).length c165_0,.slice none 0 0]) ?_ 1 _ rfl;(with_reducible repeat (first|refine blk_drewN ?_ _|refine blk_drew ?_|refine blk_alloc ?_ _));refine blk_put (cs:=#[.slice none 0 0,.slice none 0 0]) ?_ 0 _ rfl;(with_reducible repeat (first|refine blk_drewN ?_ _|refine blk_drew ?_|refine blk_alloc ?_ _));exact BK166.out) hb);have n1_:=Aside0.mk (below_step (by repeat (first|(with_reducible first|exact HB.out|apply bA|apply bB|apply bC|refine bD ?_ GE166.out)|exact HB.out)) hb);clear BK166;clear HB;have BK166:=n0_;have HB:=n1_;clear n0_ n1_;(try clear hb);(try clear hb2);(try clear hk);(try clear hi)))
        go_roundg k1
        case measure => have:=HK1.out;omega
        case rel => exact ⟨(wrap64 (x10_1 + 1)),(by first|rfl|(simp;done)|(simp [*];done)),H',⟨by have:=HK1.out;omega⟩,⟨by repeat (first|(with_reducible first|exact HB.out|apply bA|apply bB|apply bC|refine bD ?_ GE166.out)|exact HB.out)⟩⟩
       ·replace c7:=Bool.eq_false_iff.mpr c7
        subst c7
        have H1 : (some false) = some r:=by rw [if_neg (show ¬ (false = true) by decide)] at H;exact H
        clear H
        have H:=H1
        clear H1
        obtain rfl:=Option.some.inj H
        have p165 : 0 ≤ (x10_1 : Int):=of_decide_eq_true (by first|(with_reducible assumption)|assumption)
        have q165 : x10_1 < (l0.length : Int):=of_decide_eq_true (by first|(with_reducible assumption)|assumption)
        obtain ⟨ad165,A165_0,c165_0,A165_1,c165_1,e165,hx165_0,hx165_1,hl165_0,hi165_0,hl165_1,hi165_1⟩:=at_T68 HR0.out x10_1 p165 q165
        cases e165
        replace hx165_0:=(HB.out.cell (World.block_lt_of_cell? w _ hx165_0)).trans hx165_0
        replace hx165_1:=(HB.out.cell (World.block_lt_of_cell? w _ hx165_1)).trans hx165_1
        have HR165_0:=Aside0.mk hi165_0
        have HC165_0:=Aside0.mk hl165_0
        clear hi165_0 hl165_0
        have HR165_1:=Aside0.mk hi165_1
        have HC165_1:=Aside0.mk hl165_1
        clear hi165_1 hl165_1
        replace p165:=eq_true p165
        replace q165:=eq_true q165
        go_wp2_with (first|((with_reducible refine gate_dst (N:=4) rfl ?_);refine box_event ?hg (N:=4) ?hd (cs:=#[.slice none 0 0,.slice none 0 0]) (t:=68) ?hr ?_;(case hd => rfl);(case hg => rfl);(case hr => first|(go_simp;done)|(go_simp;rfl));intro gb166 hg w11 hbox hb;have n0_:=Aside0.mk (below_step (by repeat (first|(with_reducible first|exact HB.out|apply bA|apply bB|apply bC)|exact HB.out)) hb);have n1_:=Aside0.mk (hbox);have n2_:=Aside0.mk ((by rw [hg];exact (below_size (by repeat (first|(with_reducible first|exact HB.out|apply bA|apply bB|apply bC)|exact HB.out))) : w.heap.size ≤ gb166));have n3_:=Aside0.mk ((by rw [hg];exact (below_size (by repeat (first|(with_reducible first|exact HB.out|apply bA|apply bB|apply bC)|exact HB.out))) : w.heap.size ≤ gb166));clear HB;have HB:=n0_;have BK166:=n1_;have GW166:=n2_;have GE166:=n3_;clear n0_ n1_ n2_ n3_;clear hb hbox hg;have hcz12_0 : w11.cell? ⟨gb166,0,none⟩ = some (.slice none 0 0):=(blk_cell BK166.out 0).trans rfl;have hcz12_1 : w11.cell? ⟨gb166,1,none⟩ = some (.slice none 0 0):=(blk_cell BK166.out 1).trans rfl;have hfz12_0:=blk_frozen BK166.out 0;have hfz12_1:=blk_frozen BK166.out 1)|((with_reducible refine gate_callee (f:=29) rfl ?_);refine goesL_ (some 15) rfl rfl Tryz.func29 (by kernel_rfl) rfl #[.agg #[.slice A165_0 ((rd_T68 l0 x10_1).f0).length c165_0,.slice A165_1 ((rd_T68 l0 x10_1).f1).length c165_1]] rfl (by (try simp only [List.map_toArray,List.map_cons,List.map_nil]);first|done|rfl|(simp only [List.length_drop,List.length_take];rfl)) ?_;(with_reducible refine (laws_zzFits2.calls k1 _ _ ((rd_T68 l0 x10_1).f0) _ _ ((rd_T68 l0 x10_1).f1) false _ ?side1 ?side2 ?side3 ?side4 A6.out).mono ?_);(case side1 => exact Kd.C_below HR165_0.out (by repeat (first|(with_reducible first|exact HB.out|apply bA|apply bB|apply bC|refine bD ?_ GE166.out)|exact HB.out)));(case side2 => exact HC165_0.out);(case side3 => exact Kd.C_below HR165_1.out (by repeat (first|(with_reducible first|exact HB.out|apply bA|apply bB|apply bC|refine bD ?_ GE166.out)|exact HB.out)));(case side4 => exact HC165_1.out);rintro e w13 ⟨rfl,hb⟩;refine ⟨_,rfl,?_⟩;have n0_:=Aside0.mk (blk_below (g:=gb166) (o:=.cells #[.slice A165_0 ((rd_T68 l0 x10_1).f0).length c165_0,.slice A165_1 ((rd_T68 l0 x10_1).f1).length c165_1] 68 (0,0)) (by (with_reducible repeat (first|refine blk_drewN ?_ _|refine blk_drew ?_|refine blk_alloc ?_ _));refine blk_put (cs:=#[.slice A165_0 ((rd_T68 l0 x10_1).f0).length c165_0,.slice none 0 0]) ?_ 1 _ rfl;(with_reducible repeat (first|refine blk_drewN ?_ _|refine blk_drew ?_|refine blk_alloc ?_ _));refine blk_put (cs:=#[.slice none 0 0,.slice none 0 0]) ?_ 0 _ rfl;(with_reducible repeat (first|refine blk_drewN ?_ _|refine blk_drew ?_|refine blk_alloc ?_ _));exact BK166.out) hb);have n1_:=Aside0.mk (below_step (by repeat (first|(with_reducible first|exact HB.out|apply bA|apply bB|apply bC|refine bD ?_ GE166.out)|exact HB.out)) hb);clear BK166;clear HB;have BK166:=n0_;have HB:=n1_;clear n0_ n1_;(try clear hb);(try clear hb2);(try clear hk);(try clear hi)))
        go_ret
        exact ⟨by first|rfl|(simp [errW_none,errW_some] <;> rfl)|(simp [*,errW_none,errW_some] <;> rfl),by repeat (first|(with_reducible first|exact HB.out|apply bA|apply bB|apply bC|refine bD ?_ GE166.out)|exact HB.out)⟩
      ·rw [if_neg c5] at H
       exact absurd H (by simp)
     ·rw [if_neg c4] at H
      exact absurd H (by simp)
    ·rw [if_neg c3] at H
     have c3b0 : decide (x10_1 < (l0.length : Int)) = false:=decide_eq_false c3
     clear c3
     obtain rfl:=Option.some.inj H
     go_wp2
     go_ret
     exact ⟨by first|rfl|(simp [errW_none,errW_some] <;> rfl)|(simp [*,errW_none,errW_some] <;> rfl),by repeat (first|(with_reducible first|exact HB.out|apply bA|apply bB|apply bC)|exact HB.out)⟩
def spec_Has.l0 : Nat → Int → List Int → Int → Int → Option (Bool)
 | 0,_,_,_,_ => none
 | k + 1,x1,x7,x8,x9 => if x9 < x8 then (if 0 ≤ x9 then (if x9 < (x7.length : Int) then (if (rd x7 x9) = x1 then (some true) else (spec_Has.l0 k x1 x7 x8 (wrap64 (x9 + 1)))) else (none)) else (none)) else (some false)
def spec_Has.f (k : Nat) (l0 : List Int) (a1 : Int) : Option (Bool):=spec_Has.l0 k a1 l0 (l0.length : Int) 0
theorem spec_Has.calls (k : Nat) (A0 : Option Addr) (c0 : Nat) (l0 : List Int) (a1 : Int) (r : Bool) (w : World) (hr0 : Kd.C (Kd.int .u8) w A0 l0.length l0) (hc0 : l0.length ≤ c0) (h : spec_Has.f k l0 a1 = some r) :
  Calls Tryz.prog 53 #[.slice A0 l0.length c0,.int .u8 a1] w fun e w' => e = .returned (.bool r) ∧ Drawn0 w w':=by
 have HR0:=Aside0.mk hr0
 have HC0:=Aside0.mk hc0
 clear hr0 hc0
 have H : (spec_Has.l0 k a1 l0 (l0.length : Int) 0) = some r:=h
 clear h
 have H':=Aside0.mk H
 clear H
 go_enter Tryz.func53,Tryz.ntmps53
 go_wp2
 go_loopg [9] k (fun kq v9 w' => ∃ (x9_1 : Int),v9 = .int .i64 x9_1 ∧ Aside0 (spec_Has.l0 kq a1 l0 (l0.length : Int) x9_1 = some r) ∧ Aside0 (kq ≤ k) ∧ Drawn0 w w')
 case atStart => exact ⟨(0),(by first|rfl|(simp;done)|(simp [*];done)),H',⟨Nat.le_refl _⟩,by repeat (first|exact Drawn0.refl _|apply Drawn0.step)⟩
 case round =>
  clear H'
  try clear p2
  obtain ⟨x9_1,rfl,HA,HK1,⟨m1,rfl⟩⟩:=hrel
  cases gk with
  | zero => exact absurd HA.out (by simp [spec_Has.l0])
  | succ k1 =>
   have H:=HA.out
   clear HA
   simp only [spec_Has.l0] at H
   by_cases c3 : x9_1 < (l0.length : Int)
   ·rw [if_pos c3] at H
    have c3b0 : decide (x9_1 < (l0.length : Int)) = true:=decide_eq_true c3
    clear c3
    by_cases c4 : 0 ≤ x9_1
    ·rw [if_pos c4] at H
     have c4b0 : decide (0 ≤ x9_1) = true:=decide_eq_true c4
     clear c4
     by_cases c5 : x9_1 < (l0.length : Int)
     ·rw [if_pos c5] at H
      have c5b0 : decide (x9_1 < (l0.length : Int)) = true:=decide_eq_true c5
      clear c5
      by_cases c6 : (rd l0 x9_1) = a1
      ·rw [if_pos c6] at H
       have c6b0 : ((rd l0 x9_1) == a1) = true:=beq_iff_eq.mpr c6
       have c6b1 : ((rd l0 x9_1) != a1) = false:=bne_eq_false_iff_eq.mpr c6
       clear c6
       obtain rfl:=Option.some.inj H
       have p168 : 0 ≤ (x9_1 : Int):=of_decide_eq_true (by first|(with_reducible assumption)|assumption)
       have q168 : x9_1 < (l0.length : Int):=of_decide_eq_true (by first|(with_reducible assumption)|assumption)
       obtain ⟨ad168,e168,hx168_0⟩:=Kd.at_int HR0.out x9_1 p168 q168
       cases e168
       replace p168:=eq_true p168
       replace q168:=eq_true q168
       go_wp2
       go_ret
       exact ⟨by first|rfl|(simp;done)|(simp [*];done),by repeat (first|exact Drawn0.refl _|apply Drawn0.step)⟩
      ·rw [if_neg c6] at H
       have c6b0 : ((rd l0 x9_1) == a1) = false:=beq_eq_false_iff_ne.mpr c6
       have c6b1 : ((rd l0 x9_1) != a1) = true:=bne_iff_ne.mpr c6
       have H':=Aside0.mk H
       clear H
       have p168 : 0 ≤ (x9_1 : Int):=of_decide_eq_true (by first|(with_reducible assumption)|assumption)
       have q168 : x9_1 < (l0.length : Int):=of_decide_eq_true (by first|(with_reducible assumption)|assumption)
       obtain ⟨ad168,e168,hx168_0⟩:=Kd.at_int HR0.out x9_1 p168 q168
       cases e168
       replace p168:=eq_true p168
       replace q168:=eq_true q168
       go_wp2
       go_roundg k1
       case measure => have:=HK1.out;omega
       case rel => exact ⟨(wrap64 (x9_1 + 1)),(by first|rfl|(simp;done)|(simp [*];done)),H',⟨by have:=HK1.out;omega⟩,by repeat (first|exact Drawn0.refl _|apply Drawn0.step)⟩
     ·rw [if_neg c5] at H
      exact absurd H (by simp)
    ·rw [if_neg c4] at H
     exact absurd H (by simp)
   ·rw [if_neg c3] at H
    have c3b0 : decide (x9_1 < (l0.length : Int)) = false:=decide_eq_false c3
    clear c3
    obtain rfl:=Option.some.inj H
    go_wp2
    go_ret
    exact ⟨by first|rfl|(simp;done)|(simp [*];done),by repeat (first|exact Drawn0.refl _|apply Drawn0.step)⟩
def utf8_word_byte.f (l0 : List Int) : Option (Int):=if 0 < (l0.length : Int) then (if 1 < (l0.length : Int) then (if 2 < (l0.length : Int) then (if 3 < (l0.length : Int) then (if 4 < (l0.length : Int) then (if 5 < (l0.length : Int) then (if 6 < (l0.length : Int) then (if 7 < (l0.length : Int) then (some (Go.bits .or .u64 (Go.bits .or .u64 (Go.bits .or .u64 (Go.bits .or .u64 (Go.bits .or .u64 (Go.bits .or .u64 (Go.bits .or .u64 (IntKind.u64.wrap (rd l0 0)) (IntKind.u64.wrap ((IntKind.u64.wrap (rd l0 1)) * 256))) (IntKind.u64.wrap ((IntKind.u64.wrap (rd l0 2)) * 65536))) (IntKind.u64.wrap ((IntKind.u64.wrap (rd l0 3)) * 16777216))) (IntKind.u64.wrap ((IntKind.u64.wrap (rd l0 4)) * 4294967296))) (IntKind.u64.wrap ((IntKind.u64.wrap (rd l0 5)) * 1099511627776))) (IntKind.u64.wrap ((IntKind.u64.wrap (rd l0 6)) * 281474976710656))) (IntKind.u64.wrap ((IntKind.u64.wrap (rd l0 7)) * 72057594037927936)))) else (none)) else (none)) else (none)) else (none)) else (none)) else (none)) else (none)) else (none)
theorem utf8_word_byte.calls (A0 : Option Addr) (c0 : Nat) (l0 : List Int) (r : Int) (w : World) (hr0 : Kd.C (Kd.int .u8) w A0 l0.length l0) (hc0 : l0.length ≤ c0) (h : utf8_word_byte.f l0 = some r) :
  Calls Tryz.prog 133 #[.slice A0 l0.length c0] w fun e w' => e = .returned (.int .u64 r) ∧ Drawn0 w w':=by
 have HR0:=Aside0.mk hr0
 have HC0:=Aside0.mk hc0
 clear hr0 hc0
 have H : (if 0 < (l0.length : Int) then (if 1 < (l0.length : Int) then (if 2 < (l0.length : Int) then (if 3 < (l0.length : Int) then (if 4 < (l0.length : Int) then (if 5 < (l0.length : Int) then (if 6 < (l0.length : Int) then (if 7 < (l0.length : Int) then (some (Go.bits .or .u64 (Go.bits .or .u64 (Go.bits .or .u64 (Go.bits .or .u64 (Go.bits .or .u64 (Go.bits .or .u64 (Go.bits .or .u64 (IntKind.u64.wrap (rd l0 0)) (IntKind.u64.wrap ((IntKind.u64.wrap (rd l0 1)) * 256))) (IntKind.u64.wrap ((IntKind.u64.wrap (rd l0 2)) * 65536))) (IntKind.u64.wrap ((IntKind.u64.wrap (rd l0 3)) * 16777216))) (IntKind.u64.wrap ((IntKind.u64.wrap (rd l0 4)) * 4294967296))) (IntKind.u64.wrap ((IntKind.u64.wrap (rd l0 5)) * 1099511627776))) (IntKind.u64.wrap ((IntKind.u64.wrap (rd l0 6)) * 281474976710656))) (IntKind.u64.wrap ((IntKind.u64.wrap (rd l0 7)) * 72057594037927936)))) else (none)) else (none)) else (none)) else (none)) else (none)) else (none)) else (none)) else (none)) = some r:=h
 clear h
 by_cases c2 : 0 < (l0.length : Int)
 ·rw [if_pos c2] at H
  have c2b0 : decide (0 < (l0.length : Int)) = true:=decide_eq_true c2
  have c2b1 : decide (0 < l0.length) = true:=decide_eq_true (by omega)
  clear c2
  by_cases c3 : 1 < (l0.length : Int)
  ·rw [if_pos c3] at H
   have c3b0 : decide (1 < (l0.length : Int)) = true:=decide_eq_true c3
   have c3b1 : decide (1 < l0.length) = true:=decide_eq_true (by omega)
   clear c3
   by_cases c4 : 2 < (l0.length : Int)
   ·rw [if_pos c4] at H
    have c4b0 : decide (2 < (l0.length : Int)) = true:=decide_eq_true c4
    have c4b1 : decide (2 < l0.length) = true:=decide_eq_true (by omega)
    clear c4
    by_cases c5 : 3 < (l0.length : Int)
    ·rw [if_pos c5] at H
     have c5b0 : decide (3 < (l0.length : Int)) = true:=decide_eq_true c5
     have c5b1 : decide (3 < l0.length) = true:=decide_eq_true (by omega)
     clear c5
     by_cases c6 : 4 < (l0.length : Int)
     ·rw [if_pos c6] at H
      have c6b0 : decide (4 < (l0.length : Int)) = true:=decide_eq_true c6
      have c6b1 : decide (4 < l0.length) = true:=decide_eq_true (by omega)
      clear c6
      by_cases c7 : 5 < (l0.length : Int)
      ·rw [if_pos c7] at H
       have c7b0 : decide (5 < (l0.length : Int)) = true:=decide_eq_true c7
       have c7b1 : decide (5 < l0.length) = true:=decide_eq_true (by omega)
       clear c7
       by_cases c8 : 6 < (l0.length : Int)
       ·rw [if_pos c8] at H
        have c8b0 : decide (6 < (l0.length : Int)) = true:=decide_eq_true c8
        have c8b1 : decide (6 < l0.length) = true:=decide_eq_true (by omega)
        clear c8
        by_cases c9 : 7 < (l0.length : Int)
        ·rw [if_pos c9] at H
         have c9b0 : decide (7 < (l0.length : Int)) = true:=decide_eq_true c9
         have c9b1 : decide (7 < l0.length) = true:=decide_eq_true (by omega)
         clear c9
         obtain rfl:=Option.some.inj H
         have p169 : 0 ≤ (0 : Int):=(by omega)
         have q169 : 0 < (l0.length : Int):=of_decide_eq_true (by first|(with_reducible assumption)|assumption)
         obtain ⟨ad169,e169,hx169_0⟩:=Kd.at_int HR0.out 0 p169 q169
         cases e169
         have qi169 : (0 < l0.length) = True:=eq_true (by omega)
         (try rw [show ((0 : Int)).toNat = 0 from rfl] at hx169_0)
         (try rw [Addr.add_zero'] at hx169_0)
         replace p169:=eq_true p169
         replace q169:=eq_true q169
         have p170 : 0 ≤ (1 : Int):=(by omega)
         have q170 : 1 < (l0.length : Int):=of_decide_eq_true (by first|(with_reducible assumption)|assumption)
         obtain ⟨ad170,e170,hx170_0⟩:=Kd.at_int HR0.out 1 p170 q170
         obtain rfl : ad169 = ad170:=(by injection e170)
         (try simp only [show (1 : Int).toNat = 1 from rfl,Nat.reduceMul,Nat.reduceEqDiff,Go.Addr.add,↓reduceIte] at hx170_0)
         have qi170 : (1 < l0.length) = True:=eq_true (by omega)
         (try rw [show ((1 : Int)).toNat = 1 from rfl] at hx170_0)
         replace p170:=eq_true p170
         replace q170:=eq_true q170
         have p171 : 0 ≤ (2 : Int):=(by omega)
         have q171 : 2 < (l0.length : Int):=of_decide_eq_true (by first|(with_reducible assumption)|assumption)
         obtain ⟨ad171,e171,hx171_0⟩:=Kd.at_int HR0.out 2 p171 q171
         obtain rfl : ad169 = ad171:=(by injection e171)
         (try simp only [show (2 : Int).toNat = 2 from rfl,Nat.reduceMul,Nat.reduceEqDiff,Go.Addr.add,↓reduceIte] at hx171_0)
         have qi171 : (2 < l0.length) = True:=eq_true (by omega)
         (try rw [show ((2 : Int)).toNat = 2 from rfl] at hx171_0)
         replace p171:=eq_true p171
         replace q171:=eq_true q171
         have p172 : 0 ≤ (3 : Int):=(by omega)
         have q172 : 3 < (l0.length : Int):=of_decide_eq_true (by first|(with_reducible assumption)|assumption)
         obtain ⟨ad172,e172,hx172_0⟩:=Kd.at_int HR0.out 3 p172 q172
         obtain rfl : ad169 = ad172:=(by injection e172)
         (try simp only [show (3 : Int).toNat = 3 from rfl,Nat.reduceMul,Nat.reduceEqDiff,Go.Addr.add,↓reduceIte] at hx172_0)
         have qi172 : (3 < l0.length) = True:=eq_true (by omega)
         (try rw [show ((3 : Int)).toNat = 3 from rfl] at hx172_0)
         replace p172:=eq_true p172
         replace q172:=eq_true q172
         have p173 : 0 ≤ (4 : Int):=(by omega)
         have q173 : 4 < (l0.length : Int):=of_decide_eq_true (by first|(with_reducible assumption)|assumption)
         obtain ⟨ad173,e173,hx173_0⟩:=Kd.at_int HR0.out 4 p173 q173
         obtain rfl : ad169 = ad173:=(by injection e173)
         (try simp only [show (4 : Int).toNat = 4 from rfl,Nat.reduceMul,Nat.reduceEqDiff,Go.Addr.add,↓reduceIte] at hx173_0)
         have qi173 : (4 < l0.length) = True:=eq_true (by omega)
         (try rw [show ((4 : Int)).toNat = 4 from rfl] at hx173_0)
         replace p173:=eq_true p173
         replace q173:=eq_true q173
         have p174 : 0 ≤ (5 : Int):=(by omega)
         have q174 : 5 < (l0.length : Int):=of_decide_eq_true (by first|(with_reducible assumption)|assumption)
         obtain ⟨ad174,e174,hx174_0⟩:=Kd.at_int HR0.out 5 p174 q174
         obtain rfl : ad169 = ad174:=(by injection e174)
         (try simp only [show (5 : Int).toNat = 5 from rfl,Nat.reduceMul,Nat.reduceEqDiff,Go.Addr.add,↓reduceIte] at hx174_0)
         have qi174 : (5 < l0.length) = True:=eq_true (by omega)
         (try rw [show ((5 : Int)).toNat = 5 from rfl] at hx174_0)
         replace p174:=eq_true p174
         replace q174:=eq_true q174
         have p175 : 0 ≤ (6 : Int):=(by omega)
         have q175 : 6 < (l0.length : Int):=of_decide_eq_true (by first|(with_reducible assumption)|assumption)
         obtain ⟨ad175,e175,hx175_0⟩:=Kd.at_int HR0.out 6 p175 q175
         obtain rfl : ad169 = ad175:=(by injection e175)
         (try simp only [show (6 : Int).toNat = 6 from rfl,Nat.reduceMul,Nat.reduceEqDiff,Go.Addr.add,↓reduceIte] at hx175_0)
         have qi175 : (6 < l0.length) = True:=eq_true (by omega)
         (try rw [show ((6 : Int)).toNat = 6 from rfl] at hx175_0)
         replace p175:=eq_true p175
         replace q175:=eq_true q175
         have p176 : 0 ≤ (7 : Int):=(by omega)
         have q176 : 7 < (l0.length : Int):=of_decide_eq_true (by first|(with_reducible assumption)|assumption)
         obtain ⟨ad176,e176,hx176_0⟩:=Kd.at_int HR0.out 7 p176 q176
         obtain rfl : ad169 = ad176:=(by injection e176)
         (try simp only [show (7 : Int).toNat = 7 from rfl,Nat.reduceMul,Nat.reduceEqDiff,Go.Addr.add,↓reduceIte] at hx176_0)
         have qi176 : (7 < l0.length) = True:=eq_true (by omega)
         (try rw [show ((7 : Int)).toNat = 7 from rfl] at hx176_0)
         replace p176:=eq_true p176
         replace q176:=eq_true q176
         go_enter Tryz.func133,Tryz.ntmps133
         go_wp2
         repeat (go_quiet (fail);try go_wp2)
         go_ret
         exact ⟨by first|rfl|(simp;done)|(simp [*];done),by repeat (first|exact Drawn0.refl _|apply Drawn0.step)⟩
        ·rw [if_neg c9] at H
         exact absurd H (by simp)
       ·rw [if_neg c8] at H
        exact absurd H (by simp)
      ·rw [if_neg c7] at H
       exact absurd H (by simp)
     ·rw [if_neg c6] at H
      exact absurd H (by simp)
    ·rw [if_neg c5] at H
     exact absurd H (by simp)
   ·rw [if_neg c4] at H
    exact absurd H (by simp)
  ·rw [if_neg c3] at H
   exact absurd H (by simp)
 ·rw [if_neg c2] at H
  exact absurd H (by simp)
end Go.Proofs.YtlglijnaeaonpaaGreatDoor.PFnStyle
end
