/- FnStyle: a part of the proof (Mc); in it lines that print.sh printed, those that are used. -/
import Derived.Test.YtlglijnaeaonpaaGreatDoorMa
section
set_option maxHeartbeats 8000000
set_option maxRecDepth 100000
set_option linter.unusedVariables false
set_option linter.unusedSimpArgs false
namespace Go.Proofs.YtlglijnaeaonpaaGreatDoor.PFnStyle
open Go.RowKit Go.Proofs.YtlglijnaeaonpaaGreatDoorW.PrintWords Go.Proofs.YtlglijnaeaonpaaGreatDoorW.PrintLast Go.Proofs.YtlglijnaeaonpaaGreatDoorW.PrintMore
attribute [local go_sem] max2_int min2_int max_two min_two max_three min_three max_four min_four
mutual
def spec_reader_escape.l0 : Nat → List Int → Int → Bool → Option (Int × Bool)
 | 0,_,_,_ => none
 | k + 1,x1000,x1001,x1002 => (spec_reader_over.f x1000 x1001 x1002).bind fun bt195 => (if bt195.1 = true then (some (bt195.2.1,bt195.2.2)) else ((spec_reader_peek.f x1000 bt195.2.1 bt195.2.2 0).bind fun bt198 => (if (Go.bits .and .u8 bt198.1 192) = 128 then (spec_reader_escape.l0 k x1000 (wrap64 (bt198.2.1 + 1)) bt198.2.2) else (some (bt198.2.1,bt198.2.2)))))
def spec_reader_escape.j2 : Nat → List Int → Int → Bool → Option (Int × Bool)
 | 0,_,_,_ => none
 | k + 1,x1000,x1001,x1002 => (spec_reader_peek.f x1000 x1001 x1002 0).bind fun bt205 => (if bt205.1 = 13 then (spec_reader_escape.j3 k x1000 bt205.2.1 true) else (spec_reader_escape.j3 k x1000 bt205.2.1 bt205.2.2))
def spec_reader_escape.j3 : Nat → List Int → Int → Bool → Option (Int × Bool)
 | 0,_,_,_ => none
 | k + 1,x1000,x1001,x1002 => (spec_reader_peek.f x1000 x1001 x1002 0).bind fun bt208 => ((spec_IsBlank.f bt208.1).bind fun t211 => (if t211 = true then (some (wrap64 (bt208.2.1 + 1),bt208.2.2)) else (some (bt208.2.1,bt208.2.2))))
def spec_reader_escape.l1 : Nat → Int → List Int → Int → Bool → Option (Int × Bool)
 | 0,_,_,_,_ => none
 | k + 1,x2,x1000,x1001,x1002 => if x2 < 6 then ((spec_reader_peek.f x1000 x1001 x1002 0).bind fun bt201 => ((spec_hexValue.f k bt201.1).bind fun t204 => (if t204 ≥ 0 then (spec_reader_escape.l1 k (wrap64 (x2 + 1)) x1000 (wrap64 (bt201.2.1 + 1)) bt201.2.2) else (spec_reader_escape.j2 k x1000 bt201.2.1 bt201.2.2)))) else (spec_reader_escape.j2 k x1000 x1001 x1002)
end
def spec_reader_escape.f (k : Nat) (s0_0 : List Int) (s0_1 : Int) (s0_2 : Bool) : Option (Int × Bool):=(spec_reader_peek.f s0_0 (wrap64 (s0_1 + 1)) s0_2 0).bind fun bt191 => ((spec_hexValue.f k bt191.1).bind fun t194 => (if t194 < 0 then (spec_reader_escape.l0 k s0_0 (wrap64 (bt191.2.1 + 1)) bt191.2.2) else (spec_reader_escape.l1 k 0 s0_0 bt191.2.1 bt191.2.2)))
theorem spec_reader_escape.calls (k : Nat) (g : Nat) (s0_0 : List Int) (s0_1 : Int) (s0_2 : Bool) (r1 : Int) (r2 : Bool) (w0 w : World) (hI : IsS115 w0 w g s0_0 s0_1 s0_2) (hB : Below w0.heap.size w0 w) (h : spec_reader_escape.f k s0_0 s0_1 s0_2 = some (r1,r2)) :
  Calls Tryz.prog 136 #[.pointer (some ⟨g,0,none⟩)] w fun e w' => e = .returned (.tuple #[]) ∧ IsS115 w0 w' g s0_0 r1 r2 ∧ Below w0.heap.size w0 w' ∧ KeepBut w w' g none:=by
 have HI0:=Aside0.mk hI
 have HK:=Aside0.mk (KeepBut.refl w g none)
 have HL:=Aside0.mk hB.size
 clear hI
 have HW0:=Aside0.mk hB.size
 have HB:=Aside0.mk hB
 clear hB
 have H : ((spec_reader_peek.f s0_0 (wrap64 (s0_1 + 1)) s0_2 0).bind fun bt191 => ((spec_hexValue.f k bt191.1).bind fun t194 => (if t194 < 0 then (spec_reader_escape.l0 k s0_0 (wrap64 (bt191.2.1 + 1)) bt191.2.2) else (spec_reader_escape.l1 k 0 s0_0 bt191.2.1 bt191.2.2)))) = some (r1,r2):=h
 clear h
 replace H:=Option.bind_eq_some_iff.mp H
 obtain ⟨⟨t191,t192,t193⟩,A20,H⟩:=H
 replace H : ((spec_hexValue.f k t191).bind fun t194 => (if t194 < 0 then (spec_reader_escape.l0 k s0_0 (wrap64 (t192 + 1)) t193) else (spec_reader_escape.l1 k 0 s0_0 t192 t193))) = some (r1,r2):=H
 have A2:=Aside0.mk A20
 clear A20
 replace H:=Option.bind_eq_some_iff.mp H
 obtain ⟨t194,A30,H⟩:=H
 replace H : (if t194 < 0 then (spec_reader_escape.l0 k s0_0 (wrap64 (t192 + 1)) t193) else (spec_reader_escape.l1 k 0 s0_0 t192 t193)) = some (r1,r2):=H
 have A3:=Aside0.mk A30
 clear A30
 by_cases c4 : t194 < 0
 ·rw [if_pos c4] at H
  have c4b0 : decide (t194 < 0) = true:=decide_eq_true c4
  clear c4
  have H':=Aside0.mk H
  clear H
  obtain ⟨ASz5_0,cSz5_0,HGz5,hgz5,HSz5_0⟩:=HI0.out
  have hcz5_0:=cellS115_0 HGz5
  have hcz5_1:=cellS115_1 HGz5
  have hcz5_2:=cellS115_2 HGz5
  have hfz5_1:=blk_frozen HGz5 1
  have hfz5_2:=blk_frozen HGz5 2
  clear HGz5 hgz5
  go_enter Tryz.func136,Tryz.ntmps136
  go_wp2_with (first|((with_reducible refine gate_callee (f:=104) rfl ?_);refine goesL_ (some 11) rfl rfl Tryz.func104 (by kernel_rfl) rfl #[.pointer (some ⟨g,0,none⟩),.int .i64 0] rfl (by (try simp only [List.map_toArray,List.map_cons,List.map_nil]);first|done|rfl|(simp only [List.length_drop,List.length_take];rfl)) ?_;(with_reducible refine (spec_reader_peek.calls g s0_0 (wrap64 (s0_1 + 1)) s0_2 0 t191 t192 t193 w0 _ ?side1 ?side2 A2.out).mono ?_);(case side1 => repeat (first|(with_reducible first|exact HI0.out|apply sA|apply sB|apply sC|apply sD|apply sE)|exact HI0.out));(case side2 => repeat (first|(with_reducible first|exact HB.out|apply bA|apply bB|apply bC|refine bD ?_ (IsS115.ge HI0.out))|exact HB.out));rintro e w6 ⟨rfl,hi,hb,hk⟩;refine ⟨_,rfl,?_⟩;have n0_:=Aside0.mk (KeepBut.trans (by repeat (first|(with_reducible first|exact HK.out|apply kA|apply kB|apply kC|apply kD)|exact HK.out)) hk (.inl rfl));have n1_:=Aside0.mk (hb);have n2_:=Aside0.mk (hi);clear HK;clear HB;clear HI0;have HK:=n0_;have HB:=n1_;have HI0:=n2_;clear n0_ n1_ n2_;(try clear hb);(try clear hb2);(try clear hk);(try clear hi))|((with_reducible refine gate_callee (f:=111) rfl ?_);refine goesL_ (some 12) rfl rfl Tryz.func111 (by kernel_rfl) rfl #[.int .u8 t191] rfl (by (try simp only [List.map_toArray,List.map_cons,List.map_nil]);first|done|rfl|(simp only [List.length_drop,List.length_take];rfl)) ?_;(with_reducible refine (spec_hexValue.calls k t191 t194 _ A3.out).mono ?_);rintro e w' ⟨rfl,⟨nd,rfl⟩⟩;refine ⟨_,rfl,?_⟩;(try (rw [drewN_self w6];generalize hq_ : World.drewN w6 _ = w6;have n0_ : Aside0 (IsS115 w0 w6 g s0_0 t192 t193):=⟨by rw [← hq_];exact (by repeat (first|(with_reducible first|exact HI0.out|apply sA|apply sB|apply sC|apply sD|apply sE)|exact HI0.out))⟩;have n1_ : Aside0 (KeepBut w w6 g none):=⟨by rw [← hq_];exact (by repeat (first|(with_reducible first|exact HK.out|apply kA|apply kB|apply kC|apply kD)|exact HK.out))⟩;have n2_ : Aside0 (Below w0.heap.size w0 w6):=⟨by rw [← hq_];exact (by repeat (first|(with_reducible first|exact HB.out|apply bA|apply bB|apply bC|refine bD ?_ (IsS115.ge HI0.out))|exact HB.out))⟩;clear HI0 HK HB hq_;have HI0:=n0_;have HK:=n1_;have HB:=n2_;clear n0_ n1_ n2_));obtain ⟨ASz7_0,cSz7_0,HGz7,hgz7,HSz7_0⟩:=HI0.out;have hcz7_0:=cellS115_0 HGz7;have hcz7_1:=cellS115_1 HGz7;have hcz7_2:=cellS115_2 HGz7;have hfz7_1:=blk_frozen HGz7 1;have hfz7_2:=blk_frozen HGz7 2;clear HGz7 hgz7))
  go_loopg [] k (fun kq w' => ∃ (x1001_1 : Int) (x1002_1 : Bool),Aside0 (spec_reader_escape.l0 kq s0_0 x1001_1 x1002_1 = some (r1,r2)) ∧ Aside0 (kq ≤ k) ∧ Aside0 (IsS115 w0 w' g s0_0 x1001_1 x1002_1) ∧ Aside0 (KeepBut w w' g none) ∧ Aside0 (Below w0.heap.size w0 w'))
  case atStart => exact ⟨(wrap64 (t192 + 1)),(t193),H',⟨Nat.le_refl _⟩,⟨by repeat (first|(with_reducible first|exact HI0.out|apply sA|apply sB|apply sC|apply sD|apply sE)|exact HI0.out)⟩,⟨by repeat (first|(with_reducible first|exact HK.out|apply kA|apply kB|apply kC|apply kD)|exact HK.out)⟩,⟨by repeat (first|(with_reducible first|exact HB.out|apply bA|apply bB|apply bC|refine bD ?_ (IsS115.ge HI0.out))|exact HB.out)⟩⟩
  case round =>
   clear H'
   try clear c1
   try clear p2
   try clear c4
   try clear c4b0
   try clear p6
   try clear hcz5_0
   try clear hcz5_1
   try clear hcz5_2
   try clear hcz7_0
   try clear hcz7_1
   try clear hcz7_2
   try clear hfz5_1
   try clear hfz5_2
   try clear hfz7_1
   try clear hfz7_2
   obtain ⟨x1001_1,x1002_1,HA,HK1,HI0,HK,HB⟩:=hrel
   cases gk with
   | zero => exact absurd HA.out (by simp [spec_reader_escape.l0])
   | succ k1 =>
    have H:=HA.out
    clear HA
    simp only [spec_reader_escape.l0] at H
    replace H:=Option.bind_eq_some_iff.mp H
    obtain ⟨⟨t195,t196,t197⟩,A80,H⟩:=H
    replace H : (if t195 = true then (some (t196,t197)) else ((spec_reader_peek.f s0_0 t196 t197 0).bind fun bt198 => (if (Go.bits .and .u8 bt198.1 192) = 128 then (spec_reader_escape.l0 k1 s0_0 (wrap64 (bt198.2.1 + 1)) bt198.2.2) else (some (bt198.2.1,bt198.2.2))))) = some (r1,r2):=H
    have A8:=Aside0.mk A80
    clear A80
    by_cases c9 : t195 = true
    ·subst c9
     have H1 : (some (t196,t197)) = some (r1,r2):=by rw [if_pos rfl] at H;exact H
     clear H
     have H:=H1
     clear H1
     simp only [Option.some.injEq,Prod.mk.injEq] at H
     obtain ⟨rfl,rfl⟩:=H
     go_wp2_with (first|((with_reducible refine gate_callee (f:=67) rfl ?_);refine goesL_ (some 22) rfl rfl Tryz.func67 (by kernel_rfl) rfl #[.pointer (some ⟨g,0,none⟩)] rfl (by (try simp only [List.map_toArray,List.map_cons,List.map_nil]);first|done|rfl|(simp only [List.length_drop,List.length_take];rfl)) ?_;(with_reducible refine (spec_reader_over.calls g s0_0 x1001_1 x1002_1 true t196 t197 w0 _ ?side1 ?side2 A8.out).mono ?_);(case side1 => repeat (first|(with_reducible first|exact HI0.out|apply sA|apply sB|apply sC|apply sD|apply sE)|exact HI0.out));(case side2 => repeat (first|(with_reducible first|exact HB.out|apply bA|apply bB|apply bC|refine bD ?_ (IsS115.ge HI0.out))|exact HB.out));rintro e w10 ⟨rfl,hi,hb,hk⟩;refine ⟨_,rfl,?_⟩;have n0_:=Aside0.mk (KeepBut.trans (by repeat (first|(with_reducible first|exact HK.out|apply kA|apply kB|apply kC|apply kD)|exact HK.out)) hk (.inl rfl));have n1_:=Aside0.mk (hb);have n2_:=Aside0.mk (hi);clear HK;clear HB;clear HI0;have HK:=n0_;have HB:=n1_;have HI0:=n2_;clear n0_ n1_ n2_;(try clear hb);(try clear hb2);(try clear hk);(try clear hi)))
     first|go_end0|((try simp only [Exit.inBlock,Exit.then]);refine bodyPost_ret (results_none rfl _ _ _) rfl ?_)
     exact ⟨by first|rfl|(simp [errW_none,errW_some] <;> rfl)|(simp [*,errW_none,errW_some] <;> rfl),by repeat (first|(with_reducible first|exact HI0.out|apply sA|apply sB|apply sC|apply sD|apply sE)|exact HI0.out),by repeat (first|(with_reducible first|exact HB.out|apply bA|apply bB|apply bC|refine bD ?_ (IsS115.ge HI0.out))|exact HB.out),by repeat (first|(with_reducible first|exact HK.out|apply kA|apply kB|apply kC|apply kD)|exact HK.out)⟩
    ·replace c9:=Bool.eq_false_iff.mpr c9
     subst c9
     have H1 : ((spec_reader_peek.f s0_0 t196 t197 0).bind fun bt198 => (if (Go.bits .and .u8 bt198.1 192) = 128 then (spec_reader_escape.l0 k1 s0_0 (wrap64 (bt198.2.1 + 1)) bt198.2.2) else (some (bt198.2.1,bt198.2.2)))) = some (r1,r2):=by rw [if_neg (show ¬ (false = true) by decide)] at H;exact H
     clear H
     have H:=H1
     clear H1
     replace H:=Option.bind_eq_some_iff.mp H
     obtain ⟨⟨t198,t199,t200⟩,A110,H⟩:=H
     replace H : (if (Go.bits .and .u8 t198 192) = 128 then (spec_reader_escape.l0 k1 s0_0 (wrap64 (t199 + 1)) t200) else (some (t199,t200))) = some (r1,r2):=H
     have A11:=Aside0.mk A110
     clear A110
     by_cases c12 : (Go.bits .and .u8 t198 192) = 128
     ·rw [if_pos c12] at H
      have c12b0 : ((Go.bits .and .u8 t198 192) == 128) = true:=beq_iff_eq.mpr c12
      have c12b1 : ((Go.bits .and .u8 t198 192) != 128) = false:=bne_eq_false_iff_eq.mpr c12
      clear c12
      have H':=Aside0.mk H
      clear H
      go_wp2_with (first|((with_reducible refine gate_callee (f:=67) rfl ?_);refine goesL_ (some 22) rfl rfl Tryz.func67 (by kernel_rfl) rfl #[.pointer (some ⟨g,0,none⟩)] rfl (by (try simp only [List.map_toArray,List.map_cons,List.map_nil]);first|done|rfl|(simp only [List.length_drop,List.length_take];rfl)) ?_;(with_reducible refine (spec_reader_over.calls g s0_0 x1001_1 x1002_1 false t196 t197 w0 _ ?side1 ?side2 A8.out).mono ?_);(case side1 => repeat (first|(with_reducible first|exact HI0.out|apply sA|apply sB|apply sC|apply sD|apply sE)|exact HI0.out));(case side2 => repeat (first|(with_reducible first|exact HB.out|apply bA|apply bB|apply bC|refine bD ?_ (IsS115.ge HI0.out))|exact HB.out));rintro e w13 ⟨rfl,hi,hb,hk⟩;refine ⟨_,rfl,?_⟩;have n0_:=Aside0.mk (KeepBut.trans (by repeat (first|(with_reducible first|exact HK.out|apply kA|apply kB|apply kC|apply kD)|exact HK.out)) hk (.inl rfl));have n1_:=Aside0.mk (hb);have n2_:=Aside0.mk (hi);clear HK;clear HB;clear HI0;have HK:=n0_;have HB:=n1_;have HI0:=n2_;clear n0_ n1_ n2_;(try clear hb);(try clear hb2);(try clear hk);(try clear hi))|(go_at_call 104;(with_reducible refine (spec_reader_peek.calls g s0_0 t196 t197 0 t198 t199 t200 w0 _ ?side1 ?side2 A11.out).mono ?_);(case side1 => repeat (first|(with_reducible first|exact HI0.out|apply sA|apply sB|apply sC|apply sD|apply sE)|exact HI0.out));(case side2 => repeat (first|(with_reducible first|exact HB.out|apply bA|apply bB|apply bC|refine bD ?_ (IsS115.ge HI0.out))|exact HB.out));rintro e w14 ⟨rfl,hi,hb,hk⟩;have n0_:=Aside0.mk (KeepBut.trans (by repeat (first|(with_reducible first|exact HK.out|apply kA|apply kB|apply kC|apply kD)|exact HK.out)) hk (.inl rfl));have n1_:=Aside0.mk (hb);have n2_:=Aside0.mk (hi);clear HK;clear HB;clear HI0;have HK:=n0_;have HB:=n1_;have HI0:=n2_;clear n0_ n1_ n2_;(try clear hb);(try clear hb2);(try clear hk);(try clear hi);obtain ⟨ASz15_0,cSz15_0,HGz15,hgz15,HSz15_0⟩:=HI0.out;have hcz15_0:=cellS115_0 HGz15;have hcz15_1:=cellS115_1 HGz15;have hcz15_2:=cellS115_2 HGz15;have hfz15_1:=blk_frozen HGz15 1;have hfz15_2:=blk_frozen HGz15 2;clear HGz15 hgz15))
      go_roundg k1
      case measure => have:=HK1.out;omega
      case rel => exact ⟨(wrap64 (t199 + 1)),(t200),H',⟨by have:=HK1.out;omega⟩,⟨by repeat (first|(with_reducible first|exact HI0.out|apply sA|apply sB|apply sC|apply sD|apply sE)|exact HI0.out)⟩,⟨by repeat (first|(with_reducible first|exact HK.out|apply kA|apply kB|apply kC|apply kD)|exact HK.out)⟩,⟨by repeat (first|(with_reducible first|exact HB.out|apply bA|apply bB|apply bC|refine bD ?_ (IsS115.ge HI0.out))|exact HB.out)⟩⟩
     ·rw [if_neg c12] at H
      have c12b0 : ((Go.bits .and .u8 t198 192) == 128) = false:=beq_eq_false_iff_ne.mpr c12
      have c12b1 : ((Go.bits .and .u8 t198 192) != 128) = true:=bne_iff_ne.mpr c12
      simp only [Option.some.injEq,Prod.mk.injEq] at H
      obtain ⟨rfl,rfl⟩:=H
      go_wp2_with (first|((with_reducible refine gate_callee (f:=67) rfl ?_);refine goesL_ (some 22) rfl rfl Tryz.func67 (by kernel_rfl) rfl #[.pointer (some ⟨g,0,none⟩)] rfl (by (try simp only [List.map_toArray,List.map_cons,List.map_nil]);first|done|rfl|(simp only [List.length_drop,List.length_take];rfl)) ?_;(with_reducible refine (spec_reader_over.calls g s0_0 x1001_1 x1002_1 false t196 t197 w0 _ ?side1 ?side2 A8.out).mono ?_);(case side1 => repeat (first|(with_reducible first|exact HI0.out|apply sA|apply sB|apply sC|apply sD|apply sE)|exact HI0.out));(case side2 => repeat (first|(with_reducible first|exact HB.out|apply bA|apply bB|apply bC|refine bD ?_ (IsS115.ge HI0.out))|exact HB.out));rintro e w16 ⟨rfl,hi,hb,hk⟩;refine ⟨_,rfl,?_⟩;have n0_:=Aside0.mk (KeepBut.trans (by repeat (first|(with_reducible first|exact HK.out|apply kA|apply kB|apply kC|apply kD)|exact HK.out)) hk (.inl rfl));have n1_:=Aside0.mk (hb);have n2_:=Aside0.mk (hi);clear HK;clear HB;clear HI0;have HK:=n0_;have HB:=n1_;have HI0:=n2_;clear n0_ n1_ n2_;(try clear hb);(try clear hb2);(try clear hk);(try clear hi))|(go_at_call 104;(with_reducible refine (spec_reader_peek.calls g s0_0 t196 t197 0 t198 t199 t200 w0 _ ?side1 ?side2 A11.out).mono ?_);(case side1 => repeat (first|(with_reducible first|exact HI0.out|apply sA|apply sB|apply sC|apply sD|apply sE)|exact HI0.out));(case side2 => repeat (first|(with_reducible first|exact HB.out|apply bA|apply bB|apply bC|refine bD ?_ (IsS115.ge HI0.out))|exact HB.out));rintro e w17 ⟨rfl,hi,hb,hk⟩;have n0_:=Aside0.mk (KeepBut.trans (by repeat (first|(with_reducible first|exact HK.out|apply kA|apply kB|apply kC|apply kD)|exact HK.out)) hk (.inl rfl));have n1_:=Aside0.mk (hb);have n2_:=Aside0.mk (hi);clear HK;clear HB;clear HI0;have HK:=n0_;have HB:=n1_;have HI0:=n2_;clear n0_ n1_ n2_;(try clear hb);(try clear hb2);(try clear hk);(try clear hi)))
      first|go_end0|((try simp only [Exit.inBlock,Exit.then]);refine bodyPost_ret (results_none rfl _ _ _) rfl ?_)
      exact ⟨by first|rfl|(simp [errW_none,errW_some] <;> rfl)|(simp [*,errW_none,errW_some] <;> rfl),by repeat (first|(with_reducible first|exact HI0.out|apply sA|apply sB|apply sC|apply sD|apply sE)|exact HI0.out),by repeat (first|(with_reducible first|exact HB.out|apply bA|apply bB|apply bC|refine bD ?_ (IsS115.ge HI0.out))|exact HB.out),by repeat (first|(with_reducible first|exact HK.out|apply kA|apply kB|apply kC|apply kD)|exact HK.out)⟩
 ·rw [if_neg c4] at H
  have c4b0 : decide (t194 < 0) = false:=decide_eq_false c4
  clear c4
  have HC18:=Aside0.mk H
  clear H
  obtain ⟨ASz19_0,cSz19_0,HGz19,hgz19,HSz19_0⟩:=HI0.out
  have hcz19_0:=cellS115_0 HGz19
  have hcz19_1:=cellS115_1 HGz19
  have hcz19_2:=cellS115_2 HGz19
  have hfz19_1:=blk_frozen HGz19 1
  have hfz19_2:=blk_frozen HGz19 2
  clear HGz19 hgz19
  go_enter Tryz.func136,Tryz.ntmps136
  go_upto_block 2 with (first|((with_reducible refine gate_callee (f:=104) rfl ?_);refine goesL_ (some 11) rfl rfl Tryz.func104 (by kernel_rfl) rfl #[.pointer (some ⟨g,0,none⟩),.int .i64 0] rfl (by (try simp only [List.map_toArray,List.map_cons,List.map_nil]);first|done|rfl|(simp only [List.length_drop,List.length_take];rfl)) ?_;(with_reducible refine (spec_reader_peek.calls g s0_0 (wrap64 (s0_1 + 1)) s0_2 0 t191 t192 t193 w0 _ ?side1 ?side2 A2.out).mono ?_);(case side1 => repeat (first|(with_reducible first|exact HI0.out|apply sA|apply sB|apply sC|apply sD|apply sE)|exact HI0.out));(case side2 => repeat (first|(with_reducible first|exact HB.out|apply bA|apply bB|apply bC|refine bD ?_ (IsS115.ge HI0.out))|exact HB.out));rintro e w20 ⟨rfl,hi,hb,hk⟩;refine ⟨_,rfl,?_⟩;have n0_:=Aside0.mk (KeepBut.trans (by repeat (first|(with_reducible first|exact HK.out|apply kA|apply kB|apply kC|apply kD)|exact HK.out)) hk (.inl rfl));have n1_:=Aside0.mk (hb);have n2_:=Aside0.mk (hi);clear HK;clear HB;clear HI0;have HK:=n0_;have HB:=n1_;have HI0:=n2_;clear n0_ n1_ n2_;(try clear hb);(try clear hb2);(try clear hk);(try clear hi))|((with_reducible refine gate_callee (f:=111) rfl ?_);refine goesL_ (some 12) rfl rfl Tryz.func111 (by kernel_rfl) rfl #[.int .u8 t191] rfl (by (try simp only [List.map_toArray,List.map_cons,List.map_nil]);first|done|rfl|(simp only [List.length_drop,List.length_take];rfl)) ?_;(with_reducible refine (spec_hexValue.calls k t191 t194 _ A3.out).mono ?_);rintro e w' ⟨rfl,⟨nd,rfl⟩⟩;refine ⟨_,rfl,?_⟩))
  (try simp only [Act.put,List.setIfInBounds_toArray,List.set_cons_zero,List.set_cons_succ])
  go_cut [] (fun wc => ∃ (kq : Nat) (x1001_17 : Int) (x1002_17 : Bool),Aside0 (spec_reader_escape.j2 kq s0_0 x1001_17 x1002_17 = some (r1,r2)) ∧ Aside0 (kq ≤ k) ∧ Aside0 (IsS115 w0 wc g s0_0 x1001_17 x1002_17) ∧ Aside0 (KeepBut w wc g none) ∧ Aside0 (Below w0.heap.size w0 wc))
  case first =>
   have H:=HC18.out
   clear HC18
   have H':=Aside0.mk H
   clear H
   go_wp2
   go_loopg [2] k (fun kq v2 w' => ∃ (x2_1 : Int) (x1001_1 : Int) (x1002_1 : Bool),v2 = .int .i64 x2_1 ∧ Aside0 (spec_reader_escape.l1 kq x2_1 s0_0 x1001_1 x1002_1 = some (r1,r2)) ∧ Aside0 (kq ≤ k) ∧ Aside0 (IsS115 w0 w' g s0_0 x1001_1 x1002_1) ∧ Aside0 (KeepBut w w' g none) ∧ Aside0 (Below w0.heap.size w0 w'))
   case atStart => exact ⟨(0),(t192),(t193),(by first|rfl|(simp;done)|(simp [*];done)),H',⟨Nat.le_refl _⟩,⟨by repeat (first|(with_reducible first|exact HI0.out|apply sA|apply sB|apply sC|apply sD|apply sE)|exact HI0.out)⟩,⟨by repeat (first|(with_reducible first|exact HK.out|apply kA|apply kB|apply kC|apply kD)|exact HK.out)⟩,⟨by repeat (first|(with_reducible first|exact HB.out|apply bA|apply bB|apply bC|refine bD ?_ (IsS115.ge HI0.out))|exact HB.out)⟩⟩
   case round =>
    clear H'
    try clear c1
    try clear p2
    try clear c4
    try clear c4b0
    try clear c6
    try clear p6
    try clear c9
    try clear c10
    try clear c11
    try clear c12
    try clear c12b0
    try clear c12b1
    try clear c13
    try clear hcz15_0
    try clear hcz15_1
    try clear hcz15_2
    try clear hcz19_0
    try clear hcz19_1
    try clear hcz19_2
    try clear hcz5_0
    try clear hcz5_1
    try clear hcz5_2
    try clear hcz7_0
    try clear hcz7_1
    try clear hcz7_2
    try clear hfz15_1
    try clear hfz15_2
    try clear hfz19_1
    try clear hfz19_2
    try clear hfz5_1
    try clear hfz5_2
    try clear hfz7_1
    try clear hfz7_2
    try clear p2
    try clear p6
    obtain ⟨x2_1,x1001_1,x1002_1,rfl,HA,HK1,HI0,HK,HB⟩:=hrel
    cases gk with
    | zero => exact absurd HA.out (by simp [spec_reader_escape.l1])
    | succ k1 =>
     have H:=HA.out
     clear HA
     simp only [spec_reader_escape.l1] at H
     by_cases c21 : x2_1 < 6
     ·rw [if_pos c21] at H
      have c21b0 : decide (x2_1 < 6) = true:=decide_eq_true c21
      clear c21
      (first|rw [c21b0]|(simp only [i64_w,i32_w];rw [c21b0])|skip)
      replace H:=Option.bind_eq_some_iff.mp H
      obtain ⟨⟨t201,t202,t203⟩,A220,H⟩:=H
      replace H : ((spec_hexValue.f k1 t201).bind fun t204 => (if t204 ≥ 0 then (spec_reader_escape.l1 k1 (wrap64 (x2_1 + 1)) s0_0 (wrap64 (t202 + 1)) t203) else (spec_reader_escape.j2 k1 s0_0 t202 t203))) = some (r1,r2):=H
      have A22:=Aside0.mk A220
      clear A220
      replace H:=Option.bind_eq_some_iff.mp H
      obtain ⟨t204,A230,H⟩:=H
      replace H : (if t204 ≥ 0 then (spec_reader_escape.l1 k1 (wrap64 (x2_1 + 1)) s0_0 (wrap64 (t202 + 1)) t203) else (spec_reader_escape.j2 k1 s0_0 t202 t203)) = some (r1,r2):=H
      have A23:=Aside0.mk A230
      clear A230
      by_cases c24 : t204 ≥ 0
      ·rw [if_pos c24] at H
       have c24b0 : decide (0 ≤ t204) = true:=decide_eq_true c24
       clear c24
       have H':=Aside0.mk H
       clear H
       go_wp2_with (first|(go_at_call 104;(with_reducible refine (spec_reader_peek.calls g s0_0 x1001_1 x1002_1 0 t201 t202 t203 w0 _ ?side1 ?side2 A22.out).mono ?_);(case side1 => repeat (first|(with_reducible first|exact HI0.out|apply sA|apply sB|apply sC|apply sD|apply sE)|exact HI0.out));(case side2 => repeat (first|(with_reducible first|exact HB.out|apply bA|apply bB|apply bC|refine bD ?_ (IsS115.ge HI0.out))|exact HB.out));rintro e w25 ⟨rfl,hi,hb,hk⟩;have n0_:=Aside0.mk (KeepBut.trans (by repeat (first|(with_reducible first|exact HK.out|apply kA|apply kB|apply kC|apply kD)|exact HK.out)) hk (.inl rfl));have n1_:=Aside0.mk (hb);have n2_:=Aside0.mk (hi);clear HK;clear HB;clear HI0;have HK:=n0_;have HB:=n1_;have HI0:=n2_;clear n0_ n1_ n2_;(try clear hb);(try clear hb2);(try clear hk);(try clear hi))|(go_at_call 111;(with_reducible refine (spec_hexValue.calls k1 t201 t204 _ A23.out).mono ?_);rintro e w' ⟨rfl,⟨nd,rfl⟩⟩;(try (rw [drewN_self w25];generalize hq_ : World.drewN w25 _ = w25;have n0_ : Aside0 (IsS115 w0 w25 g s0_0 t202 t203):=⟨by rw [← hq_];exact (by repeat (first|(with_reducible first|exact HI0.out|apply sA|apply sB|apply sC|apply sD|apply sE)|exact HI0.out))⟩;have n1_ : Aside0 (KeepBut w w25 g none):=⟨by rw [← hq_];exact (by repeat (first|(with_reducible first|exact HK.out|apply kA|apply kB|apply kC|apply kD)|exact HK.out))⟩;have n2_ : Aside0 (Below w0.heap.size w0 w25):=⟨by rw [← hq_];exact (by repeat (first|(with_reducible first|exact HB.out|apply bA|apply bB|apply bC|refine bD ?_ (IsS115.ge HI0.out))|exact HB.out))⟩;clear HI0 HK HB hq_;have HI0:=n0_;have HK:=n1_;have HB:=n2_;clear n0_ n1_ n2_));obtain ⟨ASz26_0,cSz26_0,HGz26,hgz26,HSz26_0⟩:=HI0.out;have hcz26_0:=cellS115_0 HGz26;have hcz26_1:=cellS115_1 HGz26;have hcz26_2:=cellS115_2 HGz26;have hfz26_1:=blk_frozen HGz26 1;have hfz26_2:=blk_frozen HGz26 2;clear HGz26 hgz26))
       go_roundg k1
       case measure => have:=HK1.out;omega
       case rel => exact ⟨(wrap64 (x2_1 + 1)),(wrap64 (t202 + 1)),(t203),(by first|rfl|(simp;done)|(simp [*];done)),H',⟨by have:=HK1.out;omega⟩,⟨by repeat (first|(with_reducible first|exact HI0.out|apply sA|apply sB|apply sC|apply sD|apply sE)|exact HI0.out)⟩,⟨by repeat (first|(with_reducible first|exact HK.out|apply kA|apply kB|apply kC|apply kD)|exact HK.out)⟩,⟨by repeat (first|(with_reducible first|exact HB.out|apply bA|apply bB|apply bC|refine bD ?_ (IsS115.ge HI0.out))|exact HB.out)⟩⟩
      ·rw [if_neg c24] at H
       have c24b0 : decide (0 ≤ t204) = false:=decide_eq_false c24
       clear c24
       have H':=Aside0.mk H
       clear H
       go_wp2_with (first|(go_at_call 104;(with_reducible refine (spec_reader_peek.calls g s0_0 x1001_1 x1002_1 0 t201 t202 t203 w0 _ ?side1 ?side2 A22.out).mono ?_);(case side1 => repeat (first|(with_reducible first|exact HI0.out|apply sA|apply sB|apply sC|apply sD|apply sE)|exact HI0.out));(case side2 => repeat (first|(with_reducible first|exact HB.out|apply bA|apply bB|apply bC|refine bD ?_ (IsS115.ge HI0.out))|exact HB.out));rintro e w27 ⟨rfl,hi,hb,hk⟩;have n0_:=Aside0.mk (KeepBut.trans (by repeat (first|(with_reducible first|exact HK.out|apply kA|apply kB|apply kC|apply kD)|exact HK.out)) hk (.inl rfl));have n1_:=Aside0.mk (hb);have n2_:=Aside0.mk (hi);clear HK;clear HB;clear HI0;have HK:=n0_;have HB:=n1_;have HI0:=n2_;clear n0_ n1_ n2_;(try clear hb);(try clear hb2);(try clear hk);(try clear hi))|(go_at_call 111;(with_reducible refine (spec_hexValue.calls k1 t201 t204 _ A23.out).mono ?_);rintro e w' ⟨rfl,⟨nd,rfl⟩⟩))
       go_meet
       case rel => exact ⟨_,(t202),(t203),H',⟨by have:=HK1.out;first|omega|exact Nat.le_refl _⟩,⟨by repeat (first|(with_reducible first|exact HI0.out|apply sA|apply sB|apply sC|apply sD|apply sE)|exact HI0.out)⟩,⟨by repeat (first|(with_reducible first|exact HK.out|apply kA|apply kB|apply kC|apply kD)|exact HK.out)⟩,⟨by repeat (first|(with_reducible first|exact HB.out|apply bA|apply bB|apply bC|refine bD ?_ (IsS115.ge HI0.out))|exact HB.out)⟩⟩
     ·rw [if_neg c21] at H
      have c21b0 : decide (x2_1 < 6) = false:=decide_eq_false c21
      clear c21
      (first|rw [c21b0]|(simp only [i64_w,i32_w];rw [c21b0])|skip)
      have H':=Aside0.mk H
      clear H
      go_wp2
      go_meet
      case rel => exact ⟨_,(x1001_1),(x1002_1),H',⟨by have:=HK1.out;first|omega|exact Nat.le_refl _⟩,⟨by repeat (first|(with_reducible first|exact HI0.out|apply sA|apply sB|apply sC|apply sD|apply sE)|exact HI0.out)⟩,⟨by repeat (first|(with_reducible first|exact HK.out|apply kA|apply kB|apply kC|apply kD)|exact HK.out)⟩,⟨by repeat (first|(with_reducible first|exact HB.out|apply bA|apply bB|apply bC|refine bD ?_ (IsS115.ge HI0.out))|exact HB.out)⟩⟩
  case rest =>
   clear HC18
   try clear c1
   try clear c2
   try clear p2
   try clear c4
   try clear c4b0
   try clear c6
   try clear p6
   try clear c9
   try clear c10
   try clear c11
   try clear c12
   try clear c12b0
   try clear c12b1
   try clear c13
   try clear c21
   try clear c21b0
   try clear c24
   try clear c24b0
   try clear hcz15_0
   try clear hcz15_1
   try clear hcz15_2
   try clear hcz19_0
   try clear hcz19_1
   try clear hcz19_2
   try clear hcz26_0
   try clear hcz26_1
   try clear hcz26_2
   try clear hcz5_0
   try clear hcz5_1
   try clear hcz5_2
   try clear hcz7_0
   try clear hcz7_1
   try clear hcz7_2
   try clear hfz15_1
   try clear hfz15_2
   try clear hfz19_1
   try clear hfz19_2
   try clear hfz26_1
   try clear hfz26_2
   try clear hfz5_1
   try clear hfz5_2
   try clear hfz7_1
   try clear hfz7_2
   try clear p2
   try clear p6
   obtain ⟨kq,x1001_17,x1002_17,HA,HJ17,HI0,HK,HB⟩:=hcut
   cases kq with
   | zero => exact absurd HA.out (by simp [spec_reader_escape.j2])
   | succ kj17 =>
    have H:=HA.out
    clear HA
    simp only [spec_reader_escape.j2] at H
    replace H:=Option.bind_eq_some_iff.mp H
    obtain ⟨⟨t205,t206,t207⟩,A280,H⟩:=H
    replace H : (if t205 = 13 then (spec_reader_escape.j3 kj17 s0_0 t206 true) else (spec_reader_escape.j3 kj17 s0_0 t206 t207)) = some (r1,r2):=H
    have A28:=Aside0.mk A280
    clear A280
    have HC29:=Aside0.mk H
    clear H
    go_upto_if 56 with (first|((with_reducible refine gate_callee (f:=104) rfl ?_);refine goesL_ (some 55) rfl rfl Tryz.func104 (by kernel_rfl) rfl #[.pointer (some ⟨g,0,none⟩),.int .i64 0] rfl (by (try simp only [List.map_toArray,List.map_cons,List.map_nil]);first|done|rfl|(simp only [List.length_drop,List.length_take];rfl)) ?_;(with_reducible refine (spec_reader_peek.calls g s0_0 x1001_17 x1002_17 0 t205 t206 t207 w0 _ ?side1 ?side2 A28.out).mono ?_);(case side1 => repeat (first|(with_reducible first|exact HI0.out|apply sA|apply sB|apply sC|apply sD|apply sE)|exact HI0.out));(case side2 => repeat (first|(with_reducible first|exact HB.out|apply bA|apply bB|apply bC|refine bD ?_ (IsS115.ge HI0.out))|exact HB.out));rintro e w30 ⟨rfl,hi,hb,hk⟩;refine ⟨_,rfl,?_⟩;have n0_:=Aside0.mk (KeepBut.trans (by repeat (first|(with_reducible first|exact HK.out|apply kA|apply kB|apply kC|apply kD)|exact HK.out)) hk (.inl rfl));have n1_:=Aside0.mk (hb);have n2_:=Aside0.mk (hi);clear HK;clear HB;clear HI0;have HK:=n0_;have HB:=n1_;have HI0:=n2_;clear n0_ n1_ n2_;(try clear hb);(try clear hb2);(try clear hk);(try clear hi)))
    (try simp only [Act.put,List.setIfInBounds_toArray,List.set_cons_zero,List.set_cons_succ])
    go_cut [] (fun wc => ∃ (kq : Nat) (x1002_28 : Bool),Aside0 (spec_reader_escape.j3 kq s0_0 t206 x1002_28 = some (r1,r2)) ∧ Aside0 (kq ≤ kj17) ∧ Aside0 (IsS115 w0 wc g s0_0 t206 x1002_28) ∧ Aside0 (KeepBut w wc g none) ∧ Aside0 (Below w0.heap.size w0 wc))
    case first =>
     have H:=HC29.out
     clear HC29
     by_cases c31 : t205 = 13
     ·rw [if_pos c31] at H
      have c31b0 : (t205 == 13) = true:=beq_iff_eq.mpr c31
      have c31b1 : (t205 != 13) = false:=bne_eq_false_iff_eq.mpr c31
      clear c31
      (first|rw [c31b0]|(simp only [i64_w,i32_w];rw [c31b0])|skip)
      have H':=Aside0.mk H
      clear H
      obtain ⟨ASz32_0,cSz32_0,HGz32,hgz32,HSz32_0⟩:=HI0.out
      have hcz32_0:=cellS115_0 HGz32
      have hcz32_1:=cellS115_1 HGz32
      have hcz32_2:=cellS115_2 HGz32
      have hfz32_1:=blk_frozen HGz32 1
      have hfz32_2:=blk_frozen HGz32 2
      clear HGz32 hgz32
      go_wp2
      go_meet
      case rel => exact ⟨_,(true),H',⟨by have:=HJ17.out;first|omega|exact Nat.le_refl _⟩,⟨by repeat (first|(with_reducible first|exact HI0.out|apply sA|apply sB|apply sC|apply sD|apply sE)|exact HI0.out)⟩,⟨by repeat (first|(with_reducible first|exact HK.out|apply kA|apply kB|apply kC|apply kD)|exact HK.out)⟩,⟨by repeat (first|(with_reducible first|exact HB.out|apply bA|apply bB|apply bC|refine bD ?_ (IsS115.ge HI0.out))|exact HB.out)⟩⟩
     ·rw [if_neg c31] at H
      have c31b0 : (t205 == 13) = false:=beq_eq_false_iff_ne.mpr c31
      have c31b1 : (t205 != 13) = true:=bne_iff_ne.mpr c31
      (first|rw [c31b0]|(simp only [i64_w,i32_w];rw [c31b0])|skip)
      have H':=Aside0.mk H
      clear H
      go_wp2
      go_meet
      case rel => exact ⟨_,(t207),H',⟨by have:=HJ17.out;first|omega|exact Nat.le_refl _⟩,⟨by repeat (first|(with_reducible first|exact HI0.out|apply sA|apply sB|apply sC|apply sD|apply sE)|exact HI0.out)⟩,⟨by repeat (first|(with_reducible first|exact HK.out|apply kA|apply kB|apply kC|apply kD)|exact HK.out)⟩,⟨by repeat (first|(with_reducible first|exact HB.out|apply bA|apply bB|apply bC|refine bD ?_ (IsS115.ge HI0.out))|exact HB.out)⟩⟩
    case rest =>
     clear HC29
     try clear c1
     try clear c2
     try clear p2
     try clear c3
     try clear c4
     try clear c4b0
     try clear c6
     try clear p6
     try clear c9
     try clear c10
     try clear c11
     try clear c12
     try clear c12b0
     try clear c12b1
     try clear c13
     try clear c21
     try clear c21b0
     try clear c24
     try clear c24b0
     try clear c31
     try clear c31b0
     try clear c31b1
     try clear hcz15_0
     try clear hcz15_1
     try clear hcz15_2
     try clear hcz19_0
     try clear hcz19_1
     try clear hcz19_2
     try clear hcz26_0
     try clear hcz26_1
     try clear hcz26_2
     try clear hcz32_0
     try clear hcz32_1
     try clear hcz32_2
     try clear hcz5_0
     try clear hcz5_1
     try clear hcz5_2
     try clear hcz7_0
     try clear hcz7_1
     try clear hcz7_2
     try clear hfz15_1
     try clear hfz15_2
     try clear hfz19_1
     try clear hfz19_2
     try clear hfz26_1
     try clear hfz26_2
     try clear hfz32_1
     try clear hfz32_2
     try clear hfz5_1
     try clear hfz5_2
     try clear hfz7_1
     try clear hfz7_2
     try clear p2
     try clear p6
     obtain ⟨kq,x1002_28,HA,HJ28,HI0,HK,HB⟩:=hcut
     cases kq with
     | zero => exact absurd HA.out (by simp [spec_reader_escape.j3])
     | succ kj28 =>
      have H:=HA.out
      clear HA
      simp only [spec_reader_escape.j3] at H
      replace H:=Option.bind_eq_some_iff.mp H
      obtain ⟨⟨t208,t209,t210⟩,A330,H⟩:=H
      replace H : ((spec_IsBlank.f t208).bind fun t211 => (if t211 = true then (some (wrap64 (t209 + 1),t210)) else (some (t209,t210)))) = some (r1,r2):=H
      have A33:=Aside0.mk A330
      clear A330
      replace H:=Option.bind_eq_some_iff.mp H
      obtain ⟨t211,A340,H⟩:=H
      replace H : (if t211 = true then (some (wrap64 (t209 + 1),t210)) else (some (t209,t210))) = some (r1,r2):=H
      have A34:=Aside0.mk A340
      clear A340
      by_cases c35 : t211 = true
      ·subst c35
       have H1 : (some (wrap64 (t209 + 1),t210)) = some (r1,r2):=by rw [if_pos rfl] at H;exact H
       clear H
       have H:=H1
       clear H1
       simp only [Option.some.injEq,Prod.mk.injEq] at H
       obtain ⟨rfl,rfl⟩:=H
       go_wp2_with (first|((with_reducible refine gate_callee (f:=104) rfl ?_);refine goesL_ (some 61) rfl rfl Tryz.func104 (by kernel_rfl) rfl #[.pointer (some ⟨g,0,none⟩),.int .i64 0] rfl (by (try simp only [List.map_toArray,List.map_cons,List.map_nil]);first|done|rfl|(simp only [List.length_drop,List.length_take];rfl)) ?_;(with_reducible refine (spec_reader_peek.calls g s0_0 t206 x1002_28 0 t208 t209 t210 w0 _ ?side1 ?side2 A33.out).mono ?_);(case side1 => repeat (first|(with_reducible first|exact HI0.out|apply sA|apply sB|apply sC|apply sD|apply sE)|exact HI0.out));(case side2 => repeat (first|(with_reducible first|exact HB.out|apply bA|apply bB|apply bC|refine bD ?_ (IsS115.ge HI0.out))|exact HB.out));rintro e w36 ⟨rfl,hi,hb,hk⟩;refine ⟨_,rfl,?_⟩;have n0_:=Aside0.mk (KeepBut.trans (by repeat (first|(with_reducible first|exact HK.out|apply kA|apply kB|apply kC|apply kD)|exact HK.out)) hk (.inl rfl));have n1_:=Aside0.mk (hb);have n2_:=Aside0.mk (hi);clear HK;clear HB;clear HI0;have HK:=n0_;have HB:=n1_;have HI0:=n2_;clear n0_ n1_ n2_;(try clear hb);(try clear hb2);(try clear hk);(try clear hi))|((with_reducible refine gate_callee (f:=105) rfl ?_);refine goesL_ (some 62) rfl rfl Tryz.func105 (by kernel_rfl) rfl #[.int .u8 t208] rfl (by (try simp only [List.map_toArray,List.map_cons,List.map_nil]);first|done|rfl|(simp only [List.length_drop,List.length_take];rfl)) ?_;(with_reducible refine (spec_IsBlank.calls t208 true _ A34.out).mono ?_);rintro e w' ⟨rfl,⟨nd,rfl⟩⟩;refine ⟨_,rfl,?_⟩;(try (rw [drewN_self w36];generalize hq_ : World.drewN w36 _ = w36;have n0_ : Aside0 (IsS115 w0 w36 g s0_0 t209 t210):=⟨by rw [← hq_];exact (by repeat (first|(with_reducible first|exact HI0.out|apply sA|apply sB|apply sC|apply sD|apply sE)|exact HI0.out))⟩;have n1_ : Aside0 (KeepBut w w36 g none):=⟨by rw [← hq_];exact (by repeat (first|(with_reducible first|exact HK.out|apply kA|apply kB|apply kC|apply kD)|exact HK.out))⟩;have n2_ : Aside0 (Below w0.heap.size w0 w36):=⟨by rw [← hq_];exact (by repeat (first|(with_reducible first|exact HB.out|apply bA|apply bB|apply bC|refine bD ?_ (IsS115.ge HI0.out))|exact HB.out))⟩;clear HI0 HK HB hq_;have HI0:=n0_;have HK:=n1_;have HB:=n2_;clear n0_ n1_ n2_));obtain ⟨ASz37_0,cSz37_0,HGz37,hgz37,HSz37_0⟩:=HI0.out;have hcz37_0:=cellS115_0 HGz37;have hcz37_1:=cellS115_1 HGz37;have hcz37_2:=cellS115_2 HGz37;have hfz37_1:=blk_frozen HGz37 1;have hfz37_2:=blk_frozen HGz37 2;clear HGz37 hgz37))
       first|go_end0|((try simp only [Exit.inBlock,Exit.then]);refine bodyPost_ret (results_none rfl _ _ _) rfl ?_)
       exact ⟨by first|rfl|(simp [errW_none,errW_some] <;> rfl)|(simp [*,errW_none,errW_some] <;> rfl),by repeat (first|(with_reducible first|exact HI0.out|apply sA|apply sB|apply sC|apply sD|apply sE)|exact HI0.out),by repeat (first|(with_reducible first|exact HB.out|apply bA|apply bB|apply bC|refine bD ?_ (IsS115.ge HI0.out))|exact HB.out),by repeat (first|(with_reducible first|exact HK.out|apply kA|apply kB|apply kC|apply kD)|exact HK.out)⟩
      ·replace c35:=Bool.eq_false_iff.mpr c35
       subst c35
       have H1 : (some (t209,t210)) = some (r1,r2):=by rw [if_neg (show ¬ (false = true) by decide)] at H;exact H
       clear H
       have H:=H1
       clear H1
       simp only [Option.some.injEq,Prod.mk.injEq] at H
       obtain ⟨rfl,rfl⟩:=H
       go_wp2_with (first|((with_reducible refine gate_callee (f:=104) rfl ?_);refine goesL_ (some 61) rfl rfl Tryz.func104 (by kernel_rfl) rfl #[.pointer (some ⟨g,0,none⟩),.int .i64 0] rfl (by (try simp only [List.map_toArray,List.map_cons,List.map_nil]);first|done|rfl|(simp only [List.length_drop,List.length_take];rfl)) ?_;(with_reducible refine (spec_reader_peek.calls g s0_0 t206 x1002_28 0 t208 t209 t210 w0 _ ?side1 ?side2 A33.out).mono ?_);(case side1 => repeat (first|(with_reducible first|exact HI0.out|apply sA|apply sB|apply sC|apply sD|apply sE)|exact HI0.out));(case side2 => repeat (first|(with_reducible first|exact HB.out|apply bA|apply bB|apply bC|refine bD ?_ (IsS115.ge HI0.out))|exact HB.out));rintro e w38 ⟨rfl,hi,hb,hk⟩;refine ⟨_,rfl,?_⟩;have n0_:=Aside0.mk (KeepBut.trans (by repeat (first|(with_reducible first|exact HK.out|apply kA|apply kB|apply kC|apply kD)|exact HK.out)) hk (.inl rfl));have n1_:=Aside0.mk (hb);have n2_:=Aside0.mk (hi);clear HK;clear HB;clear HI0;have HK:=n0_;have HB:=n1_;have HI0:=n2_;clear n0_ n1_ n2_;(try clear hb);(try clear hb2);(try clear hk);(try clear hi))|((with_reducible refine gate_callee (f:=105) rfl ?_);refine goesL_ (some 62) rfl rfl Tryz.func105 (by kernel_rfl) rfl #[.int .u8 t208] rfl (by (try simp only [List.map_toArray,List.map_cons,List.map_nil]);first|done|rfl|(simp only [List.length_drop,List.length_take];rfl)) ?_;(with_reducible refine (spec_IsBlank.calls t208 false _ A34.out).mono ?_);rintro e w' ⟨rfl,⟨nd,rfl⟩⟩;refine ⟨_,rfl,?_⟩))
       first|go_end0|((try simp only [Exit.inBlock,Exit.then]);refine bodyPost_ret (results_none rfl _ _ _) rfl ?_)
       exact ⟨by first|rfl|(simp [errW_none,errW_some] <;> rfl)|(simp [*,errW_none,errW_some] <;> rfl),by repeat (first|(with_reducible first|exact HI0.out|apply sA|apply sB|apply sC|apply sD|apply sE)|exact HI0.out),by repeat (first|(with_reducible first|exact HB.out|apply bA|apply bB|apply bC|refine bD ?_ (IsS115.ge HI0.out))|exact HB.out),by repeat (first|(with_reducible first|exact HK.out|apply kA|apply kB|apply kC|apply kD)|exact HK.out)⟩
mutual
def spec_reader_quoted.l0 : Nat → Int → List Int → Int → Bool → Option (ByteArray × Int × Bool)
 | 0,_,_,_,_ => none
 | k + 1,x3,x1000,x1001,x1002 => (spec_reader_over.f x1000 x1001 x1002).bind fun bt215 => (if bt215.1 = true then (some ((⟨#[115,116,114,105,110,103]⟩ : ByteArray),bt215.2.1,true)) else ((spec_reader_peek.f x1000 bt215.2.1 bt215.2.2 0).bind fun bt218 => (if bt218.1 = x3 then (some ((⟨#[115,116,114,105,110,103]⟩ : ByteArray),wrap64 (bt218.2.1 + 1),bt218.2.2)) else ((spec_isNewline.f bt218.1).bind fun t221 => (if t221 = true then (some ((⟨#[98,97,100,32,115,116,114,105,110,103]⟩ : ByteArray),bt218.2.1,true)) else (if bt218.1 = 92 then ((spec_reader_peek.f x1000 bt218.2.1 bt218.2.2 1).bind fun bt222 => ((spec_isNewline.f bt222.1).bind fun t225 => (spec_reader_quoted.j1 k x3 t225 x1000 bt222.2.1 bt222.2.2))) else (spec_reader_quoted.j1 k x3 false x1000 bt218.2.1 bt218.2.2)))))))
def spec_reader_quoted.j1 : Nat → Int → Bool → List Int → Int → Bool → Option (ByteArray × Int × Bool)
 | 0,_,_,_,_,_ => none
 | k + 1,x3,x43,x1000,x1001,x1002 => if x43 = true then ((spec_reader_peek.f x1000 x1001 x1002 1).bind fun bt226 => (if bt226.1 = 13 then (spec_reader_quoted.l0 k x3 x1000 (wrap64 (bt226.2.1 + 2)) true) else (spec_reader_quoted.l0 k x3 x1000 (wrap64 (bt226.2.1 + 2)) bt226.2.2))) else ((spec_reader_escapes.f x1000 x1001 x1002 0).bind fun bt229 => (if bt229.1 = true then ((spec_reader_escape.f k x1000 bt229.2.1 bt229.2.2).bind fun bt232 => (spec_reader_quoted.l0 k x3 x1000 bt232.1 bt232.2)) else (spec_reader_quoted.l0 k x3 x1000 (wrap64 (bt229.2.1 + 1)) bt229.2.2)))
end
def spec_reader_quoted.f (k : Nat) (s0_0 : List Int) (s0_1 : Int) (s0_2 : Bool) : Option (ByteArray × Int × Bool):=(spec_reader_peek.f s0_0 s0_1 s0_2 0).bind fun bt212 => (spec_reader_quoted.l0 k bt212.1 s0_0 (wrap64 (bt212.2.1 + 1)) bt212.2.2)
theorem spec_reader_quoted.calls (k : Nat) (g : Nat) (s0_0 : List Int) (s0_1 : Int) (s0_2 : Bool) (r1 : ByteArray) (r2 : Int) (r3 : Bool) (w0 w : World) (hI : IsS115 w0 w g s0_0 s0_1 s0_2) (hB : Below w0.heap.size w0 w) (h : spec_reader_quoted.f k s0_0 s0_1 s0_2 = some (r1,r2,r3)) :
  Calls Tryz.prog 107 #[.pointer (some ⟨g,0,none⟩)] w fun e w' => e = .returned (.string r1) ∧ IsS115 w0 w' g s0_0 r2 r3 ∧ Below w0.heap.size w0 w' ∧ KeepBut w w' g none:=by
 have HI0:=Aside0.mk hI
 have HK:=Aside0.mk (KeepBut.refl w g none)
 have HL:=Aside0.mk hB.size
 clear hI
 have HW0:=Aside0.mk hB.size
 have HB:=Aside0.mk hB
 clear hB
 have H : ((spec_reader_peek.f s0_0 s0_1 s0_2 0).bind fun bt212 => (spec_reader_quoted.l0 k bt212.1 s0_0 (wrap64 (bt212.2.1 + 1)) bt212.2.2)) = some (r1,r2,r3):=h
 clear h
 replace H:=Option.bind_eq_some_iff.mp H
 obtain ⟨⟨t212,t213,t214⟩,A20,H⟩:=H
 replace H : (spec_reader_quoted.l0 k t212 s0_0 (wrap64 (t213 + 1)) t214) = some (r1,r2,r3):=H
 have A2:=Aside0.mk A20
 clear A20
 have H':=Aside0.mk H
 clear H
 go_enter Tryz.func107,Tryz.ntmps107
 go_wp2_with (first|((with_reducible refine gate_callee (f:=104) rfl ?_);refine goesL_ (some 6) rfl rfl Tryz.func104 (by kernel_rfl) rfl #[.pointer (some ⟨g,0,none⟩),.int .i64 0] rfl (by (try simp only [List.map_toArray,List.map_cons,List.map_nil]);first|done|rfl|(simp only [List.length_drop,List.length_take];rfl)) ?_;(with_reducible refine (spec_reader_peek.calls g s0_0 s0_1 s0_2 0 t212 t213 t214 w0 _ ?side1 ?side2 A2.out).mono ?_);(case side1 => repeat (first|(with_reducible first|exact HI0.out|apply sA|apply sB|apply sC|apply sD|apply sE)|exact HI0.out));(case side2 => repeat (first|(with_reducible first|exact HB.out|apply bA|apply bB|apply bC|refine bD ?_ (IsS115.ge HI0.out))|exact HB.out));rintro e w3 ⟨rfl,hi,hb,hk⟩;refine ⟨_,rfl,?_⟩;have n0_:=Aside0.mk (KeepBut.trans (by repeat (first|(with_reducible first|exact HK.out|apply kA|apply kB|apply kC|apply kD)|exact HK.out)) hk (.inl rfl));have n1_:=Aside0.mk (hb);have n2_:=Aside0.mk (hi);clear HK;clear HB;clear HI0;have HK:=n0_;have HB:=n1_;have HI0:=n2_;clear n0_ n1_ n2_;(try clear hb);(try clear hb2);(try clear hk);(try clear hi);obtain ⟨ASz4_0,cSz4_0,HGz4,hgz4,HSz4_0⟩:=HI0.out;have hcz4_0:=cellS115_0 HGz4;have hcz4_1:=cellS115_1 HGz4;have hcz4_2:=cellS115_2 HGz4;have hfz4_1:=blk_frozen HGz4 1;have hfz4_2:=blk_frozen HGz4 2;clear HGz4 hgz4))
 go_loopg [] k (fun kq w' => ∃ (x1001_1 : Int) (x1002_1 : Bool),Aside0 (spec_reader_quoted.l0 kq t212 s0_0 x1001_1 x1002_1 = some (r1,r2,r3)) ∧ Aside0 (kq ≤ k) ∧ Aside0 (IsS115 w0 w' g s0_0 x1001_1 x1002_1) ∧ Aside0 (KeepBut w w' g none) ∧ Aside0 (Below w0.heap.size w0 w'))
 case atStart => exact ⟨(wrap64 (t213 + 1)),(t214),H',⟨Nat.le_refl _⟩,⟨by repeat (first|(with_reducible first|exact HI0.out|apply sA|apply sB|apply sC|apply sD|apply sE)|exact HI0.out)⟩,⟨by repeat (first|(with_reducible first|exact HK.out|apply kA|apply kB|apply kC|apply kD)|exact HK.out)⟩,⟨by repeat (first|(with_reducible first|exact HB.out|apply bA|apply bB|apply bC|refine bD ?_ (IsS115.ge HI0.out))|exact HB.out)⟩⟩
 case round =>
  clear H'
  try clear c1
  try clear p2
  try clear hcz4_0
  try clear hcz4_1
  try clear hcz4_2
  try clear hfz4_1
  try clear hfz4_2
  obtain ⟨x1001_1,x1002_1,HA,HK1,HI0,HK,HB⟩:=hrel
  cases gk with
  | zero => exact absurd HA.out (by simp [spec_reader_quoted.l0])
  | succ k1 =>
   have H:=HA.out
   clear HA
   simp only [spec_reader_quoted.l0] at H
   replace H:=Option.bind_eq_some_iff.mp H
   obtain ⟨⟨t215,t216,t217⟩,A50,H⟩:=H
   replace H : (if t215 = true then (some ((⟨#[115,116,114,105,110,103]⟩ : ByteArray),t216,true)) else ((spec_reader_peek.f s0_0 t216 t217 0).bind fun bt218 => (if bt218.1 = t212 then (some ((⟨#[115,116,114,105,110,103]⟩ : ByteArray),wrap64 (bt218.2.1 + 1),bt218.2.2)) else ((spec_isNewline.f bt218.1).bind fun t221 => (if t221 = true then (some ((⟨#[98,97,100,32,115,116,114,105,110,103]⟩ : ByteArray),bt218.2.1,true)) else (if bt218.1 = 92 then ((spec_reader_peek.f s0_0 bt218.2.1 bt218.2.2 1).bind fun bt222 => ((spec_isNewline.f bt222.1).bind fun t225 => (spec_reader_quoted.j1 k1 t212 t225 s0_0 bt222.2.1 bt222.2.2))) else (spec_reader_quoted.j1 k1 t212 false s0_0 bt218.2.1 bt218.2.2))))))) = some (r1,r2,r3):=H
   have A5:=Aside0.mk A50
   clear A50
   by_cases c6 : t215 = true
   ·subst c6
    have H1 : (some ((⟨#[115,116,114,105,110,103]⟩ : ByteArray),t216,true)) = some (r1,r2,r3):=by rw [if_pos rfl] at H;exact H
    clear H
    have H:=H1
    clear H1
    simp only [Option.some.injEq,Prod.mk.injEq] at H
    obtain ⟨rfl,rfl,rfl⟩:=H
    go_wp2_with (first|((with_reducible refine gate_callee (f:=67) rfl ?_);refine goesL_ (some 15) rfl rfl Tryz.func67 (by kernel_rfl) rfl #[.pointer (some ⟨g,0,none⟩)] rfl (by (try simp only [List.map_toArray,List.map_cons,List.map_nil]);first|done|rfl|(simp only [List.length_drop,List.length_take];rfl)) ?_;(with_reducible refine (spec_reader_over.calls g s0_0 x1001_1 x1002_1 true t216 t217 w0 _ ?side1 ?side2 A5.out).mono ?_);(case side1 => repeat (first|(with_reducible first|exact HI0.out|apply sA|apply sB|apply sC|apply sD|apply sE)|exact HI0.out));(case side2 => repeat (first|(with_reducible first|exact HB.out|apply bA|apply bB|apply bC|refine bD ?_ (IsS115.ge HI0.out))|exact HB.out));rintro e w7 ⟨rfl,hi,hb,hk⟩;refine ⟨_,rfl,?_⟩;have n0_:=Aside0.mk (KeepBut.trans (by repeat (first|(with_reducible first|exact HK.out|apply kA|apply kB|apply kC|apply kD)|exact HK.out)) hk (.inl rfl));have n1_:=Aside0.mk (hb);have n2_:=Aside0.mk (hi);clear HK;clear HB;clear HI0;have HK:=n0_;have HB:=n1_;have HI0:=n2_;clear n0_ n1_ n2_;(try clear hb);(try clear hb2);(try clear hk);(try clear hi);obtain ⟨ASz8_0,cSz8_0,HGz8,hgz8,HSz8_0⟩:=HI0.out;have hcz8_0:=cellS115_0 HGz8;have hcz8_1:=cellS115_1 HGz8;have hcz8_2:=cellS115_2 HGz8;have hfz8_1:=blk_frozen HGz8 1;have hfz8_2:=blk_frozen HGz8 2;clear HGz8 hgz8))
    go_ret
    exact ⟨by first|rfl|(simp [errW_none,errW_some] <;> rfl)|(simp [*,errW_none,errW_some] <;> rfl),by repeat (first|(with_reducible first|exact HI0.out|apply sA|apply sB|apply sC|apply sD|apply sE)|exact HI0.out),by repeat (first|(with_reducible first|exact HB.out|apply bA|apply bB|apply bC|refine bD ?_ (IsS115.ge HI0.out))|exact HB.out),by repeat (first|(with_reducible first|exact HK.out|apply kA|apply kB|apply kC|apply kD)|exact HK.out)⟩
   ·replace c6:=Bool.eq_false_iff.mpr c6
    subst c6
    have H1 : ((spec_reader_peek.f s0_0 t216 t217 0).bind fun bt218 => (if bt218.1 = t212 then (some ((⟨#[115,116,114,105,110,103]⟩ : ByteArray),wrap64 (bt218.2.1 + 1),bt218.2.2)) else ((spec_isNewline.f bt218.1).bind fun t221 => (if t221 = true then (some ((⟨#[98,97,100,32,115,116,114,105,110,103]⟩ : ByteArray),bt218.2.1,true)) else (if bt218.1 = 92 then ((spec_reader_peek.f s0_0 bt218.2.1 bt218.2.2 1).bind fun bt222 => ((spec_isNewline.f bt222.1).bind fun t225 => (spec_reader_quoted.j1 k1 t212 t225 s0_0 bt222.2.1 bt222.2.2))) else (spec_reader_quoted.j1 k1 t212 false s0_0 bt218.2.1 bt218.2.2)))))) = some (r1,r2,r3):=by rw [if_neg (show ¬ (false = true) by decide)] at H;exact H
    clear H
    have H:=H1
    clear H1
    replace H:=Option.bind_eq_some_iff.mp H
    obtain ⟨⟨t218,t219,t220⟩,A90,H⟩:=H
    replace H : (if t218 = t212 then (some ((⟨#[115,116,114,105,110,103]⟩ : ByteArray),wrap64 (t219 + 1),t220)) else ((spec_isNewline.f t218).bind fun t221 => (if t221 = true then (some ((⟨#[98,97,100,32,115,116,114,105,110,103]⟩ : ByteArray),t219,true)) else (if t218 = 92 then ((spec_reader_peek.f s0_0 t219 t220 1).bind fun bt222 => ((spec_isNewline.f bt222.1).bind fun t225 => (spec_reader_quoted.j1 k1 t212 t225 s0_0 bt222.2.1 bt222.2.2))) else (spec_reader_quoted.j1 k1 t212 false s0_0 t219 t220))))) = some (r1,r2,r3):=H
    have A9:=Aside0.mk A90
    clear A90
    by_cases c10 : t218 = t212
    ·rw [if_pos c10] at H
     have c10b0 : (t218 == t212) = true:=beq_iff_eq.mpr c10
     have c10b1 : (t218 != t212) = false:=bne_eq_false_iff_eq.mpr c10
     clear c10
     simp only [Option.some.injEq,Prod.mk.injEq] at H
     obtain ⟨rfl,rfl,rfl⟩:=H
     go_wp2_with (first|((with_reducible refine gate_callee (f:=67) rfl ?_);refine goesL_ (some 15) rfl rfl Tryz.func67 (by kernel_rfl) rfl #[.pointer (some ⟨g,0,none⟩)] rfl (by (try simp only [List.map_toArray,List.map_cons,List.map_nil]);first|done|rfl|(simp only [List.length_drop,List.length_take];rfl)) ?_;(with_reducible refine (spec_reader_over.calls g s0_0 x1001_1 x1002_1 false t216 t217 w0 _ ?side1 ?side2 A5.out).mono ?_);(case side1 => repeat (first|(with_reducible first|exact HI0.out|apply sA|apply sB|apply sC|apply sD|apply sE)|exact HI0.out));(case side2 => repeat (first|(with_reducible first|exact HB.out|apply bA|apply bB|apply bC|refine bD ?_ (IsS115.ge HI0.out))|exact HB.out));rintro e w11 ⟨rfl,hi,hb,hk⟩;refine ⟨_,rfl,?_⟩;have n0_:=Aside0.mk (KeepBut.trans (by repeat (first|(with_reducible first|exact HK.out|apply kA|apply kB|apply kC|apply kD)|exact HK.out)) hk (.inl rfl));have n1_:=Aside0.mk (hb);have n2_:=Aside0.mk (hi);clear HK;clear HB;clear HI0;have HK:=n0_;have HB:=n1_;have HI0:=n2_;clear n0_ n1_ n2_;(try clear hb);(try clear hb2);(try clear hk);(try clear hi))|((with_reducible refine gate_callee (f:=104) rfl ?_);refine goesL_ (some 18) rfl rfl Tryz.func104 (by kernel_rfl) rfl #[.pointer (some ⟨g,0,none⟩),.int .i64 0] rfl (by (try simp only [List.map_toArray,List.map_cons,List.map_nil]);first|done|rfl|(simp only [List.length_drop,List.length_take];rfl)) ?_;(with_reducible refine (spec_reader_peek.calls g s0_0 t216 t217 0 t218 t219 t220 w0 _ ?side1 ?side2 A9.out).mono ?_);(case side1 => repeat (first|(with_reducible first|exact HI0.out|apply sA|apply sB|apply sC|apply sD|apply sE)|exact HI0.out));(case side2 => repeat (first|(with_reducible first|exact HB.out|apply bA|apply bB|apply bC|refine bD ?_ (IsS115.ge HI0.out))|exact HB.out));rintro e w12 ⟨rfl,hi,hb,hk⟩;refine ⟨_,rfl,?_⟩;have n0_:=Aside0.mk (KeepBut.trans (by repeat (first|(with_reducible first|exact HK.out|apply kA|apply kB|apply kC|apply kD)|exact HK.out)) hk (.inl rfl));have n1_:=Aside0.mk (hb);have n2_:=Aside0.mk (hi);clear HK;clear HB;clear HI0;have HK:=n0_;have HB:=n1_;have HI0:=n2_;clear n0_ n1_ n2_;(try clear hb);(try clear hb2);(try clear hk);(try clear hi);obtain ⟨ASz13_0,cSz13_0,HGz13,hgz13,HSz13_0⟩:=HI0.out;have hcz13_0:=cellS115_0 HGz13;have hcz13_1:=cellS115_1 HGz13;have hcz13_2:=cellS115_2 HGz13;have hfz13_1:=blk_frozen HGz13 1;have hfz13_2:=blk_frozen HGz13 2;clear HGz13 hgz13))
     go_ret
     exact ⟨by first|rfl|(simp [errW_none,errW_some] <;> rfl)|(simp [*,errW_none,errW_some] <;> rfl),by repeat (first|(with_reducible first|exact HI0.out|apply sA|apply sB|apply sC|apply sD|apply sE)|exact HI0.out),by repeat (first|(with_reducible first|exact HB.out|apply bA|apply bB|apply bC|refine bD ?_ (IsS115.ge HI0.out))|exact HB.out),by repeat (first|(with_reducible first|exact HK.out|apply kA|apply kB|apply kC|apply kD)|exact HK.out)⟩
    ·rw [if_neg c10] at H
     have c10b0 : (t218 == t212) = false:=beq_eq_false_iff_ne.mpr c10
     have c10b1 : (t218 != t212) = true:=bne_iff_ne.mpr c10
     replace H:=Option.bind_eq_some_iff.mp H
     obtain ⟨t221,A140,H⟩:=H
     replace H : (if t221 = true then (some ((⟨#[98,97,100,32,115,116,114,105,110,103]⟩ : ByteArray),t219,true)) else (if t218 = 92 then ((spec_reader_peek.f s0_0 t219 t220 1).bind fun bt222 => ((spec_isNewline.f bt222.1).bind fun t225 => (spec_reader_quoted.j1 k1 t212 t225 s0_0 bt222.2.1 bt222.2.2))) else (spec_reader_quoted.j1 k1 t212 false s0_0 t219 t220))) = some (r1,r2,r3):=H
     have A14:=Aside0.mk A140
     clear A140
     by_cases c15 : t221 = true
     ·subst c15
      have H1 : (some ((⟨#[98,97,100,32,115,116,114,105,110,103]⟩ : ByteArray),t219,true)) = some (r1,r2,r3):=by rw [if_pos rfl] at H;exact H
      clear H
      have H:=H1
      clear H1
      simp only [Option.some.injEq,Prod.mk.injEq] at H
      obtain ⟨rfl,rfl,rfl⟩:=H
      go_wp2_with (first|((with_reducible refine gate_callee (f:=67) rfl ?_);refine goesL_ (some 15) rfl rfl Tryz.func67 (by kernel_rfl) rfl #[.pointer (some ⟨g,0,none⟩)] rfl (by (try simp only [List.map_toArray,List.map_cons,List.map_nil]);first|done|rfl|(simp only [List.length_drop,List.length_take];rfl)) ?_;(with_reducible refine (spec_reader_over.calls g s0_0 x1001_1 x1002_1 false t216 t217 w0 _ ?side1 ?side2 A5.out).mono ?_);(case side1 => repeat (first|(with_reducible first|exact HI0.out|apply sA|apply sB|apply sC|apply sD|apply sE)|exact HI0.out));(case side2 => repeat (first|(with_reducible first|exact HB.out|apply bA|apply bB|apply bC|refine bD ?_ (IsS115.ge HI0.out))|exact HB.out));rintro e w16 ⟨rfl,hi,hb,hk⟩;refine ⟨_,rfl,?_⟩;have n0_:=Aside0.mk (KeepBut.trans (by repeat (first|(with_reducible first|exact HK.out|apply kA|apply kB|apply kC|apply kD)|exact HK.out)) hk (.inl rfl));have n1_:=Aside0.mk (hb);have n2_:=Aside0.mk (hi);clear HK;clear HB;clear HI0;have HK:=n0_;have HB:=n1_;have HI0:=n2_;clear n0_ n1_ n2_;(try clear hb);(try clear hb2);(try clear hk);(try clear hi))|((with_reducible refine gate_callee (f:=104) rfl ?_);refine goesL_ (some 18) rfl rfl Tryz.func104 (by kernel_rfl) rfl #[.pointer (some ⟨g,0,none⟩),.int .i64 0] rfl (by (try simp only [List.map_toArray,List.map_cons,List.map_nil]);first|done|rfl|(simp only [List.length_drop,List.length_take];rfl)) ?_;(with_reducible refine (spec_reader_peek.calls g s0_0 t216 t217 0 t218 t219 t220 w0 _ ?side1 ?side2 A9.out).mono ?_);(case side1 => repeat (first|(with_reducible first|exact HI0.out|apply sA|apply sB|apply sC|apply sD|apply sE)|exact HI0.out));(case side2 => repeat (first|(with_reducible first|exact HB.out|apply bA|apply bB|apply bC|refine bD ?_ (IsS115.ge HI0.out))|exact HB.out));rintro e w17 ⟨rfl,hi,hb,hk⟩;refine ⟨_,rfl,?_⟩;have n0_:=Aside0.mk (KeepBut.trans (by repeat (first|(with_reducible first|exact HK.out|apply kA|apply kB|apply kC|apply kD)|exact HK.out)) hk (.inl rfl));have n1_:=Aside0.mk (hb);have n2_:=Aside0.mk (hi);clear HK;clear HB;clear HI0;have HK:=n0_;have HB:=n1_;have HI0:=n2_;clear n0_ n1_ n2_;(try clear hb);(try clear hb2);(try clear hk);(try clear hi))|((with_reducible refine gate_callee (f:=134) rfl ?_);refine goesL_ (some 39) rfl rfl Tryz.func134 (by kernel_rfl) rfl #[.int .u8 t218] rfl (by (try simp only [List.map_toArray,List.map_cons,List.map_nil]);first|done|rfl|(simp only [List.length_drop,List.length_take];rfl)) ?_;(with_reducible refine (spec_isNewline.calls t218 true _ A14.out).mono ?_);rintro e w' ⟨rfl,⟨nd,rfl⟩⟩;refine ⟨_,rfl,?_⟩;(try (rw [drewN_self w17];generalize hq_ : World.drewN w17 _ = w17;have n0_ : Aside0 (IsS115 w0 w17 g s0_0 t219 t220):=⟨by rw [← hq_];exact (by repeat (first|(with_reducible first|exact HI0.out|apply sA|apply sB|apply sC|apply sD|apply sE)|exact HI0.out))⟩;have n1_ : Aside0 (KeepBut w w17 g none):=⟨by rw [← hq_];exact (by repeat (first|(with_reducible first|exact HK.out|apply kA|apply kB|apply kC|apply kD)|exact HK.out))⟩;have n2_ : Aside0 (Below w0.heap.size w0 w17):=⟨by rw [← hq_];exact (by repeat (first|(with_reducible first|exact HB.out|apply bA|apply bB|apply bC|refine bD ?_ (IsS115.ge HI0.out))|exact HB.out))⟩;clear HI0 HK HB hq_;have HI0:=n0_;have HK:=n1_;have HB:=n2_;clear n0_ n1_ n2_));obtain ⟨ASz18_0,cSz18_0,HGz18,hgz18,HSz18_0⟩:=HI0.out;have hcz18_0:=cellS115_0 HGz18;have hcz18_1:=cellS115_1 HGz18;have hcz18_2:=cellS115_2 HGz18;have hfz18_1:=blk_frozen HGz18 1;have hfz18_2:=blk_frozen HGz18 2;clear HGz18 hgz18))
      go_ret
      exact ⟨by first|rfl|(simp [errW_none,errW_some] <;> rfl)|(simp [*,errW_none,errW_some] <;> rfl),by repeat (first|(with_reducible first|exact HI0.out|apply sA|apply sB|apply sC|apply sD|apply sE)|exact HI0.out),by repeat (first|(with_reducible first|exact HB.out|apply bA|apply bB|apply bC|refine bD ?_ (IsS115.ge HI0.out))|exact HB.out),by repeat (first|(with_reducible first|exact HK.out|apply kA|apply kB|apply kC|apply kD)|exact HK.out)⟩
     ·replace c15:=Bool.eq_false_iff.mpr c15
      subst c15
      have H1 : (if t218 = 92 then ((spec_reader_peek.f s0_0 t219 t220 1).bind fun bt222 => ((spec_isNewline.f bt222.1).bind fun t225 => (spec_reader_quoted.j1 k1 t212 t225 s0_0 bt222.2.1 bt222.2.2))) else (spec_reader_quoted.j1 k1 t212 false s0_0 t219 t220)) = some (r1,r2,r3):=by rw [if_neg (show ¬ (false = true) by decide)] at H;exact H
      clear H
      have H:=H1
      clear H1
      have HC19:=Aside0.mk H
      clear H
      go_upto_region 12 with (first|((with_reducible refine gate_callee (f:=67) rfl ?_);refine goesL_ (some 15) rfl rfl Tryz.func67 (by kernel_rfl) rfl #[.pointer (some ⟨g,0,none⟩)] rfl (by (try simp only [List.map_toArray,List.map_cons,List.map_nil]);first|done|rfl|(simp only [List.length_drop,List.length_take];rfl)) ?_;(with_reducible refine (spec_reader_over.calls g s0_0 x1001_1 x1002_1 false t216 t217 w0 _ ?side1 ?side2 A5.out).mono ?_);(case side1 => repeat (first|(with_reducible first|exact HI0.out|apply sA|apply sB|apply sC|apply sD|apply sE)|exact HI0.out));(case side2 => repeat (first|(with_reducible first|exact HB.out|apply bA|apply bB|apply bC|refine bD ?_ (IsS115.ge HI0.out))|exact HB.out));rintro e w20 ⟨rfl,hi,hb,hk⟩;refine ⟨_,rfl,?_⟩;have n0_:=Aside0.mk (KeepBut.trans (by repeat (first|(with_reducible first|exact HK.out|apply kA|apply kB|apply kC|apply kD)|exact HK.out)) hk (.inl rfl));have n1_:=Aside0.mk (hb);have n2_:=Aside0.mk (hi);clear HK;clear HB;clear HI0;have HK:=n0_;have HB:=n1_;have HI0:=n2_;clear n0_ n1_ n2_;(try clear hb);(try clear hb2);(try clear hk);(try clear hi))|((with_reducible refine gate_callee (f:=104) rfl ?_);refine goesL_ (some 18) rfl rfl Tryz.func104 (by kernel_rfl) rfl #[.pointer (some ⟨g,0,none⟩),.int .i64 0] rfl (by (try simp only [List.map_toArray,List.map_cons,List.map_nil]);first|done|rfl|(simp only [List.length_drop,List.length_take];rfl)) ?_;(with_reducible refine (spec_reader_peek.calls g s0_0 t216 t217 0 t218 t219 t220 w0 _ ?side1 ?side2 A9.out).mono ?_);(case side1 => repeat (first|(with_reducible first|exact HI0.out|apply sA|apply sB|apply sC|apply sD|apply sE)|exact HI0.out));(case side2 => repeat (first|(with_reducible first|exact HB.out|apply bA|apply bB|apply bC|refine bD ?_ (IsS115.ge HI0.out))|exact HB.out));rintro e w21 ⟨rfl,hi,hb,hk⟩;refine ⟨_,rfl,?_⟩;have n0_:=Aside0.mk (KeepBut.trans (by repeat (first|(with_reducible first|exact HK.out|apply kA|apply kB|apply kC|apply kD)|exact HK.out)) hk (.inl rfl));have n1_:=Aside0.mk (hb);have n2_:=Aside0.mk (hi);clear HK;clear HB;clear HI0;have HK:=n0_;have HB:=n1_;have HI0:=n2_;clear n0_ n1_ n2_;(try clear hb);(try clear hb2);(try clear hk);(try clear hi))|((with_reducible refine gate_callee (f:=134) rfl ?_);refine goesL_ (some 39) rfl rfl Tryz.func134 (by kernel_rfl) rfl #[.int .u8 t218] rfl (by (try simp only [List.map_toArray,List.map_cons,List.map_nil]);first|done|rfl|(simp only [List.length_drop,List.length_take];rfl)) ?_;(with_reducible refine (spec_isNewline.calls t218 false _ A14.out).mono ?_);rintro e w' ⟨rfl,⟨nd,rfl⟩⟩;refine ⟨_,rfl,?_⟩))
      (try simp only [Act.put,List.setIfInBounds_toArray,List.set_cons_zero,List.set_cons_succ])
      go_cut [43] (fun v43 wc => ∃ (kq : Nat) (x43_18 : Bool) (x1001_18 : Int) (x1002_18 : Bool),v43 = .bool x43_18 ∧ Aside0 (spec_reader_quoted.j1 kq t212 x43_18 s0_0 x1001_18 x1002_18 = some (r1,r2,r3)) ∧ Aside0 (kq ≤ k1) ∧ Aside0 (IsS115 w0 wc g s0_0 x1001_18 x1002_18) ∧ Aside0 (KeepBut w wc g none) ∧ Aside0 (Below w0.heap.size w0 wc))
      case first =>
       have H:=HC19.out
       clear HC19
       by_cases c22 : t218 = 92
       ·rw [if_pos c22] at H
        have c22b0 : (t218 == 92) = true:=beq_iff_eq.mpr c22
        have c22b1 : (t218 != 92) = false:=bne_eq_false_iff_eq.mpr c22
        clear c22
        (first|rw [c22b0]|(simp only [i64_w,i32_w];rw [c22b0])|skip)
        replace H:=Option.bind_eq_some_iff.mp H
        obtain ⟨⟨t222,t223,t224⟩,A230,H⟩:=H
        replace H : ((spec_isNewline.f t222).bind fun t225 => (spec_reader_quoted.j1 k1 t212 t225 s0_0 t223 t224)) = some (r1,r2,r3):=H
        have A23:=Aside0.mk A230
        clear A230
        replace H:=Option.bind_eq_some_iff.mp H
        obtain ⟨t225,A240,H⟩:=H
        replace H : (spec_reader_quoted.j1 k1 t212 t225 s0_0 t223 t224) = some (r1,r2,r3):=H
        have A24:=Aside0.mk A240
        clear A240
        have H':=Aside0.mk H
        clear H
        go_wp2_with (first|(go_at_call 104;(with_reducible refine (spec_reader_peek.calls g s0_0 t219 t220 1 t222 t223 t224 w0 _ ?side1 ?side2 A23.out).mono ?_);(case side1 => repeat (first|(with_reducible first|exact HI0.out|apply sA|apply sB|apply sC|apply sD|apply sE)|exact HI0.out));(case side2 => repeat (first|(with_reducible first|exact HB.out|apply bA|apply bB|apply bC|refine bD ?_ (IsS115.ge HI0.out))|exact HB.out));rintro e w25 ⟨rfl,hi,hb,hk⟩;have n0_:=Aside0.mk (KeepBut.trans (by repeat (first|(with_reducible first|exact HK.out|apply kA|apply kB|apply kC|apply kD)|exact HK.out)) hk (.inl rfl));have n1_:=Aside0.mk (hb);have n2_:=Aside0.mk (hi);clear HK;clear HB;clear HI0;have HK:=n0_;have HB:=n1_;have HI0:=n2_;clear n0_ n1_ n2_;(try clear hb);(try clear hb2);(try clear hk);(try clear hi))|(go_at_call 134;(with_reducible refine (spec_isNewline.calls t222 t225 _ A24.out).mono ?_);rintro e w' ⟨rfl,⟨nd,rfl⟩⟩))
        go_meet
        case rel => exact ⟨_,(t225),(t223),(t224),(by first|rfl|(simp;done)|(simp [*];done)),H',⟨by have:=HK1.out;first|omega|exact Nat.le_refl _⟩,⟨by repeat (first|(with_reducible first|exact HI0.out|apply sA|apply sB|apply sC|apply sD|apply sE)|exact HI0.out)⟩,⟨by repeat (first|(with_reducible first|exact HK.out|apply kA|apply kB|apply kC|apply kD)|exact HK.out)⟩,⟨by repeat (first|(with_reducible first|exact HB.out|apply bA|apply bB|apply bC|refine bD ?_ (IsS115.ge HI0.out))|exact HB.out)⟩⟩
       ·rw [if_neg c22] at H
        have c22b0 : (t218 == 92) = false:=beq_eq_false_iff_ne.mpr c22
        have c22b1 : (t218 != 92) = true:=bne_iff_ne.mpr c22
        (first|rw [c22b0]|(simp only [i64_w,i32_w];rw [c22b0])|skip)
        have H':=Aside0.mk H
        clear H
        go_wp2
        go_meet
        case rel => exact ⟨_,(false),(t219),(t220),(by first|rfl|(simp;done)|(simp [*];done)),H',⟨by have:=HK1.out;first|omega|exact Nat.le_refl _⟩,⟨by repeat (first|(with_reducible first|exact HI0.out|apply sA|apply sB|apply sC|apply sD|apply sE)|exact HI0.out)⟩,⟨by repeat (first|(with_reducible first|exact HK.out|apply kA|apply kB|apply kC|apply kD)|exact HK.out)⟩,⟨by repeat (first|(with_reducible first|exact HB.out|apply bA|apply bB|apply bC|refine bD ?_ (IsS115.ge HI0.out))|exact HB.out)⟩⟩
      case rest =>
       clear HC19
       try clear c1
       try clear c2
       try clear p2
       try clear c6
       try clear p6
       try clear c10
       try clear c10b0
       try clear c10b1
       try clear c13
       try clear c15
       try clear c22
       try clear c22b0
       try clear c22b1
       try clear hcz13_0
       try clear hcz13_1
       try clear hcz13_2
       try clear hcz18_0
       try clear hcz18_1
       try clear hcz18_2
       try clear hcz4_0
       try clear hcz4_1
       try clear hcz4_2
       try clear hcz8_0
       try clear hcz8_1
       try clear hcz8_2
       try clear hfz13_1
       try clear hfz13_2
       try clear hfz18_1
       try clear hfz18_2
       try clear hfz4_1
       try clear hfz4_2
       try clear hfz8_1
       try clear hfz8_2
       try clear p2
       obtain ⟨kq,x43_18,x1001_18,x1002_18,rfl,HA,HJ18,HI0,HK,HB⟩:=hcut
       cases kq with
       | zero => exact absurd HA.out (by simp [spec_reader_quoted.j1])
       | succ kj18 =>
        have H:=HA.out
        clear HA
        simp only [spec_reader_quoted.j1] at H
        by_cases c26 : x43_18 = true
        ·subst c26
         have H1 : ((spec_reader_peek.f s0_0 x1001_18 x1002_18 1).bind fun bt226 => (if bt226.1 = 13 then (spec_reader_quoted.l0 kj18 t212 s0_0 (wrap64 (bt226.2.1 + 2)) true) else (spec_reader_quoted.l0 kj18 t212 s0_0 (wrap64 (bt226.2.1 + 2)) bt226.2.2))) = some (r1,r2,r3):=by rw [if_pos rfl] at H;exact H
         clear H
         have H:=H1
         clear H1
         replace H:=Option.bind_eq_some_iff.mp H
         obtain ⟨⟨t226,t227,t228⟩,A270,H⟩:=H
         replace H : (if t226 = 13 then (spec_reader_quoted.l0 kj18 t212 s0_0 (wrap64 (t227 + 2)) true) else (spec_reader_quoted.l0 kj18 t212 s0_0 (wrap64 (t227 + 2)) t228)) = some (r1,r2,r3):=H
         have A27:=Aside0.mk A270
         clear A270
         by_cases c28 : t226 = 13
         ·rw [if_pos c28] at H
          have c28b0 : (t226 == 13) = true:=beq_iff_eq.mpr c28
          have c28b1 : (t226 != 13) = false:=bne_eq_false_iff_eq.mpr c28
          clear c28
          have H':=Aside0.mk H
          clear H
          go_wp2_with (first|((with_reducible refine gate_callee (f:=104) rfl ?_);refine goesL_ (some 52) rfl rfl Tryz.func104 (by kernel_rfl) rfl #[.pointer (some ⟨g,0,none⟩),.int .i64 1] rfl (by (try simp only [List.map_toArray,List.map_cons,List.map_nil]);first|done|rfl|(simp only [List.length_drop,List.length_take];rfl)) ?_;(with_reducible refine (spec_reader_peek.calls g s0_0 x1001_18 x1002_18 1 t226 t227 t228 w0 _ ?side1 ?side2 A27.out).mono ?_);(case side1 => repeat (first|(with_reducible first|exact HI0.out|apply sA|apply sB|apply sC|apply sD|apply sE)|exact HI0.out));(case side2 => repeat (first|(with_reducible first|exact HB.out|apply bA|apply bB|apply bC|refine bD ?_ (IsS115.ge HI0.out))|exact HB.out));rintro e w29 ⟨rfl,hi,hb,hk⟩;refine ⟨_,rfl,?_⟩;have n0_:=Aside0.mk (KeepBut.trans (by repeat (first|(with_reducible first|exact HK.out|apply kA|apply kB|apply kC|apply kD)|exact HK.out)) hk (.inl rfl));have n1_:=Aside0.mk (hb);have n2_:=Aside0.mk (hi);clear HK;clear HB;clear HI0;have HK:=n0_;have HB:=n1_;have HI0:=n2_;clear n0_ n1_ n2_;(try clear hb);(try clear hb2);(try clear hk);(try clear hi);obtain ⟨ASz30_0,cSz30_0,HGz30,hgz30,HSz30_0⟩:=HI0.out;have hcz30_0:=cellS115_0 HGz30;have hcz30_1:=cellS115_1 HGz30;have hcz30_2:=cellS115_2 HGz30;have hfz30_1:=blk_frozen HGz30 1;have hfz30_2:=blk_frozen HGz30 2;clear HGz30 hgz30))
          go_roundg kj18
          case measure => have:=HK1.out;have:=HJ18.out;omega
          case rel => exact ⟨(wrap64 (t227 + 2)),(true),H',⟨by have:=HK1.out;have:=HJ18.out;omega⟩,⟨by repeat (first|(with_reducible first|exact HI0.out|apply sA|apply sB|apply sC|apply sD|apply sE)|exact HI0.out)⟩,⟨by repeat (first|(with_reducible first|exact HK.out|apply kA|apply kB|apply kC|apply kD)|exact HK.out)⟩,⟨by repeat (first|(with_reducible first|exact HB.out|apply bA|apply bB|apply bC|refine bD ?_ (IsS115.ge HI0.out))|exact HB.out)⟩⟩
         ·rw [if_neg c28] at H
          have c28b0 : (t226 == 13) = false:=beq_eq_false_iff_ne.mpr c28
          have c28b1 : (t226 != 13) = true:=bne_iff_ne.mpr c28
          have H':=Aside0.mk H
          clear H
          go_wp2_with (first|((with_reducible refine gate_callee (f:=104) rfl ?_);refine goesL_ (some 52) rfl rfl Tryz.func104 (by kernel_rfl) rfl #[.pointer (some ⟨g,0,none⟩),.int .i64 1] rfl (by (try simp only [List.map_toArray,List.map_cons,List.map_nil]);first|done|rfl|(simp only [List.length_drop,List.length_take];rfl)) ?_;(with_reducible refine (spec_reader_peek.calls g s0_0 x1001_18 x1002_18 1 t226 t227 t228 w0 _ ?side1 ?side2 A27.out).mono ?_);(case side1 => repeat (first|(with_reducible first|exact HI0.out|apply sA|apply sB|apply sC|apply sD|apply sE)|exact HI0.out));(case side2 => repeat (first|(with_reducible first|exact HB.out|apply bA|apply bB|apply bC|refine bD ?_ (IsS115.ge HI0.out))|exact HB.out));rintro e w31 ⟨rfl,hi,hb,hk⟩;refine ⟨_,rfl,?_⟩;have n0_:=Aside0.mk (KeepBut.trans (by repeat (first|(with_reducible first|exact HK.out|apply kA|apply kB|apply kC|apply kD)|exact HK.out)) hk (.inl rfl));have n1_:=Aside0.mk (hb);have n2_:=Aside0.mk (hi);clear HK;clear HB;clear HI0;have HK:=n0_;have HB:=n1_;have HI0:=n2_;clear n0_ n1_ n2_;(try clear hb);(try clear hb2);(try clear hk);(try clear hi);obtain ⟨ASz32_0,cSz32_0,HGz32,hgz32,HSz32_0⟩:=HI0.out;have hcz32_0:=cellS115_0 HGz32;have hcz32_1:=cellS115_1 HGz32;have hcz32_2:=cellS115_2 HGz32;have hfz32_1:=blk_frozen HGz32 1;have hfz32_2:=blk_frozen HGz32 2;clear HGz32 hgz32))
          go_roundg kj18
          case measure => have:=HK1.out;have:=HJ18.out;omega
          case rel => exact ⟨(wrap64 (t227 + 2)),(t228),H',⟨by have:=HK1.out;have:=HJ18.out;omega⟩,⟨by repeat (first|(with_reducible first|exact HI0.out|apply sA|apply sB|apply sC|apply sD|apply sE)|exact HI0.out)⟩,⟨by repeat (first|(with_reducible first|exact HK.out|apply kA|apply kB|apply kC|apply kD)|exact HK.out)⟩,⟨by repeat (first|(with_reducible first|exact HB.out|apply bA|apply bB|apply bC|refine bD ?_ (IsS115.ge HI0.out))|exact HB.out)⟩⟩
        ·replace c26:=Bool.eq_false_iff.mpr c26
         subst c26
         have H1 : ((spec_reader_escapes.f s0_0 x1001_18 x1002_18 0).bind fun bt229 => (if bt229.1 = true then ((spec_reader_escape.f kj18 s0_0 bt229.2.1 bt229.2.2).bind fun bt232 => (spec_reader_quoted.l0 kj18 t212 s0_0 bt232.1 bt232.2)) else (spec_reader_quoted.l0 kj18 t212 s0_0 (wrap64 (bt229.2.1 + 1)) bt229.2.2))) = some (r1,r2,r3):=by rw [if_neg (show ¬ (false = true) by decide)] at H;exact H
         clear H
         have H:=H1
         clear H1
         replace H:=Option.bind_eq_some_iff.mp H
         obtain ⟨⟨t229,t230,t231⟩,A330,H⟩:=H
         replace H : (if t229 = true then ((spec_reader_escape.f kj18 s0_0 t230 t231).bind fun bt232 => (spec_reader_quoted.l0 kj18 t212 s0_0 bt232.1 bt232.2)) else (spec_reader_quoted.l0 kj18 t212 s0_0 (wrap64 (t230 + 1)) t231)) = some (r1,r2,r3):=H
         have A33:=Aside0.mk A330
         clear A330
         by_cases c34 : t229 = true
         ·subst c34
          have H1 : ((spec_reader_escape.f kj18 s0_0 t230 t231).bind fun bt232 => (spec_reader_quoted.l0 kj18 t212 s0_0 bt232.1 bt232.2)) = some (r1,r2,r3):=by rw [if_pos rfl] at H;exact H
          clear H
          have H:=H1
          clear H1
          replace H:=Option.bind_eq_some_iff.mp H
          obtain ⟨⟨t232,t233⟩,A350,H⟩:=H
          replace H : (spec_reader_quoted.l0 kj18 t212 s0_0 t232 t233) = some (r1,r2,r3):=H
          have A35:=Aside0.mk A350
          clear A350
          have H':=Aside0.mk H
          clear H
          go_wp2_with (first|((with_reducible refine gate_callee (f:=135) rfl ?_);refine goesL_ (some 66) rfl rfl Tryz.func135 (by kernel_rfl) rfl #[.pointer (some ⟨g,0,none⟩),.int .i64 0] rfl (by (try simp only [List.map_toArray,List.map_cons,List.map_nil]);first|done|rfl|(simp only [List.length_drop,List.length_take];rfl)) ?_;(with_reducible refine (spec_reader_escapes.calls g s0_0 x1001_18 x1002_18 0 true t230 t231 w0 _ ?side1 ?side2 A33.out).mono ?_);(case side1 => repeat (first|(with_reducible first|exact HI0.out|apply sA|apply sB|apply sC|apply sD|apply sE)|exact HI0.out));(case side2 => repeat (first|(with_reducible first|exact HB.out|apply bA|apply bB|apply bC|refine bD ?_ (IsS115.ge HI0.out))|exact HB.out));rintro e w36 ⟨rfl,hi,hb,hk⟩;refine ⟨_,rfl,?_⟩;have n0_:=Aside0.mk (KeepBut.trans (by repeat (first|(with_reducible first|exact HK.out|apply kA|apply kB|apply kC|apply kD)|exact HK.out)) hk (.inl rfl));have n1_:=Aside0.mk (hb);have n2_:=Aside0.mk (hi);clear HK;clear HB;clear HI0;have HK:=n0_;have HB:=n1_;have HI0:=n2_;clear n0_ n1_ n2_;(try clear hb);(try clear hb2);(try clear hk);(try clear hi))|((with_reducible refine gate_callee (f:=136) rfl ?_);refine goesL_ (some 68) rfl rfl Tryz.func136 (by kernel_rfl) rfl #[.pointer (some ⟨g,0,none⟩)] rfl (by (try simp only [List.map_toArray,List.map_cons,List.map_nil]);first|done|rfl|(simp only [List.length_drop,List.length_take];rfl)) ?_;(with_reducible refine (spec_reader_escape.calls kj18 g s0_0 t230 t231 t232 t233 w0 _ ?side1 ?side2 A35.out).mono ?_);(case side1 => repeat (first|(with_reducible first|exact HI0.out|apply sA|apply sB|apply sC|apply sD|apply sE)|exact HI0.out));(case side2 => repeat (first|(with_reducible first|exact HB.out|apply bA|apply bB|apply bC|refine bD ?_ (IsS115.ge HI0.out))|exact HB.out));rintro e w37 ⟨rfl,hi,hb,hk⟩;refine ⟨_,rfl,?_⟩;have n0_:=Aside0.mk (KeepBut.trans (by repeat (first|(with_reducible first|exact HK.out|apply kA|apply kB|apply kC|apply kD)|exact HK.out)) hk (.inl rfl));have n1_:=Aside0.mk (hb);have n2_:=Aside0.mk (hi);clear HK;clear HB;clear HI0;have HK:=n0_;have HB:=n1_;have HI0:=n2_;clear n0_ n1_ n2_;(try clear hb);(try clear hb2);(try clear hk);(try clear hi)))
          go_roundg kj18
          case measure => have:=HK1.out;have:=HJ18.out;omega
          case rel => exact ⟨(t232),(t233),H',⟨by have:=HK1.out;have:=HJ18.out;omega⟩,⟨by repeat (first|(with_reducible first|exact HI0.out|apply sA|apply sB|apply sC|apply sD|apply sE)|exact HI0.out)⟩,⟨by repeat (first|(with_reducible first|exact HK.out|apply kA|apply kB|apply kC|apply kD)|exact HK.out)⟩,⟨by repeat (first|(with_reducible first|exact HB.out|apply bA|apply bB|apply bC|refine bD ?_ (IsS115.ge HI0.out))|exact HB.out)⟩⟩
         ·replace c34:=Bool.eq_false_iff.mpr c34
          subst c34
          have H1 : (spec_reader_quoted.l0 kj18 t212 s0_0 (wrap64 (t230 + 1)) t231) = some (r1,r2,r3):=by rw [if_neg (show ¬ (false = true) by decide)] at H;exact H
          clear H
          have H:=H1
          clear H1
          have H':=Aside0.mk H
          clear H
          go_wp2_with (first|((with_reducible refine gate_callee (f:=135) rfl ?_);refine goesL_ (some 66) rfl rfl Tryz.func135 (by kernel_rfl) rfl #[.pointer (some ⟨g,0,none⟩),.int .i64 0] rfl (by (try simp only [List.map_toArray,List.map_cons,List.map_nil]);first|done|rfl|(simp only [List.length_drop,List.length_take];rfl)) ?_;(with_reducible refine (spec_reader_escapes.calls g s0_0 x1001_18 x1002_18 0 false t230 t231 w0 _ ?side1 ?side2 A33.out).mono ?_);(case side1 => repeat (first|(with_reducible first|exact HI0.out|apply sA|apply sB|apply sC|apply sD|apply sE)|exact HI0.out));(case side2 => repeat (first|(with_reducible first|exact HB.out|apply bA|apply bB|apply bC|refine bD ?_ (IsS115.ge HI0.out))|exact HB.out));rintro e w38 ⟨rfl,hi,hb,hk⟩;refine ⟨_,rfl,?_⟩;have n0_:=Aside0.mk (KeepBut.trans (by repeat (first|(with_reducible first|exact HK.out|apply kA|apply kB|apply kC|apply kD)|exact HK.out)) hk (.inl rfl));have n1_:=Aside0.mk (hb);have n2_:=Aside0.mk (hi);clear HK;clear HB;clear HI0;have HK:=n0_;have HB:=n1_;have HI0:=n2_;clear n0_ n1_ n2_;(try clear hb);(try clear hb2);(try clear hk);(try clear hi);obtain ⟨ASz39_0,cSz39_0,HGz39,hgz39,HSz39_0⟩:=HI0.out;have hcz39_0:=cellS115_0 HGz39;have hcz39_1:=cellS115_1 HGz39;have hcz39_2:=cellS115_2 HGz39;have hfz39_1:=blk_frozen HGz39 1;have hfz39_2:=blk_frozen HGz39 2;clear HGz39 hgz39))
          go_roundg kj18
          case measure => have:=HK1.out;have:=HJ18.out;omega
          case rel => exact ⟨(wrap64 (t230 + 1)),(t231),H',⟨by have:=HK1.out;have:=HJ18.out;omega⟩,⟨by repeat (first|(with_reducible first|exact HI0.out|apply sA|apply sB|apply sC|apply sD|apply sE)|exact HI0.out)⟩,⟨by repeat (first|(with_reducible first|exact HK.out|apply kA|apply kB|apply kC|apply kD)|exact HK.out)⟩,⟨by repeat (first|(with_reducible first|exact HB.out|apply bA|apply bB|apply bC|refine bD ?_ (IsS115.ge HI0.out))|exact HB.out)⟩⟩
end Go.Proofs.YtlglijnaeaonpaaGreatDoor.PFnStyle
end
