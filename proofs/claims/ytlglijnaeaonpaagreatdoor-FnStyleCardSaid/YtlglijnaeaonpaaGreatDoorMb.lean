/- FnStyle: a part of the proof (Mb); in it lines that print.sh printed, those that are used. -/
import Derived.Test.YtlglijnaeaonpaaGreatDoorMa
section
set_option maxHeartbeats 8000000
set_option maxRecDepth 100000
set_option linter.unusedVariables false
set_option linter.unusedSimpArgs false
namespace Go.Proofs.YtlglijnaeaonpaaGreatDoor.PFnStyle
open Go.RowKit Go.Proofs.YtlglijnaeaonpaaGreatDoorW.PrintWords Go.Proofs.YtlglijnaeaonpaaGreatDoorW.PrintLast Go.Proofs.YtlglijnaeaonpaaGreatDoorW.PrintMore
attribute [local go_sem] max2_int min2_int max_two min_two max_three min_three max_four min_four
def spec_reader_comment.l0 : Nat → List Int → Int → Bool → Option (ByteArray × Int × Bool)
 | 0,_,_,_ => none
 | k + 1,x1000,x1001,x1002 => (spec_reader_over.f x1000 x1001 x1002).bind fun bt234 => (if bt234.1 = true then (some ((⟨#[99,111,109,109,101,110,116]⟩ : ByteArray),bt234.2.1,true)) else ((spec_reader_peek.f x1000 bt234.2.1 bt234.2.2 0).bind fun bt237 => (if bt237.1 = 42 then ((spec_reader_peek.f x1000 bt237.2.1 bt237.2.2 1).bind fun bt240 => (if bt240.1 = 47 then (some ((⟨#[99,111,109,109,101,110,116]⟩ : ByteArray),wrap64 (bt240.2.1 + 2),bt240.2.2)) else (spec_reader_comment.l0 k x1000 (wrap64 (bt240.2.1 + 1)) bt240.2.2))) else (spec_reader_comment.l0 k x1000 (wrap64 (bt237.2.1 + 1)) bt237.2.2))))
def spec_reader_comment.f (k : Nat) (s0_0 : List Int) (s0_1 : Int) (s0_2 : Bool) : Option (ByteArray × Int × Bool):=spec_reader_comment.l0 k s0_0 (wrap64 (s0_1 + 2)) s0_2
theorem spec_reader_comment.calls (k : Nat) (g : Nat) (s0_0 : List Int) (s0_1 : Int) (s0_2 : Bool) (r1 : ByteArray) (r2 : Int) (r3 : Bool) (w0 w : World) (hI : IsS115 w0 w g s0_0 s0_1 s0_2) (hB : Below w0.heap.size w0 w) (h : spec_reader_comment.f k s0_0 s0_1 s0_2 = some (r1,r2,r3)) :
  Calls Tryz.prog 108 #[.pointer (some ⟨g,0,none⟩)] w fun e w' => e = .returned (.string r1) ∧ IsS115 w0 w' g s0_0 r2 r3 ∧ Below w0.heap.size w0 w' ∧ KeepBut w w' g none:=by
 have HI0:=Aside0.mk hI
 have HK:=Aside0.mk (KeepBut.refl w g none)
 have HL:=Aside0.mk hB.size
 clear hI
 have HW0:=Aside0.mk hB.size
 have HB:=Aside0.mk hB
 clear hB
 have H : (spec_reader_comment.l0 k s0_0 (wrap64 (s0_1 + 2)) s0_2) = some (r1,r2,r3):=h
 clear h
 have H':=Aside0.mk H
 clear H
 obtain ⟨ASz2_0,cSz2_0,HGz2,hgz2,HSz2_0⟩:=HI0.out
 have hcz2_0:=cellS115_0 HGz2
 have hcz2_1:=cellS115_1 HGz2
 have hcz2_2:=cellS115_2 HGz2
 have hfz2_1:=blk_frozen HGz2 1
 have hfz2_2:=blk_frozen HGz2 2
 clear HGz2 hgz2
 go_enter Tryz.func108,Tryz.ntmps108
 go_wp2
 go_loopg [] k (fun kq w' => ∃ (x1001_1 : Int) (x1002_1 : Bool),Aside0 (spec_reader_comment.l0 kq s0_0 x1001_1 x1002_1 = some (r1,r2,r3)) ∧ Aside0 (kq ≤ k) ∧ Aside0 (IsS115 w0 w' g s0_0 x1001_1 x1002_1) ∧ Aside0 (KeepBut w w' g none) ∧ Aside0 (Below w0.heap.size w0 w'))
 case atStart => exact ⟨(wrap64 (s0_1 + 2)),(s0_2),H',⟨Nat.le_refl _⟩,⟨by repeat (first|(with_reducible first|exact HI0.out|apply sA|apply sB|apply sC|apply sD|apply sE)|exact HI0.out)⟩,⟨by repeat (first|(with_reducible first|exact HK.out|apply kA|apply kB|apply kC|apply kD)|exact HK.out)⟩,⟨by repeat (first|(with_reducible first|exact HB.out|apply bA|apply bB|apply bC|refine bD ?_ (IsS115.ge HI0.out))|exact HB.out)⟩⟩
 case round =>
  clear H'
  try clear c1
  try clear p2
  try clear hcz2_0
  try clear hcz2_1
  try clear hcz2_2
  try clear hfz2_1
  try clear hfz2_2
  obtain ⟨x1001_1,x1002_1,HA,HK1,HI0,HK,HB⟩:=hrel
  cases gk with
  | zero => exact absurd HA.out (by simp [spec_reader_comment.l0])
  | succ k1 =>
   have H:=HA.out
   clear HA
   simp only [spec_reader_comment.l0] at H
   replace H:=Option.bind_eq_some_iff.mp H
   obtain ⟨⟨t234,t235,t236⟩,A30,H⟩:=H
   replace H : (if t234 = true then (some ((⟨#[99,111,109,109,101,110,116]⟩ : ByteArray),t235,true)) else ((spec_reader_peek.f s0_0 t235 t236 0).bind fun bt237 => (if bt237.1 = 42 then ((spec_reader_peek.f s0_0 bt237.2.1 bt237.2.2 1).bind fun bt240 => (if bt240.1 = 47 then (some ((⟨#[99,111,109,109,101,110,116]⟩ : ByteArray),wrap64 (bt240.2.1 + 2),bt240.2.2)) else (spec_reader_comment.l0 k1 s0_0 (wrap64 (bt240.2.1 + 1)) bt240.2.2))) else (spec_reader_comment.l0 k1 s0_0 (wrap64 (bt237.2.1 + 1)) bt237.2.2)))) = some (r1,r2,r3):=H
   have A3:=Aside0.mk A30
   clear A30
   by_cases c4 : t234 = true
   ·subst c4
    have H1 : (some ((⟨#[99,111,109,109,101,110,116]⟩ : ByteArray),t235,true)) = some (r1,r2,r3):=by rw [if_pos rfl] at H;exact H
    clear H
    have H:=H1
    clear H1
    simp only [Option.some.injEq,Prod.mk.injEq] at H
    obtain ⟨rfl,rfl,rfl⟩:=H
    go_wp2_with (first|((with_reducible refine gate_callee (f:=67) rfl ?_);refine goesL_ (some 11) rfl rfl Tryz.func67 (by kernel_rfl) rfl #[.pointer (some ⟨g,0,none⟩)] rfl (by (try simp only [List.map_toArray,List.map_cons,List.map_nil]);first|done|rfl|(simp only [List.length_drop,List.length_take];rfl)) ?_;(with_reducible refine (spec_reader_over.calls g s0_0 x1001_1 x1002_1 true t235 t236 w0 _ ?side1 ?side2 A3.out).mono ?_);(case side1 => repeat (first|(with_reducible first|exact HI0.out|apply sA|apply sB|apply sC|apply sD|apply sE)|exact HI0.out));(case side2 => repeat (first|(with_reducible first|exact HB.out|apply bA|apply bB|apply bC|refine bD ?_ (IsS115.ge HI0.out))|exact HB.out));rintro e w5 ⟨rfl,hi,hb,hk⟩;refine ⟨_,rfl,?_⟩;have n0_:=Aside0.mk (KeepBut.trans (by repeat (first|(with_reducible first|exact HK.out|apply kA|apply kB|apply kC|apply kD)|exact HK.out)) hk (.inl rfl));have n1_:=Aside0.mk (hb);have n2_:=Aside0.mk (hi);clear HK;clear HB;clear HI0;have HK:=n0_;have HB:=n1_;have HI0:=n2_;clear n0_ n1_ n2_;(try clear hb);(try clear hb2);(try clear hk);(try clear hi);obtain ⟨ASz6_0,cSz6_0,HGz6,hgz6,HSz6_0⟩:=HI0.out;have hcz6_0:=cellS115_0 HGz6;have hcz6_1:=cellS115_1 HGz6;have hcz6_2:=cellS115_2 HGz6;have hfz6_1:=blk_frozen HGz6 1;have hfz6_2:=blk_frozen HGz6 2;clear HGz6 hgz6))
    go_ret
    exact ⟨by first|rfl|(simp [errW_none,errW_some] <;> rfl)|(simp [*,errW_none,errW_some] <;> rfl),by repeat (first|(with_reducible first|exact HI0.out|apply sA|apply sB|apply sC|apply sD|apply sE)|exact HI0.out),by repeat (first|(with_reducible first|exact HB.out|apply bA|apply bB|apply bC|refine bD ?_ (IsS115.ge HI0.out))|exact HB.out),by repeat (first|(with_reducible first|exact HK.out|apply kA|apply kB|apply kC|apply kD)|exact HK.out)⟩
   ·replace c4:=Bool.eq_false_iff.mpr c4
    subst c4
    have H1 : ((spec_reader_peek.f s0_0 t235 t236 0).bind fun bt237 => (if bt237.1 = 42 then ((spec_reader_peek.f s0_0 bt237.2.1 bt237.2.2 1).bind fun bt240 => (if bt240.1 = 47 then (some ((⟨#[99,111,109,109,101,110,116]⟩ : ByteArray),wrap64 (bt240.2.1 + 2),bt240.2.2)) else (spec_reader_comment.l0 k1 s0_0 (wrap64 (bt240.2.1 + 1)) bt240.2.2))) else (spec_reader_comment.l0 k1 s0_0 (wrap64 (bt237.2.1 + 1)) bt237.2.2))) = some (r1,r2,r3):=by rw [if_neg (show ¬ (false = true) by decide)] at H;exact H
    clear H
    have H:=H1
    clear H1
    replace H:=Option.bind_eq_some_iff.mp H
    obtain ⟨⟨t237,t238,t239⟩,A70,H⟩:=H
    replace H : (if t237 = 42 then ((spec_reader_peek.f s0_0 t238 t239 1).bind fun bt240 => (if bt240.1 = 47 then (some ((⟨#[99,111,109,109,101,110,116]⟩ : ByteArray),wrap64 (bt240.2.1 + 2),bt240.2.2)) else (spec_reader_comment.l0 k1 s0_0 (wrap64 (bt240.2.1 + 1)) bt240.2.2))) else (spec_reader_comment.l0 k1 s0_0 (wrap64 (t238 + 1)) t239)) = some (r1,r2,r3):=H
    have A7:=Aside0.mk A70
    clear A70
    by_cases c8 : t237 = 42
    ·rw [if_pos c8] at H
     have c8b0 : (t237 == 42) = true:=beq_iff_eq.mpr c8
     have c8b1 : (t237 != 42) = false:=bne_eq_false_iff_eq.mpr c8
     clear c8
     replace H:=Option.bind_eq_some_iff.mp H
     obtain ⟨⟨t240,t241,t242⟩,A90,H⟩:=H
     replace H : (if t240 = 47 then (some ((⟨#[99,111,109,109,101,110,116]⟩ : ByteArray),wrap64 (t241 + 2),t242)) else (spec_reader_comment.l0 k1 s0_0 (wrap64 (t241 + 1)) t242)) = some (r1,r2,r3):=H
     have A9:=Aside0.mk A90
     clear A90
     by_cases c10 : t240 = 47
     ·rw [if_pos c10] at H
      have c10b0 : (t240 == 47) = true:=beq_iff_eq.mpr c10
      have c10b1 : (t240 != 47) = false:=bne_eq_false_iff_eq.mpr c10
      clear c10
      simp only [Option.some.injEq,Prod.mk.injEq] at H
      obtain ⟨rfl,rfl,rfl⟩:=H
      go_wp2_with (first|((with_reducible refine gate_callee (f:=67) rfl ?_);refine goesL_ (some 11) rfl rfl Tryz.func67 (by kernel_rfl) rfl #[.pointer (some ⟨g,0,none⟩)] rfl (by (try simp only [List.map_toArray,List.map_cons,List.map_nil]);first|done|rfl|(simp only [List.length_drop,List.length_take];rfl)) ?_;(with_reducible refine (spec_reader_over.calls g s0_0 x1001_1 x1002_1 false t235 t236 w0 _ ?side1 ?side2 A3.out).mono ?_);(case side1 => repeat (first|(with_reducible first|exact HI0.out|apply sA|apply sB|apply sC|apply sD|apply sE)|exact HI0.out));(case side2 => repeat (first|(with_reducible first|exact HB.out|apply bA|apply bB|apply bC|refine bD ?_ (IsS115.ge HI0.out))|exact HB.out));rintro e w11 ⟨rfl,hi,hb,hk⟩;refine ⟨_,rfl,?_⟩;have n0_:=Aside0.mk (KeepBut.trans (by repeat (first|(with_reducible first|exact HK.out|apply kA|apply kB|apply kC|apply kD)|exact HK.out)) hk (.inl rfl));have n1_:=Aside0.mk (hb);have n2_:=Aside0.mk (hi);clear HK;clear HB;clear HI0;have HK:=n0_;have HB:=n1_;have HI0:=n2_;clear n0_ n1_ n2_;(try clear hb);(try clear hb2);(try clear hk);(try clear hi))|((with_reducible refine gate_callee (f:=104) rfl ?_);refine goesL_ (some 14) rfl rfl Tryz.func104 (by kernel_rfl) rfl #[.pointer (some ⟨g,0,none⟩),.int .i64 0] rfl (by (try simp only [List.map_toArray,List.map_cons,List.map_nil]);first|done|rfl|(simp only [List.length_drop,List.length_take];rfl)) ?_;(with_reducible refine (spec_reader_peek.calls g s0_0 t235 t236 0 t237 t238 t239 w0 _ ?side1 ?side2 A7.out).mono ?_);(case side1 => repeat (first|(with_reducible first|exact HI0.out|apply sA|apply sB|apply sC|apply sD|apply sE)|exact HI0.out));(case side2 => repeat (first|(with_reducible first|exact HB.out|apply bA|apply bB|apply bC|refine bD ?_ (IsS115.ge HI0.out))|exact HB.out));rintro e w12 ⟨rfl,hi,hb,hk⟩;refine ⟨_,rfl,?_⟩;have n0_:=Aside0.mk (KeepBut.trans (by repeat (first|(with_reducible first|exact HK.out|apply kA|apply kB|apply kC|apply kD)|exact HK.out)) hk (.inl rfl));have n1_:=Aside0.mk (hb);have n2_:=Aside0.mk (hi);clear HK;clear HB;clear HI0;have HK:=n0_;have HB:=n1_;have HI0:=n2_;clear n0_ n1_ n2_;(try clear hb);(try clear hb2);(try clear hk);(try clear hi))|(go_at_call 104;(with_reducible refine (spec_reader_peek.calls g s0_0 t238 t239 1 t240 t241 t242 w0 _ ?side1 ?side2 A9.out).mono ?_);(case side1 => repeat (first|(with_reducible first|exact HI0.out|apply sA|apply sB|apply sC|apply sD|apply sE)|exact HI0.out));(case side2 => repeat (first|(with_reducible first|exact HB.out|apply bA|apply bB|apply bC|refine bD ?_ (IsS115.ge HI0.out))|exact HB.out));rintro e w13 ⟨rfl,hi,hb,hk⟩;have n0_:=Aside0.mk (KeepBut.trans (by repeat (first|(with_reducible first|exact HK.out|apply kA|apply kB|apply kC|apply kD)|exact HK.out)) hk (.inl rfl));have n1_:=Aside0.mk (hb);have n2_:=Aside0.mk (hi);clear HK;clear HB;clear HI0;have HK:=n0_;have HB:=n1_;have HI0:=n2_;clear n0_ n1_ n2_;(try clear hb);(try clear hb2);(try clear hk);(try clear hi);obtain ⟨ASz14_0,cSz14_0,HGz14,hgz14,HSz14_0⟩:=HI0.out;have hcz14_0:=cellS115_0 HGz14;have hcz14_1:=cellS115_1 HGz14;have hcz14_2:=cellS115_2 HGz14;have hfz14_1:=blk_frozen HGz14 1;have hfz14_2:=blk_frozen HGz14 2;clear HGz14 hgz14))
      go_ret
      exact ⟨by first|rfl|(simp [errW_none,errW_some] <;> rfl)|(simp [*,errW_none,errW_some] <;> rfl),by repeat (first|(with_reducible first|exact HI0.out|apply sA|apply sB|apply sC|apply sD|apply sE)|exact HI0.out),by repeat (first|(with_reducible first|exact HB.out|apply bA|apply bB|apply bC|refine bD ?_ (IsS115.ge HI0.out))|exact HB.out),by repeat (first|(with_reducible first|exact HK.out|apply kA|apply kB|apply kC|apply kD)|exact HK.out)⟩
     ·rw [if_neg c10] at H
      have c10b0 : (t240 == 47) = false:=beq_eq_false_iff_ne.mpr c10
      have c10b1 : (t240 != 47) = true:=bne_iff_ne.mpr c10
      have H':=Aside0.mk H
      clear H
      go_wp2_with (first|((with_reducible refine gate_callee (f:=67) rfl ?_);refine goesL_ (some 11) rfl rfl Tryz.func67 (by kernel_rfl) rfl #[.pointer (some ⟨g,0,none⟩)] rfl (by (try simp only [List.map_toArray,List.map_cons,List.map_nil]);first|done|rfl|(simp only [List.length_drop,List.length_take];rfl)) ?_;(with_reducible refine (spec_reader_over.calls g s0_0 x1001_1 x1002_1 false t235 t236 w0 _ ?side1 ?side2 A3.out).mono ?_);(case side1 => repeat (first|(with_reducible first|exact HI0.out|apply sA|apply sB|apply sC|apply sD|apply sE)|exact HI0.out));(case side2 => repeat (first|(with_reducible first|exact HB.out|apply bA|apply bB|apply bC|refine bD ?_ (IsS115.ge HI0.out))|exact HB.out));rintro e w15 ⟨rfl,hi,hb,hk⟩;refine ⟨_,rfl,?_⟩;have n0_:=Aside0.mk (KeepBut.trans (by repeat (first|(with_reducible first|exact HK.out|apply kA|apply kB|apply kC|apply kD)|exact HK.out)) hk (.inl rfl));have n1_:=Aside0.mk (hb);have n2_:=Aside0.mk (hi);clear HK;clear HB;clear HI0;have HK:=n0_;have HB:=n1_;have HI0:=n2_;clear n0_ n1_ n2_;(try clear hb);(try clear hb2);(try clear hk);(try clear hi))|((with_reducible refine gate_callee (f:=104) rfl ?_);refine goesL_ (some 14) rfl rfl Tryz.func104 (by kernel_rfl) rfl #[.pointer (some ⟨g,0,none⟩),.int .i64 0] rfl (by (try simp only [List.map_toArray,List.map_cons,List.map_nil]);first|done|rfl|(simp only [List.length_drop,List.length_take];rfl)) ?_;(with_reducible refine (spec_reader_peek.calls g s0_0 t235 t236 0 t237 t238 t239 w0 _ ?side1 ?side2 A7.out).mono ?_);(case side1 => repeat (first|(with_reducible first|exact HI0.out|apply sA|apply sB|apply sC|apply sD|apply sE)|exact HI0.out));(case side2 => repeat (first|(with_reducible first|exact HB.out|apply bA|apply bB|apply bC|refine bD ?_ (IsS115.ge HI0.out))|exact HB.out));rintro e w16 ⟨rfl,hi,hb,hk⟩;refine ⟨_,rfl,?_⟩;have n0_:=Aside0.mk (KeepBut.trans (by repeat (first|(with_reducible first|exact HK.out|apply kA|apply kB|apply kC|apply kD)|exact HK.out)) hk (.inl rfl));have n1_:=Aside0.mk (hb);have n2_:=Aside0.mk (hi);clear HK;clear HB;clear HI0;have HK:=n0_;have HB:=n1_;have HI0:=n2_;clear n0_ n1_ n2_;(try clear hb);(try clear hb2);(try clear hk);(try clear hi))|(go_at_call 104;(with_reducible refine (spec_reader_peek.calls g s0_0 t238 t239 1 t240 t241 t242 w0 _ ?side1 ?side2 A9.out).mono ?_);(case side1 => repeat (first|(with_reducible first|exact HI0.out|apply sA|apply sB|apply sC|apply sD|apply sE)|exact HI0.out));(case side2 => repeat (first|(with_reducible first|exact HB.out|apply bA|apply bB|apply bC|refine bD ?_ (IsS115.ge HI0.out))|exact HB.out));rintro e w17 ⟨rfl,hi,hb,hk⟩;have n0_:=Aside0.mk (KeepBut.trans (by repeat (first|(with_reducible first|exact HK.out|apply kA|apply kB|apply kC|apply kD)|exact HK.out)) hk (.inl rfl));have n1_:=Aside0.mk (hb);have n2_:=Aside0.mk (hi);clear HK;clear HB;clear HI0;have HK:=n0_;have HB:=n1_;have HI0:=n2_;clear n0_ n1_ n2_;(try clear hb);(try clear hb2);(try clear hk);(try clear hi);obtain ⟨ASz18_0,cSz18_0,HGz18,hgz18,HSz18_0⟩:=HI0.out;have hcz18_0:=cellS115_0 HGz18;have hcz18_1:=cellS115_1 HGz18;have hcz18_2:=cellS115_2 HGz18;have hfz18_1:=blk_frozen HGz18 1;have hfz18_2:=blk_frozen HGz18 2;clear HGz18 hgz18))
      go_roundg k1
      case measure => have:=HK1.out;omega
      case rel => exact ⟨(wrap64 (t241 + 1)),(t242),H',⟨by have:=HK1.out;omega⟩,⟨by repeat (first|(with_reducible first|exact HI0.out|apply sA|apply sB|apply sC|apply sD|apply sE)|exact HI0.out)⟩,⟨by repeat (first|(with_reducible first|exact HK.out|apply kA|apply kB|apply kC|apply kD)|exact HK.out)⟩,⟨by repeat (first|(with_reducible first|exact HB.out|apply bA|apply bB|apply bC|refine bD ?_ (IsS115.ge HI0.out))|exact HB.out)⟩⟩
    ·rw [if_neg c8] at H
     have c8b0 : (t237 == 42) = false:=beq_eq_false_iff_ne.mpr c8
     have c8b1 : (t237 != 42) = true:=bne_iff_ne.mpr c8
     have H':=Aside0.mk H
     clear H
     go_wp2_with (first|((with_reducible refine gate_callee (f:=67) rfl ?_);refine goesL_ (some 11) rfl rfl Tryz.func67 (by kernel_rfl) rfl #[.pointer (some ⟨g,0,none⟩)] rfl (by (try simp only [List.map_toArray,List.map_cons,List.map_nil]);first|done|rfl|(simp only [List.length_drop,List.length_take];rfl)) ?_;(with_reducible refine (spec_reader_over.calls g s0_0 x1001_1 x1002_1 false t235 t236 w0 _ ?side1 ?side2 A3.out).mono ?_);(case side1 => repeat (first|(with_reducible first|exact HI0.out|apply sA|apply sB|apply sC|apply sD|apply sE)|exact HI0.out));(case side2 => repeat (first|(with_reducible first|exact HB.out|apply bA|apply bB|apply bC|refine bD ?_ (IsS115.ge HI0.out))|exact HB.out));rintro e w19 ⟨rfl,hi,hb,hk⟩;refine ⟨_,rfl,?_⟩;have n0_:=Aside0.mk (KeepBut.trans (by repeat (first|(with_reducible first|exact HK.out|apply kA|apply kB|apply kC|apply kD)|exact HK.out)) hk (.inl rfl));have n1_:=Aside0.mk (hb);have n2_:=Aside0.mk (hi);clear HK;clear HB;clear HI0;have HK:=n0_;have HB:=n1_;have HI0:=n2_;clear n0_ n1_ n2_;(try clear hb);(try clear hb2);(try clear hk);(try clear hi))|((with_reducible refine gate_callee (f:=104) rfl ?_);refine goesL_ (some 14) rfl rfl Tryz.func104 (by kernel_rfl) rfl #[.pointer (some ⟨g,0,none⟩),.int .i64 0] rfl (by (try simp only [List.map_toArray,List.map_cons,List.map_nil]);first|done|rfl|(simp only [List.length_drop,List.length_take];rfl)) ?_;(with_reducible refine (spec_reader_peek.calls g s0_0 t235 t236 0 t237 t238 t239 w0 _ ?side1 ?side2 A7.out).mono ?_);(case side1 => repeat (first|(with_reducible first|exact HI0.out|apply sA|apply sB|apply sC|apply sD|apply sE)|exact HI0.out));(case side2 => repeat (first|(with_reducible first|exact HB.out|apply bA|apply bB|apply bC|refine bD ?_ (IsS115.ge HI0.out))|exact HB.out));rintro e w20 ⟨rfl,hi,hb,hk⟩;refine ⟨_,rfl,?_⟩;have n0_:=Aside0.mk (KeepBut.trans (by repeat (first|(with_reducible first|exact HK.out|apply kA|apply kB|apply kC|apply kD)|exact HK.out)) hk (.inl rfl));have n1_:=Aside0.mk (hb);have n2_:=Aside0.mk (hi);clear HK;clear HB;clear HI0;have HK:=n0_;have HB:=n1_;have HI0:=n2_;clear n0_ n1_ n2_;(try clear hb);(try clear hb2);(try clear hk);(try clear hi);obtain ⟨ASz21_0,cSz21_0,HGz21,hgz21,HSz21_0⟩:=HI0.out;have hcz21_0:=cellS115_0 HGz21;have hcz21_1:=cellS115_1 HGz21;have hcz21_2:=cellS115_2 HGz21;have hfz21_1:=blk_frozen HGz21 1;have hfz21_2:=blk_frozen HGz21 2;clear HGz21 hgz21))
     go_roundg k1
     case measure => have:=HK1.out;omega
     case rel => exact ⟨(wrap64 (t238 + 1)),(t239),H',⟨by have:=HK1.out;omega⟩,⟨by repeat (first|(with_reducible first|exact HI0.out|apply sA|apply sB|apply sC|apply sD|apply sE)|exact HI0.out)⟩,⟨by repeat (first|(with_reducible first|exact HK.out|apply kA|apply kB|apply kC|apply kD)|exact HK.out)⟩,⟨by repeat (first|(with_reducible first|exact HB.out|apply bA|apply bB|apply bC|refine bD ?_ (IsS115.ge HI0.out))|exact HB.out)⟩⟩
mutual
def spec_reader_numbers.j0 : Nat → Int → Bool → List Int → Int → Bool → Option (Bool × Int × Bool)
 | 0,_,_,_,_,_ => none
 | k + 1,x3,x12,x1000,x1001,x1002 => if x12 = true then (spec_reader_numbers.j1 k 1 x1000 x1001 x1002) else (spec_reader_numbers.j1 k x3 x1000 x1001 x1002)
def spec_reader_numbers.j1 : Nat → Int → List Int → Int → Bool → Option (Bool × Int × Bool)
 | 0,_,_,_,_ => none
 | k + 1,x3,x1000,x1001,x1002 => (spec_reader_peek.f x1000 x1001 x1002 x3).bind fun bt246 => ((spec_isDigit.f bt246.1).bind fun t249 => (if t249 = true then (some (true,bt246.2.1,bt246.2.2)) else ((spec_reader_peek.f x1000 bt246.2.1 bt246.2.2 x3).bind fun bt250 => (if bt250.1 = 46 then ((spec_reader_peek.f x1000 bt250.2.1 bt250.2.2 (wrap64 (x3 + 1))).bind fun bt253 => ((spec_isDigit.f bt253.1).bind fun t256 => (some (t256,bt253.2.1,bt253.2.2)))) else (some (false,bt250.2.1,bt250.2.2))))))
end
def spec_reader_numbers.f (k : Nat) (s0_0 : List Int) (s0_1 : Int) (s0_2 : Bool) : Option (Bool × Int × Bool):=(spec_reader_peek.f s0_0 s0_1 s0_2 0).bind fun bt243 => (if bt243.1 = 43 then (spec_reader_numbers.j0 k 0 true s0_0 bt243.2.1 bt243.2.2) else (spec_reader_numbers.j0 k 0 (bt243.1 == 45) s0_0 bt243.2.1 bt243.2.2))
theorem spec_reader_numbers.calls (k : Nat) (g : Nat) (s0_0 : List Int) (s0_1 : Int) (s0_2 : Bool) (r1 : Bool) (r2 : Int) (r3 : Bool) (w0 w : World) (hI : IsS115 w0 w g s0_0 s0_1 s0_2) (hB : Below w0.heap.size w0 w) (h : spec_reader_numbers.f k s0_0 s0_1 s0_2 = some (r1,r2,r3)) :
  Calls Tryz.prog 109 #[.pointer (some ⟨g,0,none⟩)] w fun e w' => e = .returned (.bool r1) ∧ IsS115 w0 w' g s0_0 r2 r3 ∧ Below w0.heap.size w0 w' ∧ KeepBut w w' g none:=by
 have HI0:=Aside0.mk hI
 have HK:=Aside0.mk (KeepBut.refl w g none)
 have HL:=Aside0.mk hB.size
 clear hI
 have HW0:=Aside0.mk hB.size
 have HB:=Aside0.mk hB
 clear hB
 have H : ((spec_reader_peek.f s0_0 s0_1 s0_2 0).bind fun bt243 => (if bt243.1 = 43 then (spec_reader_numbers.j0 k 0 true s0_0 bt243.2.1 bt243.2.2) else (spec_reader_numbers.j0 k 0 (bt243.1 == 45) s0_0 bt243.2.1 bt243.2.2))) = some (r1,r2,r3):=h
 clear h
 replace H:=Option.bind_eq_some_iff.mp H
 obtain ⟨⟨t243,t244,t245⟩,A20,H⟩:=H
 replace H : (if t243 = 43 then (spec_reader_numbers.j0 k 0 true s0_0 t244 t245) else (spec_reader_numbers.j0 k 0 (t243 == 45) s0_0 t244 t245)) = some (r1,r2,r3):=H
 have A2:=Aside0.mk A20
 clear A20
 have HC3:=Aside0.mk H
 clear H
 go_enter Tryz.func109,Tryz.ntmps109
 go_upto_region 3 with (first|((with_reducible refine gate_callee (f:=104) rfl ?_);refine goesL_ (some 6) rfl rfl Tryz.func104 (by kernel_rfl) rfl #[.pointer (some ⟨g,0,none⟩),.int .i64 0] rfl (by (try simp only [List.map_toArray,List.map_cons,List.map_nil]);first|done|rfl|(simp only [List.length_drop,List.length_take];rfl)) ?_;(with_reducible refine (spec_reader_peek.calls g s0_0 s0_1 s0_2 0 t243 t244 t245 w0 _ ?side1 ?side2 A2.out).mono ?_);(case side1 => repeat (first|(with_reducible first|exact HI0.out|apply sA|apply sB|apply sC|apply sD|apply sE)|exact HI0.out));(case side2 => repeat (first|(with_reducible first|exact HB.out|apply bA|apply bB|apply bC|refine bD ?_ (IsS115.ge HI0.out))|exact HB.out));rintro e w4 ⟨rfl,hi,hb,hk⟩;refine ⟨_,rfl,?_⟩;have n0_:=Aside0.mk (KeepBut.trans (by repeat (first|(with_reducible first|exact HK.out|apply kA|apply kB|apply kC|apply kD)|exact HK.out)) hk (.inl rfl));have n1_:=Aside0.mk (hb);have n2_:=Aside0.mk (hi);clear HK;clear HB;clear HI0;have HK:=n0_;have HB:=n1_;have HI0:=n2_;clear n0_ n1_ n2_;(try clear hb);(try clear hb2);(try clear hk);(try clear hi)))
 (try simp only [Act.put,List.setIfInBounds_toArray,List.set_cons_zero,List.set_cons_succ])
 go_cut [12] (fun v12 wc => ∃ (kq : Nat) (x12_2 : Bool),v12 = .bool x12_2 ∧ Aside0 (spec_reader_numbers.j0 kq 0 x12_2 s0_0 t244 t245 = some (r1,r2,r3)) ∧ Aside0 (kq ≤ k) ∧ Aside0 (IsS115 w0 wc g s0_0 t244 t245) ∧ Aside0 (KeepBut w wc g none) ∧ Aside0 (Below w0.heap.size w0 wc))
 case first =>
  have H:=HC3.out
  clear HC3
  by_cases c5 : t243 = 43
  ·rw [if_pos c5] at H
   have c5b0 : (t243 == 43) = true:=beq_iff_eq.mpr c5
   have c5b1 : (t243 != 43) = false:=bne_eq_false_iff_eq.mpr c5
   clear c5
   (first|rw [c5b0]|(simp only [i64_w,i32_w];rw [c5b0])|skip)
   have H':=Aside0.mk H
   clear H
   go_wp2
   go_meet
   case rel => exact ⟨_,(true),(by first|rfl|(simp;done)|(simp [*];done)),H',⟨by first|omega|exact Nat.le_refl _⟩,⟨by repeat (first|(with_reducible first|exact HI0.out|apply sA|apply sB|apply sC|apply sD|apply sE)|exact HI0.out)⟩,⟨by repeat (first|(with_reducible first|exact HK.out|apply kA|apply kB|apply kC|apply kD)|exact HK.out)⟩,⟨by repeat (first|(with_reducible first|exact HB.out|apply bA|apply bB|apply bC|refine bD ?_ (IsS115.ge HI0.out))|exact HB.out)⟩⟩
  ·rw [if_neg c5] at H
   have c5b0 : (t243 == 43) = false:=beq_eq_false_iff_ne.mpr c5
   have c5b1 : (t243 != 43) = true:=bne_iff_ne.mpr c5
   (first|rw [c5b0]|(simp only [i64_w,i32_w];rw [c5b0])|skip)
   have H':=Aside0.mk H
   clear H
   go_wp2
   go_meet
   case rel => exact ⟨_,((t243 == 45)),(by first|rfl|(simp;done)|(simp [*];done)),H',⟨by first|omega|exact Nat.le_refl _⟩,⟨by repeat (first|(with_reducible first|exact HI0.out|apply sA|apply sB|apply sC|apply sD|apply sE)|exact HI0.out)⟩,⟨by repeat (first|(with_reducible first|exact HK.out|apply kA|apply kB|apply kC|apply kD)|exact HK.out)⟩,⟨by repeat (first|(with_reducible first|exact HB.out|apply bA|apply bB|apply bC|refine bD ?_ (IsS115.ge HI0.out))|exact HB.out)⟩⟩
 case rest =>
  clear HC3
  try clear c1
  try clear p2
  try clear c5
  try clear c5b0
  try clear c5b1
  obtain ⟨kq,x12_2,rfl,HA,HJ2,HI0,HK,HB⟩:=hcut
  cases kq with
  | zero => exact absurd HA.out (by simp [spec_reader_numbers.j0])
  | succ kj2 =>
   have H:=HA.out
   clear HA
   simp only [spec_reader_numbers.j0] at H
   have HC6:=Aside0.mk H
   clear H
   go_upto_if 12 with (fail)
   go_cut [3] (fun v3 wc => ∃ (kq : Nat) (x3_5 : Int),v3 = .int .i64 x3_5 ∧ Aside0 (spec_reader_numbers.j1 kq x3_5 s0_0 t244 t245 = some (r1,r2,r3)) ∧ Aside0 (kq ≤ kj2) ∧ Aside0 (IsS115 w0 wc g s0_0 t244 t245) ∧ Aside0 (KeepBut w wc g none) ∧ Aside0 (Below w0.heap.size w0 wc))
   case first =>
    have H:=HC6.out
    clear HC6
    by_cases c7 : x12_2 = true
    ·subst c7
     have H1 : (spec_reader_numbers.j1 kj2 1 s0_0 t244 t245) = some (r1,r2,r3):=by rw [if_pos rfl] at H;exact H
     clear H
     have H:=H1
     clear H1
     have H':=Aside0.mk H
     clear H
     go_wp2
     go_meet
     case rel => exact ⟨_,(1),(by first|rfl|(simp;done)|(simp [*];done)),H',⟨by have:=HJ2.out;first|omega|exact Nat.le_refl _⟩,⟨by repeat (first|(with_reducible first|exact HI0.out|apply sA|apply sB|apply sC|apply sD|apply sE)|exact HI0.out)⟩,⟨by repeat (first|(with_reducible first|exact HK.out|apply kA|apply kB|apply kC|apply kD)|exact HK.out)⟩,⟨by repeat (first|(with_reducible first|exact HB.out|apply bA|apply bB|apply bC|refine bD ?_ (IsS115.ge HI0.out))|exact HB.out)⟩⟩
    ·replace c7:=Bool.eq_false_iff.mpr c7
     subst c7
     have H1 : (spec_reader_numbers.j1 kj2 0 s0_0 t244 t245) = some (r1,r2,r3):=by rw [if_neg (show ¬ (false = true) by decide)] at H;exact H
     clear H
     have H:=H1
     clear H1
     have H':=Aside0.mk H
     clear H
     go_wp2
     go_meet
     case rel => exact ⟨_,(0),(by first|rfl|(simp;done)|(simp [*];done)),H',⟨by have:=HJ2.out;first|omega|exact Nat.le_refl _⟩,⟨by repeat (first|(with_reducible first|exact HI0.out|apply sA|apply sB|apply sC|apply sD|apply sE)|exact HI0.out)⟩,⟨by repeat (first|(with_reducible first|exact HK.out|apply kA|apply kB|apply kC|apply kD)|exact HK.out)⟩,⟨by repeat (first|(with_reducible first|exact HB.out|apply bA|apply bB|apply bC|refine bD ?_ (IsS115.ge HI0.out))|exact HB.out)⟩⟩
   case rest =>
    clear HC6
    try clear c1
    try clear p2
    try clear c5
    try clear c5b0
    try clear c5b1
    try clear c7
    try clear p2
    obtain ⟨kq,x3_5,rfl,HA,HJ5,HI0,HK,HB⟩:=hcut
    cases kq with
    | zero => exact absurd HA.out (by simp [spec_reader_numbers.j1])
    | succ kj5 =>
     have H:=HA.out
     clear HA
     simp only [spec_reader_numbers.j1] at H
     replace H:=Option.bind_eq_some_iff.mp H
     obtain ⟨⟨t246,t247,t248⟩,A80,H⟩:=H
     replace H : ((spec_isDigit.f t246).bind fun t249 => (if t249 = true then (some (true,t247,t248)) else ((spec_reader_peek.f s0_0 t247 t248 x3_5).bind fun bt250 => (if bt250.1 = 46 then ((spec_reader_peek.f s0_0 bt250.2.1 bt250.2.2 (wrap64 (x3_5 + 1))).bind fun bt253 => ((spec_isDigit.f bt253.1).bind fun t256 => (some (t256,bt253.2.1,bt253.2.2)))) else (some (false,bt250.2.1,bt250.2.2)))))) = some (r1,r2,r3):=H
     have A8:=Aside0.mk A80
     clear A80
     replace H:=Option.bind_eq_some_iff.mp H
     obtain ⟨t249,A90,H⟩:=H
     replace H : (if t249 = true then (some (true,t247,t248)) else ((spec_reader_peek.f s0_0 t247 t248 x3_5).bind fun bt250 => (if bt250.1 = 46 then ((spec_reader_peek.f s0_0 bt250.2.1 bt250.2.2 (wrap64 (x3_5 + 1))).bind fun bt253 => ((spec_isDigit.f bt253.1).bind fun t256 => (some (t256,bt253.2.1,bt253.2.2)))) else (some (false,bt250.2.1,bt250.2.2))))) = some (r1,r2,r3):=H
     have A9:=Aside0.mk A90
     clear A90
     by_cases c10 : t249 = true
     ·subst c10
      have H1 : (some (true,t247,t248)) = some (r1,r2,r3):=by rw [if_pos rfl] at H;exact H
      clear H
      have H:=H1
      clear H1
      simp only [Option.some.injEq,Prod.mk.injEq] at H
      obtain ⟨rfl,rfl,rfl⟩:=H
      go_wp2_with (first|((with_reducible refine gate_callee (f:=104) rfl ?_);refine goesL_ (some 15) rfl rfl Tryz.func104 (by kernel_rfl) rfl #[.pointer (some ⟨g,0,none⟩),.int .i64 x3_5] rfl (by (try simp only [List.map_toArray,List.map_cons,List.map_nil]);first|done|rfl|(simp only [List.length_drop,List.length_take];rfl)) ?_;(with_reducible refine (spec_reader_peek.calls g s0_0 t244 t245 x3_5 t246 t247 t248 w0 _ ?side1 ?side2 A8.out).mono ?_);(case side1 => repeat (first|(with_reducible first|exact HI0.out|apply sA|apply sB|apply sC|apply sD|apply sE)|exact HI0.out));(case side2 => repeat (first|(with_reducible first|exact HB.out|apply bA|apply bB|apply bC|refine bD ?_ (IsS115.ge HI0.out))|exact HB.out));rintro e w11 ⟨rfl,hi,hb,hk⟩;refine ⟨_,rfl,?_⟩;have n0_:=Aside0.mk (KeepBut.trans (by repeat (first|(with_reducible first|exact HK.out|apply kA|apply kB|apply kC|apply kD)|exact HK.out)) hk (.inl rfl));have n1_:=Aside0.mk (hb);have n2_:=Aside0.mk (hi);clear HK;clear HB;clear HI0;have HK:=n0_;have HB:=n1_;have HI0:=n2_;clear n0_ n1_ n2_;(try clear hb);(try clear hb2);(try clear hk);(try clear hi))|((with_reducible refine gate_callee (f:=137) rfl ?_);refine goesL_ (some 16) rfl rfl Tryz.func137 (by kernel_rfl) rfl #[.int .u8 t246] rfl (by (try simp only [List.map_toArray,List.map_cons,List.map_nil]);first|done|rfl|(simp only [List.length_drop,List.length_take];rfl)) ?_;(with_reducible refine (spec_isDigit.calls t246 true _ A9.out).mono ?_);rintro e w' ⟨rfl,⟨nd,rfl⟩⟩;refine ⟨_,rfl,?_⟩))
      go_ret
      exact ⟨by first|rfl|(simp [errW_none,errW_some] <;> rfl)|(simp [*,errW_none,errW_some] <;> rfl),by repeat (first|(with_reducible first|exact HI0.out|apply sA|apply sB|apply sC|apply sD|apply sE)|exact HI0.out),by repeat (first|(with_reducible first|exact HB.out|apply bA|apply bB|apply bC|refine bD ?_ (IsS115.ge HI0.out))|exact HB.out),by repeat (first|(with_reducible first|exact HK.out|apply kA|apply kB|apply kC|apply kD)|exact HK.out)⟩
     ·replace c10:=Bool.eq_false_iff.mpr c10
      subst c10
      have H1 : ((spec_reader_peek.f s0_0 t247 t248 x3_5).bind fun bt250 => (if bt250.1 = 46 then ((spec_reader_peek.f s0_0 bt250.2.1 bt250.2.2 (wrap64 (x3_5 + 1))).bind fun bt253 => ((spec_isDigit.f bt253.1).bind fun t256 => (some (t256,bt253.2.1,bt253.2.2)))) else (some (false,bt250.2.1,bt250.2.2)))) = some (r1,r2,r3):=by rw [if_neg (show ¬ (false = true) by decide)] at H;exact H
      clear H
      have H:=H1
      clear H1
      replace H:=Option.bind_eq_some_iff.mp H
      obtain ⟨⟨t250,t251,t252⟩,A120,H⟩:=H
      replace H : (if t250 = 46 then ((spec_reader_peek.f s0_0 t251 t252 (wrap64 (x3_5 + 1))).bind fun bt253 => ((spec_isDigit.f bt253.1).bind fun t256 => (some (t256,bt253.2.1,bt253.2.2)))) else (some (false,t251,t252))) = some (r1,r2,r3):=H
      have A12:=Aside0.mk A120
      clear A120
      by_cases c13 : t250 = 46
      ·rw [if_pos c13] at H
       have c13b0 : (t250 == 46) = true:=beq_iff_eq.mpr c13
       have c13b1 : (t250 != 46) = false:=bne_eq_false_iff_eq.mpr c13
       clear c13
       replace H:=Option.bind_eq_some_iff.mp H
       obtain ⟨⟨t253,t254,t255⟩,A140,H⟩:=H
       replace H : ((spec_isDigit.f t253).bind fun t256 => (some (t256,t254,t255))) = some (r1,r2,r3):=H
       have A14:=Aside0.mk A140
       clear A140
       replace H:=Option.bind_eq_some_iff.mp H
       obtain ⟨t256,A150,H⟩:=H
       replace H : (some (t256,t254,t255)) = some (r1,r2,r3):=H
       have A15:=Aside0.mk A150
       clear A150
       simp only [Option.some.injEq,Prod.mk.injEq] at H
       obtain ⟨rfl,rfl,rfl⟩:=H
       go_wp2_with (first|((with_reducible refine gate_callee (f:=104) rfl ?_);refine goesL_ (some 15) rfl rfl Tryz.func104 (by kernel_rfl) rfl #[.pointer (some ⟨g,0,none⟩),.int .i64 x3_5] rfl (by (try simp only [List.map_toArray,List.map_cons,List.map_nil]);first|done|rfl|(simp only [List.length_drop,List.length_take];rfl)) ?_;(with_reducible refine (spec_reader_peek.calls g s0_0 t244 t245 x3_5 t246 t247 t248 w0 _ ?side1 ?side2 A8.out).mono ?_);(case side1 => repeat (first|(with_reducible first|exact HI0.out|apply sA|apply sB|apply sC|apply sD|apply sE)|exact HI0.out));(case side2 => repeat (first|(with_reducible first|exact HB.out|apply bA|apply bB|apply bC|refine bD ?_ (IsS115.ge HI0.out))|exact HB.out));rintro e w16 ⟨rfl,hi,hb,hk⟩;refine ⟨_,rfl,?_⟩;have n0_:=Aside0.mk (KeepBut.trans (by repeat (first|(with_reducible first|exact HK.out|apply kA|apply kB|apply kC|apply kD)|exact HK.out)) hk (.inl rfl));have n1_:=Aside0.mk (hb);have n2_:=Aside0.mk (hi);clear HK;clear HB;clear HI0;have HK:=n0_;have HB:=n1_;have HI0:=n2_;clear n0_ n1_ n2_;(try clear hb);(try clear hb2);(try clear hk);(try clear hi))|((with_reducible refine gate_callee (f:=137) rfl ?_);refine goesL_ (some 16) rfl rfl Tryz.func137 (by kernel_rfl) rfl #[.int .u8 t246] rfl (by (try simp only [List.map_toArray,List.map_cons,List.map_nil]);first|done|rfl|(simp only [List.length_drop,List.length_take];rfl)) ?_;(with_reducible refine (spec_isDigit.calls t246 false _ A9.out).mono ?_);rintro e w' ⟨rfl,⟨nd,rfl⟩⟩;refine ⟨_,rfl,?_⟩)|(go_at_call 104;(with_reducible refine (spec_reader_peek.calls g s0_0 t247 t248 x3_5 t250 t251 t252 w0 _ ?side1 ?side2 A12.out).mono ?_);(case side1 => repeat (first|(with_reducible first|exact HI0.out|apply sA|apply sB|apply sC|apply sD|apply sE)|exact HI0.out));(case side2 => repeat (first|(with_reducible first|exact HB.out|apply bA|apply bB|apply bC|refine bD ?_ (IsS115.ge HI0.out))|exact HB.out));rintro e w17 ⟨rfl,hi,hb,hk⟩;have n0_:=Aside0.mk (KeepBut.trans (by repeat (first|(with_reducible first|exact HK.out|apply kA|apply kB|apply kC|apply kD)|exact HK.out)) hk (.inl rfl));have n1_:=Aside0.mk (hb);have n2_:=Aside0.mk (hi);clear HK;clear HB;clear HI0;have HK:=n0_;have HB:=n1_;have HI0:=n2_;clear n0_ n1_ n2_;(try clear hb);(try clear hb2);(try clear hk);(try clear hi))|(go_at_call 104;(with_reducible refine (spec_reader_peek.calls g s0_0 t251 t252 (wrap64 (x3_5 + 1)) t253 t254 t255 w0 _ ?side1 ?side2 A14.out).mono ?_);(case side1 => repeat (first|(with_reducible first|exact HI0.out|apply sA|apply sB|apply sC|apply sD|apply sE)|exact HI0.out));(case side2 => repeat (first|(with_reducible first|exact HB.out|apply bA|apply bB|apply bC|refine bD ?_ (IsS115.ge HI0.out))|exact HB.out));rintro e w18 ⟨rfl,hi,hb,hk⟩;have n0_:=Aside0.mk (KeepBut.trans (by repeat (first|(with_reducible first|exact HK.out|apply kA|apply kB|apply kC|apply kD)|exact HK.out)) hk (.inl rfl));have n1_:=Aside0.mk (hb);have n2_:=Aside0.mk (hi);clear HK;clear HB;clear HI0;have HK:=n0_;have HB:=n1_;have HI0:=n2_;clear n0_ n1_ n2_;(try clear hb);(try clear hb2);(try clear hk);(try clear hi))|(go_at_call 137;(with_reducible refine (spec_isDigit.calls t253 t256 _ A15.out).mono ?_);rintro e w' ⟨rfl,⟨nd,rfl⟩⟩))
       go_ret
       exact ⟨by first|rfl|(simp [errW_none,errW_some] <;> rfl)|(simp [*,errW_none,errW_some] <;> rfl),by repeat (first|(with_reducible first|exact HI0.out|apply sA|apply sB|apply sC|apply sD|apply sE)|exact HI0.out),by repeat (first|(with_reducible first|exact HB.out|apply bA|apply bB|apply bC|refine bD ?_ (IsS115.ge HI0.out))|exact HB.out),by repeat (first|(with_reducible first|exact HK.out|apply kA|apply kB|apply kC|apply kD)|exact HK.out)⟩
      ·rw [if_neg c13] at H
       have c13b0 : (t250 == 46) = false:=beq_eq_false_iff_ne.mpr c13
       have c13b1 : (t250 != 46) = true:=bne_iff_ne.mpr c13
       simp only [Option.some.injEq,Prod.mk.injEq] at H
       obtain ⟨rfl,rfl,rfl⟩:=H
       go_wp2_with (first|((with_reducible refine gate_callee (f:=104) rfl ?_);refine goesL_ (some 15) rfl rfl Tryz.func104 (by kernel_rfl) rfl #[.pointer (some ⟨g,0,none⟩),.int .i64 x3_5] rfl (by (try simp only [List.map_toArray,List.map_cons,List.map_nil]);first|done|rfl|(simp only [List.length_drop,List.length_take];rfl)) ?_;(with_reducible refine (spec_reader_peek.calls g s0_0 t244 t245 x3_5 t246 t247 t248 w0 _ ?side1 ?side2 A8.out).mono ?_);(case side1 => repeat (first|(with_reducible first|exact HI0.out|apply sA|apply sB|apply sC|apply sD|apply sE)|exact HI0.out));(case side2 => repeat (first|(with_reducible first|exact HB.out|apply bA|apply bB|apply bC|refine bD ?_ (IsS115.ge HI0.out))|exact HB.out));rintro e w19 ⟨rfl,hi,hb,hk⟩;refine ⟨_,rfl,?_⟩;have n0_:=Aside0.mk (KeepBut.trans (by repeat (first|(with_reducible first|exact HK.out|apply kA|apply kB|apply kC|apply kD)|exact HK.out)) hk (.inl rfl));have n1_:=Aside0.mk (hb);have n2_:=Aside0.mk (hi);clear HK;clear HB;clear HI0;have HK:=n0_;have HB:=n1_;have HI0:=n2_;clear n0_ n1_ n2_;(try clear hb);(try clear hb2);(try clear hk);(try clear hi))|((with_reducible refine gate_callee (f:=137) rfl ?_);refine goesL_ (some 16) rfl rfl Tryz.func137 (by kernel_rfl) rfl #[.int .u8 t246] rfl (by (try simp only [List.map_toArray,List.map_cons,List.map_nil]);first|done|rfl|(simp only [List.length_drop,List.length_take];rfl)) ?_;(with_reducible refine (spec_isDigit.calls t246 false _ A9.out).mono ?_);rintro e w' ⟨rfl,⟨nd,rfl⟩⟩;refine ⟨_,rfl,?_⟩)|(go_at_call 104;(with_reducible refine (spec_reader_peek.calls g s0_0 t247 t248 x3_5 t250 t251 t252 w0 _ ?side1 ?side2 A12.out).mono ?_);(case side1 => repeat (first|(with_reducible first|exact HI0.out|apply sA|apply sB|apply sC|apply sD|apply sE)|exact HI0.out));(case side2 => repeat (first|(with_reducible first|exact HB.out|apply bA|apply bB|apply bC|refine bD ?_ (IsS115.ge HI0.out))|exact HB.out));rintro e w20 ⟨rfl,hi,hb,hk⟩;have n0_:=Aside0.mk (KeepBut.trans (by repeat (first|(with_reducible first|exact HK.out|apply kA|apply kB|apply kC|apply kD)|exact HK.out)) hk (.inl rfl));have n1_:=Aside0.mk (hb);have n2_:=Aside0.mk (hi);clear HK;clear HB;clear HI0;have HK:=n0_;have HB:=n1_;have HI0:=n2_;clear n0_ n1_ n2_;(try clear hb);(try clear hb2);(try clear hk);(try clear hi)))
       go_ret
       exact ⟨by first|rfl|(simp [errW_none,errW_some] <;> rfl)|(simp [*,errW_none,errW_some] <;> rfl),by repeat (first|(with_reducible first|exact HI0.out|apply sA|apply sB|apply sC|apply sD|apply sE)|exact HI0.out),by repeat (first|(with_reducible first|exact HB.out|apply bA|apply bB|apply bC|refine bD ?_ (IsS115.ge HI0.out))|exact HB.out),by repeat (first|(with_reducible first|exact HK.out|apply kA|apply kB|apply kC|apply kD)|exact HK.out)⟩
def spec_isLetter.f (a0 : Int) : Option (Bool):=if a0 ≥ 97 then (if a0 ≤ 122 then (some true) else (if a0 ≥ 65 then (some (decide (a0 ≤ 90))) else (some false))) else (if a0 ≥ 65 then (some (decide (a0 ≤ 90))) else (some false))
theorem spec_isLetter.calls (a0 : Int) (r : Bool) (w : World) (h : spec_isLetter.f a0 = some r) :
  Calls Tryz.prog 52 #[.int .u8 a0] w fun e w' => e = .returned (.bool r) ∧ Drawn0 w w':=by
 have H : (if a0 ≥ 97 then (if a0 ≤ 122 then (some true) else (if a0 ≥ 65 then (some (decide (a0 ≤ 90))) else (some false))) else (if a0 ≥ 65 then (some (decide (a0 ≤ 90))) else (some false))) = some r:=h
 clear h
 by_cases c2 : a0 ≥ 97
 ·rw [if_pos c2] at H
  have c2b0 : decide (97 ≤ a0) = true:=decide_eq_true c2
  clear c2
  by_cases c3 : a0 ≤ 122
  ·rw [if_pos c3] at H
   have c3b0 : decide (a0 ≤ 122) = true:=decide_eq_true c3
   clear c3
   obtain rfl:=Option.some.inj H
   go_enter Tryz.func52,Tryz.ntmps52
   go_wp2
   go_ret
   exact ⟨by first|rfl|(simp;done)|(simp [*];done),by repeat (first|exact Drawn0.refl _|apply Drawn0.step)⟩
  ·rw [if_neg c3] at H
   have c3b0 : decide (a0 ≤ 122) = false:=decide_eq_false c3
   clear c3
   by_cases c4 : a0 ≥ 65
   ·rw [if_pos c4] at H
    have c4b0 : decide (65 ≤ a0) = true:=decide_eq_true c4
    clear c4
    obtain rfl:=Option.some.inj H
    go_enter Tryz.func52,Tryz.ntmps52
    go_wp2
    go_ret
    exact ⟨by first|rfl|(simp;done)|(simp [*];done),by repeat (first|exact Drawn0.refl _|apply Drawn0.step)⟩
   ·rw [if_neg c4] at H
    have c4b0 : decide (65 ≤ a0) = false:=decide_eq_false c4
    clear c4
    obtain rfl:=Option.some.inj H
    go_enter Tryz.func52,Tryz.ntmps52
    go_wp2
    go_ret
    exact ⟨by first|rfl|(simp;done)|(simp [*];done),by repeat (first|exact Drawn0.refl _|apply Drawn0.step)⟩
 ·rw [if_neg c2] at H
  have c2b0 : decide (97 ≤ a0) = false:=decide_eq_false c2
  clear c2
  by_cases c5 : a0 ≥ 65
  ·rw [if_pos c5] at H
   have c5b0 : decide (65 ≤ a0) = true:=decide_eq_true c5
   clear c5
   obtain rfl:=Option.some.inj H
   go_enter Tryz.func52,Tryz.ntmps52
   go_wp2
   go_ret
   exact ⟨by first|rfl|(simp;done)|(simp [*];done),by repeat (first|exact Drawn0.refl _|apply Drawn0.step)⟩
  ·rw [if_neg c5] at H
   have c5b0 : decide (65 ≤ a0) = false:=decide_eq_false c5
   clear c5
   obtain rfl:=Option.some.inj H
   go_enter Tryz.func52,Tryz.ntmps52
   go_wp2
   go_ret
   exact ⟨by first|rfl|(simp;done)|(simp [*];done),by repeat (first|exact Drawn0.refl _|apply Drawn0.step)⟩
def spec_isStart.f (a0 : Int) : Option (Bool):=(spec_isLetter.f a0).bind fun t257 => (if t257 = true then (some true) else (if a0 = 95 then (some true) else (some (decide (a0 ≥ 128)))))
theorem spec_isStart.calls (a0 : Int) (r : Bool) (w : World) (h : spec_isStart.f a0 = some r) :
  Calls Tryz.prog 32 #[.int .u8 a0] w fun e w' => e = .returned (.bool r) ∧ Drawn0 w w':=by
 have H : ((spec_isLetter.f a0).bind fun t257 => (if t257 = true then (some true) else (if a0 = 95 then (some true) else (some (decide (a0 ≥ 128)))))) = some r:=h
 clear h
 replace H:=Option.bind_eq_some_iff.mp H
 obtain ⟨t257,A20,H⟩:=H
 replace H : (if t257 = true then (some true) else (if a0 = 95 then (some true) else (some (decide (a0 ≥ 128))))) = some r:=H
 have A2:=Aside0.mk A20
 clear A20
 by_cases c3 : t257 = true
 ·subst c3
  have H1 : (some true) = some r:=by rw [if_pos rfl] at H;exact H
  clear H
  have H:=H1
  clear H1
  obtain rfl:=Option.some.inj H
  go_enter Tryz.func32,Tryz.ntmps32
  go_wp2_with (first|((with_reducible refine gate_callee (f:=52) rfl ?_);refine goesL_ (some 4) rfl rfl Tryz.func52 (by kernel_rfl) rfl #[.int .u8 a0] rfl (by (try simp only [List.map_toArray,List.map_cons,List.map_nil]);first|done|rfl|(simp only [List.length_drop,List.length_take];rfl)) ?_;(with_reducible refine (spec_isLetter.calls a0 true _ A2.out).mono ?_);rintro e w' ⟨rfl,⟨nd,rfl⟩⟩;refine ⟨_,rfl,?_⟩))
  go_ret
  exact ⟨by first|rfl|(simp;done)|(simp [*];done),by repeat (first|exact Drawn0.refl _|apply Drawn0.step)⟩
 ·replace c3:=Bool.eq_false_iff.mpr c3
  subst c3
  have H1 : (if a0 = 95 then (some true) else (some (decide (a0 ≥ 128)))) = some r:=by rw [if_neg (show ¬ (false = true) by decide)] at H;exact H
  clear H
  have H:=H1
  clear H1
  by_cases c4 : a0 = 95
  ·rw [if_pos c4] at H
   have c4b0 : (a0 == 95) = true:=beq_iff_eq.mpr c4
   have c4b1 : (a0 != 95) = false:=bne_eq_false_iff_eq.mpr c4
   clear c4
   obtain rfl:=Option.some.inj H
   go_enter Tryz.func32,Tryz.ntmps32
   go_wp2_with (first|((with_reducible refine gate_callee (f:=52) rfl ?_);refine goesL_ (some 4) rfl rfl Tryz.func52 (by kernel_rfl) rfl #[.int .u8 a0] rfl (by (try simp only [List.map_toArray,List.map_cons,List.map_nil]);first|done|rfl|(simp only [List.length_drop,List.length_take];rfl)) ?_;(with_reducible refine (spec_isLetter.calls a0 false _ A2.out).mono ?_);rintro e w' ⟨rfl,⟨nd,rfl⟩⟩;refine ⟨_,rfl,?_⟩))
   go_ret
   exact ⟨by first|rfl|(simp;done)|(simp [*];done),by repeat (first|exact Drawn0.refl _|apply Drawn0.step)⟩
  ·rw [if_neg c4] at H
   have c4b0 : (a0 == 95) = false:=beq_eq_false_iff_ne.mpr c4
   have c4b1 : (a0 != 95) = true:=bne_iff_ne.mpr c4
   obtain rfl:=Option.some.inj H
   go_enter Tryz.func32,Tryz.ntmps32
   go_wp2_with (first|((with_reducible refine gate_callee (f:=52) rfl ?_);refine goesL_ (some 4) rfl rfl Tryz.func52 (by kernel_rfl) rfl #[.int .u8 a0] rfl (by (try simp only [List.map_toArray,List.map_cons,List.map_nil]);first|done|rfl|(simp only [List.length_drop,List.length_take];rfl)) ?_;(with_reducible refine (spec_isLetter.calls a0 false _ A2.out).mono ?_);rintro e w' ⟨rfl,⟨nd,rfl⟩⟩;refine ⟨_,rfl,?_⟩))
   go_ret
   exact ⟨by first|rfl|(simp;done)|(simp [*];done),by repeat (first|exact Drawn0.refl _|apply Drawn0.step)⟩
def spec_reader_identifies.j0 : Nat → Int → List Int → Int → Bool → Option (Bool × Int × Bool)
 | 0,_,_,_,_ => none
 | k + 1,x1,x1000,x1001,x1002 => (spec_reader_peek.f x1000 x1001 x1002 (wrap64 (x1 + 1))).bind fun bt264 => ((spec_isStart.f bt264.1).bind fun t267 => (if t267 = true then (some (true,bt264.2.1,bt264.2.2)) else ((spec_reader_escapes.f x1000 bt264.2.1 bt264.2.2 (wrap64 (x1 + 1))).bind fun bt268 => (some (bt268.1,bt268.2.1,bt268.2.2)))))
def spec_reader_identifies.f (k : Nat) (s0_0 : List Int) (s0_1 : Int) (s0_2 : Bool) (a1 : Int) : Option (Bool × Int × Bool):=(spec_reader_peek.f s0_0 s0_1 s0_2 a1).bind fun bt258 => (if bt258.1 = 45 then ((spec_reader_peek.f s0_0 bt258.2.1 bt258.2.2 (wrap64 (a1 + 1))).bind fun bt261 => (if bt261.1 = 45 then (spec_reader_identifies.j0 k a1 s0_0 bt261.2.1 true) else (spec_reader_identifies.j0 k a1 s0_0 bt261.2.1 bt261.2.2))) else ((spec_isStart.f bt258.1).bind fun t271 => (if t271 = true then (some (true,bt258.2.1,bt258.2.2)) else ((spec_reader_escapes.f s0_0 bt258.2.1 bt258.2.2 a1).bind fun bt272 => (some (bt272.1,bt272.2.1,bt272.2.2))))))
theorem spec_reader_identifies.calls (k : Nat) (g : Nat) (s0_0 : List Int) (s0_1 : Int) (s0_2 : Bool) (a1 : Int) (r1 : Bool) (r2 : Int) (r3 : Bool) (w0 w : World) (hI : IsS115 w0 w g s0_0 s0_1 s0_2) (hB : Below w0.heap.size w0 w) (h : spec_reader_identifies.f k s0_0 s0_1 s0_2 a1 = some (r1,r2,r3)) :
  Calls Tryz.prog 113 #[.pointer (some ⟨g,0,none⟩),.int .i64 a1] w fun e w' => e = .returned (.bool r1) ∧ IsS115 w0 w' g s0_0 r2 r3 ∧ Below w0.heap.size w0 w' ∧ KeepBut w w' g none:=by
 have HI0:=Aside0.mk hI
 have HK:=Aside0.mk (KeepBut.refl w g none)
 have HL:=Aside0.mk hB.size
 clear hI
 have HW0:=Aside0.mk hB.size
 have HB:=Aside0.mk hB
 clear hB
 have H : ((spec_reader_peek.f s0_0 s0_1 s0_2 a1).bind fun bt258 => (if bt258.1 = 45 then ((spec_reader_peek.f s0_0 bt258.2.1 bt258.2.2 (wrap64 (a1 + 1))).bind fun bt261 => (if bt261.1 = 45 then (spec_reader_identifies.j0 k a1 s0_0 bt261.2.1 true) else (spec_reader_identifies.j0 k a1 s0_0 bt261.2.1 bt261.2.2))) else ((spec_isStart.f bt258.1).bind fun t271 => (if t271 = true then (some (true,bt258.2.1,bt258.2.2)) else ((spec_reader_escapes.f s0_0 bt258.2.1 bt258.2.2 a1).bind fun bt272 => (some (bt272.1,bt272.2.1,bt272.2.2))))))) = some (r1,r2,r3):=h
 clear h
 replace H:=Option.bind_eq_some_iff.mp H
 obtain ⟨⟨t258,t259,t260⟩,A30,H⟩:=H
 replace H : (if t258 = 45 then ((spec_reader_peek.f s0_0 t259 t260 (wrap64 (a1 + 1))).bind fun bt261 => (if bt261.1 = 45 then (spec_reader_identifies.j0 k a1 s0_0 bt261.2.1 true) else (spec_reader_identifies.j0 k a1 s0_0 bt261.2.1 bt261.2.2))) else ((spec_isStart.f t258).bind fun t271 => (if t271 = true then (some (true,t259,t260)) else ((spec_reader_escapes.f s0_0 t259 t260 a1).bind fun bt272 => (some (bt272.1,bt272.2.1,bt272.2.2)))))) = some (r1,r2,r3):=H
 have A3:=Aside0.mk A30
 clear A30
 by_cases c4 : t258 = 45
 ·rw [if_pos c4] at H
  have c4b0 : (t258 == 45) = true:=beq_iff_eq.mpr c4
  have c4b1 : (t258 != 45) = false:=bne_eq_false_iff_eq.mpr c4
  clear c4
  replace H:=Option.bind_eq_some_iff.mp H
  obtain ⟨⟨t261,t262,t263⟩,A50,H⟩:=H
  replace H : (if t261 = 45 then (spec_reader_identifies.j0 k a1 s0_0 t262 true) else (spec_reader_identifies.j0 k a1 s0_0 t262 t263)) = some (r1,r2,r3):=H
  have A5:=Aside0.mk A50
  clear A50
  have HC6:=Aside0.mk H
  clear H
  go_enter Tryz.func113,Tryz.ntmps113
  go_upto_if 15 with (first|((with_reducible refine gate_callee (f:=104) rfl ?_);refine goesL_ (some 8) rfl rfl Tryz.func104 (by kernel_rfl) rfl #[.pointer (some ⟨g,0,none⟩),.int .i64 a1] rfl (by (try simp only [List.map_toArray,List.map_cons,List.map_nil]);first|done|rfl|(simp only [List.length_drop,List.length_take];rfl)) ?_;(with_reducible refine (spec_reader_peek.calls g s0_0 s0_1 s0_2 a1 t258 t259 t260 w0 _ ?side1 ?side2 A3.out).mono ?_);(case side1 => repeat (first|(with_reducible first|exact HI0.out|apply sA|apply sB|apply sC|apply sD|apply sE)|exact HI0.out));(case side2 => repeat (first|(with_reducible first|exact HB.out|apply bA|apply bB|apply bC|refine bD ?_ (IsS115.ge HI0.out))|exact HB.out));rintro e w7 ⟨rfl,hi,hb,hk⟩;refine ⟨_,rfl,?_⟩;have n0_:=Aside0.mk (KeepBut.trans (by repeat (first|(with_reducible first|exact HK.out|apply kA|apply kB|apply kC|apply kD)|exact HK.out)) hk (.inl rfl));have n1_:=Aside0.mk (hb);have n2_:=Aside0.mk (hi);clear HK;clear HB;clear HI0;have HK:=n0_;have HB:=n1_;have HI0:=n2_;clear n0_ n1_ n2_;(try clear hb);(try clear hb2);(try clear hk);(try clear hi))|((with_reducible refine gate_callee (f:=104) rfl ?_);refine goesL_ (some 14) rfl rfl Tryz.func104 (by kernel_rfl) rfl #[.pointer (some ⟨g,0,none⟩),.int .i64 (wrap64 (a1 + 1))] rfl (by (try simp only [List.map_toArray,List.map_cons,List.map_nil]);first|done|rfl|(simp only [List.length_drop,List.length_take];rfl)) ?_;(with_reducible refine (spec_reader_peek.calls g s0_0 t259 t260 (wrap64 (a1 + 1)) t261 t262 t263 w0 _ ?side1 ?side2 A5.out).mono ?_);(case side1 => repeat (first|(with_reducible first|exact HI0.out|apply sA|apply sB|apply sC|apply sD|apply sE)|exact HI0.out));(case side2 => repeat (first|(with_reducible first|exact HB.out|apply bA|apply bB|apply bC|refine bD ?_ (IsS115.ge HI0.out))|exact HB.out));rintro e w8 ⟨rfl,hi,hb,hk⟩;refine ⟨_,rfl,?_⟩;have n0_:=Aside0.mk (KeepBut.trans (by repeat (first|(with_reducible first|exact HK.out|apply kA|apply kB|apply kC|apply kD)|exact HK.out)) hk (.inl rfl));have n1_:=Aside0.mk (hb);have n2_:=Aside0.mk (hi);clear HK;clear HB;clear HI0;have HK:=n0_;have HB:=n1_;have HI0:=n2_;clear n0_ n1_ n2_;(try clear hb);(try clear hb2);(try clear hk);(try clear hi)))
  (try simp only [Act.put,List.setIfInBounds_toArray,List.set_cons_zero,List.set_cons_succ])
  go_cut [] (fun wc => ∃ (kq : Nat) (x1002_5 : Bool),Aside0 (spec_reader_identifies.j0 kq a1 s0_0 t262 x1002_5 = some (r1,r2,r3)) ∧ Aside0 (kq ≤ k) ∧ Aside0 (IsS115 w0 wc g s0_0 t262 x1002_5) ∧ Aside0 (KeepBut w wc g none) ∧ Aside0 (Below w0.heap.size w0 wc))
  case first =>
   have H:=HC6.out
   clear HC6
   by_cases c9 : t261 = 45
   ·rw [if_pos c9] at H
    have c9b0 : (t261 == 45) = true:=beq_iff_eq.mpr c9
    have c9b1 : (t261 != 45) = false:=bne_eq_false_iff_eq.mpr c9
    clear c9
    (first|rw [c9b0]|(simp only [i64_w,i32_w];rw [c9b0])|skip)
    have H':=Aside0.mk H
    clear H
    obtain ⟨ASz10_0,cSz10_0,HGz10,hgz10,HSz10_0⟩:=HI0.out
    have hcz10_0:=cellS115_0 HGz10
    have hcz10_1:=cellS115_1 HGz10
    have hcz10_2:=cellS115_2 HGz10
    have hfz10_1:=blk_frozen HGz10 1
    have hfz10_2:=blk_frozen HGz10 2
    clear HGz10 hgz10
    go_wp2
    go_meet
    case rel => exact ⟨_,(true),H',⟨by first|omega|exact Nat.le_refl _⟩,⟨by repeat (first|(with_reducible first|exact HI0.out|apply sA|apply sB|apply sC|apply sD|apply sE)|exact HI0.out)⟩,⟨by repeat (first|(with_reducible first|exact HK.out|apply kA|apply kB|apply kC|apply kD)|exact HK.out)⟩,⟨by repeat (first|(with_reducible first|exact HB.out|apply bA|apply bB|apply bC|refine bD ?_ (IsS115.ge HI0.out))|exact HB.out)⟩⟩
   ·rw [if_neg c9] at H
    have c9b0 : (t261 == 45) = false:=beq_eq_false_iff_ne.mpr c9
    have c9b1 : (t261 != 45) = true:=bne_iff_ne.mpr c9
    (first|rw [c9b0]|(simp only [i64_w,i32_w];rw [c9b0])|skip)
    have H':=Aside0.mk H
    clear H
    go_wp2
    go_meet
    case rel => exact ⟨_,(t263),H',⟨by first|omega|exact Nat.le_refl _⟩,⟨by repeat (first|(with_reducible first|exact HI0.out|apply sA|apply sB|apply sC|apply sD|apply sE)|exact HI0.out)⟩,⟨by repeat (first|(with_reducible first|exact HK.out|apply kA|apply kB|apply kC|apply kD)|exact HK.out)⟩,⟨by repeat (first|(with_reducible first|exact HB.out|apply bA|apply bB|apply bC|refine bD ?_ (IsS115.ge HI0.out))|exact HB.out)⟩⟩
  case rest =>
   clear HC6
   try clear c1
   try clear p2
   try clear c4
   try clear c4b0
   try clear c4b1
   try clear p6
   try clear c9
   try clear c9b0
   try clear c9b1
   try clear c10
   try clear hcz10_0
   try clear hcz10_1
   try clear hcz10_2
   try clear hfz10_1
   try clear hfz10_2
   obtain ⟨kq,x1002_5,HA,HJ5,HI0,HK,HB⟩:=hcut
   cases kq with
   | zero => exact absurd HA.out (by simp [spec_reader_identifies.j0])
   | succ kj5 =>
    have H:=HA.out
    clear HA
    simp only [spec_reader_identifies.j0] at H
    replace H:=Option.bind_eq_some_iff.mp H
    obtain ⟨⟨t264,t265,t266⟩,A110,H⟩:=H
    replace H : ((spec_isStart.f t264).bind fun t267 => (if t267 = true then (some (true,t265,t266)) else ((spec_reader_escapes.f s0_0 t265 t266 (wrap64 (a1 + 1))).bind fun bt268 => (some (bt268.1,bt268.2.1,bt268.2.2))))) = some (r1,r2,r3):=H
    have A11:=Aside0.mk A110
    clear A110
    replace H:=Option.bind_eq_some_iff.mp H
    obtain ⟨t267,A120,H⟩:=H
    replace H : (if t267 = true then (some (true,t265,t266)) else ((spec_reader_escapes.f s0_0 t265 t266 (wrap64 (a1 + 1))).bind fun bt268 => (some (bt268.1,bt268.2.1,bt268.2.2)))) = some (r1,r2,r3):=H
    have A12:=Aside0.mk A120
    clear A120
    by_cases c13 : t267 = true
    ·subst c13
     have H1 : (some (true,t265,t266)) = some (r1,r2,r3):=by rw [if_pos rfl] at H;exact H
     clear H
     have H:=H1
     clear H1
     simp only [Option.some.injEq,Prod.mk.injEq] at H
     obtain ⟨rfl,rfl,rfl⟩:=H
     go_wp2_with (first|((with_reducible refine gate_callee (f:=104) rfl ?_);refine goesL_ (some 22) rfl rfl Tryz.func104 (by kernel_rfl) rfl #[.pointer (some ⟨g,0,none⟩),.int .i64 (wrap64 (a1 + 1))] rfl (by (try simp only [List.map_toArray,List.map_cons,List.map_nil]);first|done|rfl|(simp only [List.length_drop,List.length_take];rfl)) ?_;(with_reducible refine (spec_reader_peek.calls g s0_0 t262 x1002_5 (wrap64 (a1 + 1)) t264 t265 t266 w0 _ ?side1 ?side2 A11.out).mono ?_);(case side1 => repeat (first|(with_reducible first|exact HI0.out|apply sA|apply sB|apply sC|apply sD|apply sE)|exact HI0.out));(case side2 => repeat (first|(with_reducible first|exact HB.out|apply bA|apply bB|apply bC|refine bD ?_ (IsS115.ge HI0.out))|exact HB.out));rintro e w14 ⟨rfl,hi,hb,hk⟩;refine ⟨_,rfl,?_⟩;have n0_:=Aside0.mk (KeepBut.trans (by repeat (first|(with_reducible first|exact HK.out|apply kA|apply kB|apply kC|apply kD)|exact HK.out)) hk (.inl rfl));have n1_:=Aside0.mk (hb);have n2_:=Aside0.mk (hi);clear HK;clear HB;clear HI0;have HK:=n0_;have HB:=n1_;have HI0:=n2_;clear n0_ n1_ n2_;(try clear hb);(try clear hb2);(try clear hk);(try clear hi))|((with_reducible refine gate_callee (f:=32) rfl ?_);refine goesL_ (some 23) rfl rfl Tryz.func32 (by kernel_rfl) rfl #[.int .u8 t264] rfl (by (try simp only [List.map_toArray,List.map_cons,List.map_nil]);first|done|rfl|(simp only [List.length_drop,List.length_take];rfl)) ?_;(with_reducible refine (spec_isStart.calls t264 true _ A12.out).mono ?_);rintro e w' ⟨rfl,⟨nd,rfl⟩⟩;refine ⟨_,rfl,?_⟩))
     go_ret
     exact ⟨by first|rfl|(simp [errW_none,errW_some] <;> rfl)|(simp [*,errW_none,errW_some] <;> rfl),by repeat (first|(with_reducible first|exact HI0.out|apply sA|apply sB|apply sC|apply sD|apply sE)|exact HI0.out),by repeat (first|(with_reducible first|exact HB.out|apply bA|apply bB|apply bC|refine bD ?_ (IsS115.ge HI0.out))|exact HB.out),by repeat (first|(with_reducible first|exact HK.out|apply kA|apply kB|apply kC|apply kD)|exact HK.out)⟩
    ·replace c13:=Bool.eq_false_iff.mpr c13
     subst c13
     have H1 : ((spec_reader_escapes.f s0_0 t265 t266 (wrap64 (a1 + 1))).bind fun bt268 => (some (bt268.1,bt268.2.1,bt268.2.2))) = some (r1,r2,r3):=by rw [if_neg (show ¬ (false = true) by decide)] at H;exact H
     clear H
     have H:=H1
     clear H1
     replace H:=Option.bind_eq_some_iff.mp H
     obtain ⟨⟨t268,t269,t270⟩,A150,H⟩:=H
     replace H : (some (t268,t269,t270)) = some (r1,r2,r3):=H
     have A15:=Aside0.mk A150
     clear A150
     simp only [Option.some.injEq,Prod.mk.injEq] at H
     obtain ⟨rfl,rfl,rfl⟩:=H
     go_wp2_with (first|((with_reducible refine gate_callee (f:=104) rfl ?_);refine goesL_ (some 22) rfl rfl Tryz.func104 (by kernel_rfl) rfl #[.pointer (some ⟨g,0,none⟩),.int .i64 (wrap64 (a1 + 1))] rfl (by (try simp only [List.map_toArray,List.map_cons,List.map_nil]);first|done|rfl|(simp only [List.length_drop,List.length_take];rfl)) ?_;(with_reducible refine (spec_reader_peek.calls g s0_0 t262 x1002_5 (wrap64 (a1 + 1)) t264 t265 t266 w0 _ ?side1 ?side2 A11.out).mono ?_);(case side1 => repeat (first|(with_reducible first|exact HI0.out|apply sA|apply sB|apply sC|apply sD|apply sE)|exact HI0.out));(case side2 => repeat (first|(with_reducible first|exact HB.out|apply bA|apply bB|apply bC|refine bD ?_ (IsS115.ge HI0.out))|exact HB.out));rintro e w16 ⟨rfl,hi,hb,hk⟩;refine ⟨_,rfl,?_⟩;have n0_:=Aside0.mk (KeepBut.trans (by repeat (first|(with_reducible first|exact HK.out|apply kA|apply kB|apply kC|apply kD)|exact HK.out)) hk (.inl rfl));have n1_:=Aside0.mk (hb);have n2_:=Aside0.mk (hi);clear HK;clear HB;clear HI0;have HK:=n0_;have HB:=n1_;have HI0:=n2_;clear n0_ n1_ n2_;(try clear hb);(try clear hb2);(try clear hk);(try clear hi))|((with_reducible refine gate_callee (f:=32) rfl ?_);refine goesL_ (some 23) rfl rfl Tryz.func32 (by kernel_rfl) rfl #[.int .u8 t264] rfl (by (try simp only [List.map_toArray,List.map_cons,List.map_nil]);first|done|rfl|(simp only [List.length_drop,List.length_take];rfl)) ?_;(with_reducible refine (spec_isStart.calls t264 false _ A12.out).mono ?_);rintro e w' ⟨rfl,⟨nd,rfl⟩⟩;refine ⟨_,rfl,?_⟩)|(go_at_call 135;(with_reducible refine (spec_reader_escapes.calls g s0_0 t265 t266 (wrap64 (a1 + 1)) t268 t269 t270 w0 _ ?side1 ?side2 A15.out).mono ?_);(case side1 => repeat (first|(with_reducible first|exact HI0.out|apply sA|apply sB|apply sC|apply sD|apply sE)|exact HI0.out));(case side2 => repeat (first|(with_reducible first|exact HB.out|apply bA|apply bB|apply bC|refine bD ?_ (IsS115.ge HI0.out))|exact HB.out));rintro e w17 ⟨rfl,hi,hb,hk⟩;have n0_:=Aside0.mk (KeepBut.trans (by repeat (first|(with_reducible first|exact HK.out|apply kA|apply kB|apply kC|apply kD)|exact HK.out)) hk (.inl rfl));have n1_:=Aside0.mk (hb);have n2_:=Aside0.mk (hi);clear HK;clear HB;clear HI0;have HK:=n0_;have HB:=n1_;have HI0:=n2_;clear n0_ n1_ n2_;(try clear hb);(try clear hb2);(try clear hk);(try clear hi)))
     go_ret
     exact ⟨by first|rfl|(simp [errW_none,errW_some] <;> rfl)|(simp [*,errW_none,errW_some] <;> rfl),by repeat (first|(with_reducible first|exact HI0.out|apply sA|apply sB|apply sC|apply sD|apply sE)|exact HI0.out),by repeat (first|(with_reducible first|exact HB.out|apply bA|apply bB|apply bC|refine bD ?_ (IsS115.ge HI0.out))|exact HB.out),by repeat (first|(with_reducible first|exact HK.out|apply kA|apply kB|apply kC|apply kD)|exact HK.out)⟩
 ·rw [if_neg c4] at H
  have c4b0 : (t258 == 45) = false:=beq_eq_false_iff_ne.mpr c4
  have c4b1 : (t258 != 45) = true:=bne_iff_ne.mpr c4
  replace H:=Option.bind_eq_some_iff.mp H
  obtain ⟨t271,A180,H⟩:=H
  replace H : (if t271 = true then (some (true,t259,t260)) else ((spec_reader_escapes.f s0_0 t259 t260 a1).bind fun bt272 => (some (bt272.1,bt272.2.1,bt272.2.2)))) = some (r1,r2,r3):=H
  have A18:=Aside0.mk A180
  clear A180
  by_cases c19 : t271 = true
  ·subst c19
   have H1 : (some (true,t259,t260)) = some (r1,r2,r3):=by rw [if_pos rfl] at H;exact H
   clear H
   have H:=H1
   clear H1
   simp only [Option.some.injEq,Prod.mk.injEq] at H
   obtain ⟨rfl,rfl,rfl⟩:=H
   go_enter Tryz.func113,Tryz.ntmps113
   go_wp2_with (first|((with_reducible refine gate_callee (f:=104) rfl ?_);refine goesL_ (some 8) rfl rfl Tryz.func104 (by kernel_rfl) rfl #[.pointer (some ⟨g,0,none⟩),.int .i64 a1] rfl (by (try simp only [List.map_toArray,List.map_cons,List.map_nil]);first|done|rfl|(simp only [List.length_drop,List.length_take];rfl)) ?_;(with_reducible refine (spec_reader_peek.calls g s0_0 s0_1 s0_2 a1 t258 t259 t260 w0 _ ?side1 ?side2 A3.out).mono ?_);(case side1 => repeat (first|(with_reducible first|exact HI0.out|apply sA|apply sB|apply sC|apply sD|apply sE)|exact HI0.out));(case side2 => repeat (first|(with_reducible first|exact HB.out|apply bA|apply bB|apply bC|refine bD ?_ (IsS115.ge HI0.out))|exact HB.out));rintro e w20 ⟨rfl,hi,hb,hk⟩;refine ⟨_,rfl,?_⟩;have n0_:=Aside0.mk (KeepBut.trans (by repeat (first|(with_reducible first|exact HK.out|apply kA|apply kB|apply kC|apply kD)|exact HK.out)) hk (.inl rfl));have n1_:=Aside0.mk (hb);have n2_:=Aside0.mk (hi);clear HK;clear HB;clear HI0;have HK:=n0_;have HB:=n1_;have HI0:=n2_;clear n0_ n1_ n2_;(try clear hb);(try clear hb2);(try clear hk);(try clear hi))|((with_reducible refine gate_callee (f:=32) rfl ?_);refine goesL_ (some 31) rfl rfl Tryz.func32 (by kernel_rfl) rfl #[.int .u8 t258] rfl (by (try simp only [List.map_toArray,List.map_cons,List.map_nil]);first|done|rfl|(simp only [List.length_drop,List.length_take];rfl)) ?_;(with_reducible refine (spec_isStart.calls t258 true _ A18.out).mono ?_);rintro e w' ⟨rfl,⟨nd,rfl⟩⟩;refine ⟨_,rfl,?_⟩))
   go_ret
   exact ⟨by first|rfl|(simp [errW_none,errW_some] <;> rfl)|(simp [*,errW_none,errW_some] <;> rfl),by repeat (first|(with_reducible first|exact HI0.out|apply sA|apply sB|apply sC|apply sD|apply sE)|exact HI0.out),by repeat (first|(with_reducible first|exact HB.out|apply bA|apply bB|apply bC|refine bD ?_ (IsS115.ge HI0.out))|exact HB.out),by repeat (first|(with_reducible first|exact HK.out|apply kA|apply kB|apply kC|apply kD)|exact HK.out)⟩
  ·replace c19:=Bool.eq_false_iff.mpr c19
   subst c19
   have H1 : ((spec_reader_escapes.f s0_0 t259 t260 a1).bind fun bt272 => (some (bt272.1,bt272.2.1,bt272.2.2))) = some (r1,r2,r3):=by rw [if_neg (show ¬ (false = true) by decide)] at H;exact H
   clear H
   have H:=H1
   clear H1
   replace H:=Option.bind_eq_some_iff.mp H
   obtain ⟨⟨t272,t273,t274⟩,A210,H⟩:=H
   replace H : (some (t272,t273,t274)) = some (r1,r2,r3):=H
   have A21:=Aside0.mk A210
   clear A210
   simp only [Option.some.injEq,Prod.mk.injEq] at H
   obtain ⟨rfl,rfl,rfl⟩:=H
   go_enter Tryz.func113,Tryz.ntmps113
   go_wp2_with (first|((with_reducible refine gate_callee (f:=104) rfl ?_);refine goesL_ (some 8) rfl rfl Tryz.func104 (by kernel_rfl) rfl #[.pointer (some ⟨g,0,none⟩),.int .i64 a1] rfl (by (try simp only [List.map_toArray,List.map_cons,List.map_nil]);first|done|rfl|(simp only [List.length_drop,List.length_take];rfl)) ?_;(with_reducible refine (spec_reader_peek.calls g s0_0 s0_1 s0_2 a1 t258 t259 t260 w0 _ ?side1 ?side2 A3.out).mono ?_);(case side1 => repeat (first|(with_reducible first|exact HI0.out|apply sA|apply sB|apply sC|apply sD|apply sE)|exact HI0.out));(case side2 => repeat (first|(with_reducible first|exact HB.out|apply bA|apply bB|apply bC|refine bD ?_ (IsS115.ge HI0.out))|exact HB.out));rintro e w22 ⟨rfl,hi,hb,hk⟩;refine ⟨_,rfl,?_⟩;have n0_:=Aside0.mk (KeepBut.trans (by repeat (first|(with_reducible first|exact HK.out|apply kA|apply kB|apply kC|apply kD)|exact HK.out)) hk (.inl rfl));have n1_:=Aside0.mk (hb);have n2_:=Aside0.mk (hi);clear HK;clear HB;clear HI0;have HK:=n0_;have HB:=n1_;have HI0:=n2_;clear n0_ n1_ n2_;(try clear hb);(try clear hb2);(try clear hk);(try clear hi))|((with_reducible refine gate_callee (f:=32) rfl ?_);refine goesL_ (some 31) rfl rfl Tryz.func32 (by kernel_rfl) rfl #[.int .u8 t258] rfl (by (try simp only [List.map_toArray,List.map_cons,List.map_nil]);first|done|rfl|(simp only [List.length_drop,List.length_take];rfl)) ?_;(with_reducible refine (spec_isStart.calls t258 false _ A18.out).mono ?_);rintro e w' ⟨rfl,⟨nd,rfl⟩⟩;refine ⟨_,rfl,?_⟩)|(go_at_call 135;(with_reducible refine (spec_reader_escapes.calls g s0_0 t259 t260 a1 t272 t273 t274 w0 _ ?side1 ?side2 A21.out).mono ?_);(case side1 => repeat (first|(with_reducible first|exact HI0.out|apply sA|apply sB|apply sC|apply sD|apply sE)|exact HI0.out));(case side2 => repeat (first|(with_reducible first|exact HB.out|apply bA|apply bB|apply bC|refine bD ?_ (IsS115.ge HI0.out))|exact HB.out));rintro e w23 ⟨rfl,hi,hb,hk⟩;have n0_:=Aside0.mk (KeepBut.trans (by repeat (first|(with_reducible first|exact HK.out|apply kA|apply kB|apply kC|apply kD)|exact HK.out)) hk (.inl rfl));have n1_:=Aside0.mk (hb);have n2_:=Aside0.mk (hi);clear HK;clear HB;clear HI0;have HK:=n0_;have HB:=n1_;have HI0:=n2_;clear n0_ n1_ n2_;(try clear hb);(try clear hb2);(try clear hk);(try clear hi)))
   go_ret
   exact ⟨by first|rfl|(simp [errW_none,errW_some] <;> rfl)|(simp [*,errW_none,errW_some] <;> rfl),by repeat (first|(with_reducible first|exact HI0.out|apply sA|apply sB|apply sC|apply sD|apply sE)|exact HI0.out),by repeat (first|(with_reducible first|exact HB.out|apply bA|apply bB|apply bC|refine bD ?_ (IsS115.ge HI0.out))|exact HB.out),by repeat (first|(with_reducible first|exact HK.out|apply kA|apply kB|apply kC|apply kD)|exact HK.out)⟩
def spec_reader_digits.l0 : Nat → List Int → Int → Bool → Option (Int × Bool)
 | 0,_,_,_ => none
 | k + 1,x1000,x1001,x1002 => (spec_reader_peek.f x1000 x1001 x1002 0).bind fun bt275 => ((spec_isDigit.f bt275.1).bind fun t278 => (if t278 = true then (spec_reader_digits.l0 k x1000 (wrap64 (bt275.2.1 + 1)) bt275.2.2) else (some (bt275.2.1,bt275.2.2))))
def spec_reader_digits.f (k : Nat) (s0_0 : List Int) (s0_1 : Int) (s0_2 : Bool) : Option (Int × Bool):=spec_reader_digits.l0 k s0_0 s0_1 s0_2
theorem spec_reader_digits.calls (k : Nat) (g : Nat) (s0_0 : List Int) (s0_1 : Int) (s0_2 : Bool) (r1 : Int) (r2 : Bool) (w0 w : World) (hI : IsS115 w0 w g s0_0 s0_1 s0_2) (hB : Below w0.heap.size w0 w) (h : spec_reader_digits.f k s0_0 s0_1 s0_2 = some (r1,r2)) :
  Calls Tryz.prog 138 #[.pointer (some ⟨g,0,none⟩)] w fun e w' => e = .returned (.tuple #[]) ∧ IsS115 w0 w' g s0_0 r1 r2 ∧ Below w0.heap.size w0 w' ∧ KeepBut w w' g none:=by
 have HI0:=Aside0.mk hI
 have HK:=Aside0.mk (KeepBut.refl w g none)
 have HL:=Aside0.mk hB.size
 clear hI
 have HW0:=Aside0.mk hB.size
 have HB:=Aside0.mk hB
 clear hB
 have H : (spec_reader_digits.l0 k s0_0 s0_1 s0_2) = some (r1,r2):=h
 clear h
 have H':=Aside0.mk H
 clear H
 go_enter Tryz.func138,Tryz.ntmps138
 go_wp2
 go_loopg [] k (fun kq w' => ∃ (x1001_1 : Int) (x1002_1 : Bool),Aside0 (spec_reader_digits.l0 kq s0_0 x1001_1 x1002_1 = some (r1,r2)) ∧ Aside0 (kq ≤ k) ∧ Aside0 (IsS115 w0 w' g s0_0 x1001_1 x1002_1) ∧ Aside0 (KeepBut w w' g none) ∧ Aside0 (Below w0.heap.size w0 w'))
 case atStart => exact ⟨(s0_1),(s0_2),H',⟨Nat.le_refl _⟩,⟨by repeat (first|(with_reducible first|exact HI0.out|apply sA|apply sB|apply sC|apply sD|apply sE)|exact HI0.out)⟩,⟨by repeat (first|(with_reducible first|exact HK.out|apply kA|apply kB|apply kC|apply kD)|exact HK.out)⟩,⟨by repeat (first|(with_reducible first|exact HB.out|apply bA|apply bB|apply bC|refine bD ?_ (IsS115.ge HI0.out))|exact HB.out)⟩⟩
 case round =>
  clear H'
  try clear c1
  obtain ⟨x1001_1,x1002_1,HA,HK1,HI0,HK,HB⟩:=hrel
  cases gk with
  | zero => exact absurd HA.out (by simp [spec_reader_digits.l0])
  | succ k1 =>
   have H:=HA.out
   clear HA
   simp only [spec_reader_digits.l0] at H
   replace H:=Option.bind_eq_some_iff.mp H
   obtain ⟨⟨t275,t276,t277⟩,A20,H⟩:=H
   replace H : ((spec_isDigit.f t275).bind fun t278 => (if t278 = true then (spec_reader_digits.l0 k1 s0_0 (wrap64 (t276 + 1)) t277) else (some (t276,t277)))) = some (r1,r2):=H
   have A2:=Aside0.mk A20
   clear A20
   replace H:=Option.bind_eq_some_iff.mp H
   obtain ⟨t278,A30,H⟩:=H
   replace H : (if t278 = true then (spec_reader_digits.l0 k1 s0_0 (wrap64 (t276 + 1)) t277) else (some (t276,t277))) = some (r1,r2):=H
   have A3:=Aside0.mk A30
   clear A30
   by_cases c4 : t278 = true
   ·subst c4
    have H1 : (spec_reader_digits.l0 k1 s0_0 (wrap64 (t276 + 1)) t277) = some (r1,r2):=by rw [if_pos rfl] at H;exact H
    clear H
    have H:=H1
    clear H1
    have H':=Aside0.mk H
    clear H
    go_wp2_with (first|((with_reducible refine gate_callee (f:=104) rfl ?_);refine goesL_ (some 3) rfl rfl Tryz.func104 (by kernel_rfl) rfl #[.pointer (some ⟨g,0,none⟩),.int .i64 0] rfl (by (try simp only [List.map_toArray,List.map_cons,List.map_nil]);first|done|rfl|(simp only [List.length_drop,List.length_take];rfl)) ?_;(with_reducible refine (spec_reader_peek.calls g s0_0 x1001_1 x1002_1 0 t275 t276 t277 w0 _ ?side1 ?side2 A2.out).mono ?_);(case side1 => repeat (first|(with_reducible first|exact HI0.out|apply sA|apply sB|apply sC|apply sD|apply sE)|exact HI0.out));(case side2 => repeat (first|(with_reducible first|exact HB.out|apply bA|apply bB|apply bC|refine bD ?_ (IsS115.ge HI0.out))|exact HB.out));rintro e w5 ⟨rfl,hi,hb,hk⟩;refine ⟨_,rfl,?_⟩;have n0_:=Aside0.mk (KeepBut.trans (by repeat (first|(with_reducible first|exact HK.out|apply kA|apply kB|apply kC|apply kD)|exact HK.out)) hk (.inl rfl));have n1_:=Aside0.mk (hb);have n2_:=Aside0.mk (hi);clear HK;clear HB;clear HI0;have HK:=n0_;have HB:=n1_;have HI0:=n2_;clear n0_ n1_ n2_;(try clear hb);(try clear hb2);(try clear hk);(try clear hi))|((with_reducible refine gate_callee (f:=137) rfl ?_);refine goesL_ (some 4) rfl rfl Tryz.func137 (by kernel_rfl) rfl #[.int .u8 t275] rfl (by (try simp only [List.map_toArray,List.map_cons,List.map_nil]);first|done|rfl|(simp only [List.length_drop,List.length_take];rfl)) ?_;(with_reducible refine (spec_isDigit.calls t275 true _ A3.out).mono ?_);rintro e w' ⟨rfl,⟨nd,rfl⟩⟩;refine ⟨_,rfl,?_⟩;(try (rw [drewN_self w5];generalize hq_ : World.drewN w5 _ = w5;have n0_ : Aside0 (IsS115 w0 w5 g s0_0 t276 t277):=⟨by rw [← hq_];exact (by repeat (first|(with_reducible first|exact HI0.out|apply sA|apply sB|apply sC|apply sD|apply sE)|exact HI0.out))⟩;have n1_ : Aside0 (KeepBut w w5 g none):=⟨by rw [← hq_];exact (by repeat (first|(with_reducible first|exact HK.out|apply kA|apply kB|apply kC|apply kD)|exact HK.out))⟩;have n2_ : Aside0 (Below w0.heap.size w0 w5):=⟨by rw [← hq_];exact (by repeat (first|(with_reducible first|exact HB.out|apply bA|apply bB|apply bC|refine bD ?_ (IsS115.ge HI0.out))|exact HB.out))⟩;clear HI0 HK HB hq_;have HI0:=n0_;have HK:=n1_;have HB:=n2_;clear n0_ n1_ n2_));obtain ⟨ASz6_0,cSz6_0,HGz6,hgz6,HSz6_0⟩:=HI0.out;have hcz6_0:=cellS115_0 HGz6;have hcz6_1:=cellS115_1 HGz6;have hcz6_2:=cellS115_2 HGz6;have hfz6_1:=blk_frozen HGz6 1;have hfz6_2:=blk_frozen HGz6 2;clear HGz6 hgz6))
    go_roundg k1
    case measure => have:=HK1.out;omega
    case rel => exact ⟨(wrap64 (t276 + 1)),(t277),H',⟨by have:=HK1.out;omega⟩,⟨by repeat (first|(with_reducible first|exact HI0.out|apply sA|apply sB|apply sC|apply sD|apply sE)|exact HI0.out)⟩,⟨by repeat (first|(with_reducible first|exact HK.out|apply kA|apply kB|apply kC|apply kD)|exact HK.out)⟩,⟨by repeat (first|(with_reducible first|exact HB.out|apply bA|apply bB|apply bC|refine bD ?_ (IsS115.ge HI0.out))|exact HB.out)⟩⟩
   ·replace c4:=Bool.eq_false_iff.mpr c4
    subst c4
    have H1 : (some (t276,t277)) = some (r1,r2):=by rw [if_neg (show ¬ (false = true) by decide)] at H;exact H
    clear H
    have H:=H1
    clear H1
    simp only [Option.some.injEq,Prod.mk.injEq] at H
    obtain ⟨rfl,rfl⟩:=H
    go_wp2_with (first|((with_reducible refine gate_callee (f:=104) rfl ?_);refine goesL_ (some 3) rfl rfl Tryz.func104 (by kernel_rfl) rfl #[.pointer (some ⟨g,0,none⟩),.int .i64 0] rfl (by (try simp only [List.map_toArray,List.map_cons,List.map_nil]);first|done|rfl|(simp only [List.length_drop,List.length_take];rfl)) ?_;(with_reducible refine (spec_reader_peek.calls g s0_0 x1001_1 x1002_1 0 t275 t276 t277 w0 _ ?side1 ?side2 A2.out).mono ?_);(case side1 => repeat (first|(with_reducible first|exact HI0.out|apply sA|apply sB|apply sC|apply sD|apply sE)|exact HI0.out));(case side2 => repeat (first|(with_reducible first|exact HB.out|apply bA|apply bB|apply bC|refine bD ?_ (IsS115.ge HI0.out))|exact HB.out));rintro e w7 ⟨rfl,hi,hb,hk⟩;refine ⟨_,rfl,?_⟩;have n0_:=Aside0.mk (KeepBut.trans (by repeat (first|(with_reducible first|exact HK.out|apply kA|apply kB|apply kC|apply kD)|exact HK.out)) hk (.inl rfl));have n1_:=Aside0.mk (hb);have n2_:=Aside0.mk (hi);clear HK;clear HB;clear HI0;have HK:=n0_;have HB:=n1_;have HI0:=n2_;clear n0_ n1_ n2_;(try clear hb);(try clear hb2);(try clear hk);(try clear hi))|((with_reducible refine gate_callee (f:=137) rfl ?_);refine goesL_ (some 4) rfl rfl Tryz.func137 (by kernel_rfl) rfl #[.int .u8 t275] rfl (by (try simp only [List.map_toArray,List.map_cons,List.map_nil]);first|done|rfl|(simp only [List.length_drop,List.length_take];rfl)) ?_;(with_reducible refine (spec_isDigit.calls t275 false _ A3.out).mono ?_);rintro e w' ⟨rfl,⟨nd,rfl⟩⟩;refine ⟨_,rfl,?_⟩))
    first|go_end0|((try simp only [Exit.inBlock,Exit.then]);refine bodyPost_ret (results_none rfl _ _ _) rfl ?_)
    exact ⟨by first|rfl|(simp [errW_none,errW_some] <;> rfl)|(simp [*,errW_none,errW_some] <;> rfl),by repeat (first|(with_reducible first|exact HI0.out|apply sA|apply sB|apply sC|apply sD|apply sE)|exact HI0.out),by repeat (first|(with_reducible first|exact HB.out|apply bA|apply bB|apply bC|refine bD ?_ (IsS115.ge HI0.out))|exact HB.out),by repeat (first|(with_reducible first|exact HK.out|apply kA|apply kB|apply kC|apply kD)|exact HK.out)⟩
def spec_isNameByte.f (a0 : Int) : Option (Bool):=(spec_isStart.f a0).bind fun t279 => (if t279 = true then (some true) else ((spec_isDigit.f a0).bind fun t280 => (if t280 = true then (some true) else (some (a0 == 45)))))
theorem spec_isNameByte.calls (a0 : Int) (r : Bool) (w : World) (h : spec_isNameByte.f a0 = some r) :
  Calls Tryz.prog 142 #[.int .u8 a0] w fun e w' => e = .returned (.bool r) ∧ Drawn0 w w':=by
 have H : ((spec_isStart.f a0).bind fun t279 => (if t279 = true then (some true) else ((spec_isDigit.f a0).bind fun t280 => (if t280 = true then (some true) else (some (a0 == 45)))))) = some r:=h
 clear h
 replace H:=Option.bind_eq_some_iff.mp H
 obtain ⟨t279,A20,H⟩:=H
 replace H : (if t279 = true then (some true) else ((spec_isDigit.f a0).bind fun t280 => (if t280 = true then (some true) else (some (a0 == 45))))) = some r:=H
 have A2:=Aside0.mk A20
 clear A20
 by_cases c3 : t279 = true
 ·subst c3
  have H1 : (some true) = some r:=by rw [if_pos rfl] at H;exact H
  clear H
  have H:=H1
  clear H1
  obtain rfl:=Option.some.inj H
  go_enter Tryz.func142,Tryz.ntmps142
  go_wp2_with (first|((with_reducible refine gate_callee (f:=32) rfl ?_);refine goesL_ (some 4) rfl rfl Tryz.func32 (by kernel_rfl) rfl #[.int .u8 a0] rfl (by (try simp only [List.map_toArray,List.map_cons,List.map_nil]);first|done|rfl|(simp only [List.length_drop,List.length_take];rfl)) ?_;(with_reducible refine (spec_isStart.calls a0 true _ A2.out).mono ?_);rintro e w' ⟨rfl,⟨nd,rfl⟩⟩;refine ⟨_,rfl,?_⟩))
  go_ret
  exact ⟨by first|rfl|(simp;done)|(simp [*];done),by repeat (first|exact Drawn0.refl _|apply Drawn0.step)⟩
 ·replace c3:=Bool.eq_false_iff.mpr c3
  subst c3
  have H1 : ((spec_isDigit.f a0).bind fun t280 => (if t280 = true then (some true) else (some (a0 == 45)))) = some r:=by rw [if_neg (show ¬ (false = true) by decide)] at H;exact H
  clear H
  have H:=H1
  clear H1
  replace H:=Option.bind_eq_some_iff.mp H
  obtain ⟨t280,A40,H⟩:=H
  replace H : (if t280 = true then (some true) else (some (a0 == 45))) = some r:=H
  have A4:=Aside0.mk A40
  clear A40
  by_cases c5 : t280 = true
  ·subst c5
   have H1 : (some true) = some r:=by rw [if_pos rfl] at H;exact H
   clear H
   have H:=H1
   clear H1
   obtain rfl:=Option.some.inj H
   go_enter Tryz.func142,Tryz.ntmps142
   go_wp2_with (first|((with_reducible refine gate_callee (f:=32) rfl ?_);refine goesL_ (some 4) rfl rfl Tryz.func32 (by kernel_rfl) rfl #[.int .u8 a0] rfl (by (try simp only [List.map_toArray,List.map_cons,List.map_nil]);first|done|rfl|(simp only [List.length_drop,List.length_take];rfl)) ?_;(with_reducible refine (spec_isStart.calls a0 false _ A2.out).mono ?_);rintro e w' ⟨rfl,⟨nd,rfl⟩⟩;refine ⟨_,rfl,?_⟩)|(go_at_call 137;(with_reducible refine (spec_isDigit.calls a0 true _ A4.out).mono ?_);rintro e w' ⟨rfl,⟨nd,rfl⟩⟩))
   go_ret
   exact ⟨by first|rfl|(simp;done)|(simp [*];done),by repeat (first|exact Drawn0.refl _|apply Drawn0.step)⟩
  ·replace c5:=Bool.eq_false_iff.mpr c5
   subst c5
   have H1 : (some (a0 == 45)) = some r:=by rw [if_neg (show ¬ (false = true) by decide)] at H;exact H
   clear H
   have H:=H1
   clear H1
   obtain rfl:=Option.some.inj H
   go_enter Tryz.func142,Tryz.ntmps142
   go_wp2_with (first|((with_reducible refine gate_callee (f:=32) rfl ?_);refine goesL_ (some 4) rfl rfl Tryz.func32 (by kernel_rfl) rfl #[.int .u8 a0] rfl (by (try simp only [List.map_toArray,List.map_cons,List.map_nil]);first|done|rfl|(simp only [List.length_drop,List.length_take];rfl)) ?_;(with_reducible refine (spec_isStart.calls a0 false _ A2.out).mono ?_);rintro e w' ⟨rfl,⟨nd,rfl⟩⟩;refine ⟨_,rfl,?_⟩)|(go_at_call 137;(with_reducible refine (spec_isDigit.calls a0 false _ A4.out).mono ?_);rintro e w' ⟨rfl,⟨nd,rfl⟩⟩))
   go_ret
   exact ⟨by first|rfl|(simp;done)|(simp [*];done),by repeat (first|exact Drawn0.refl _|apply Drawn0.step)⟩
end Go.Proofs.YtlglijnaeaonpaaGreatDoor.PFnStyle
end
