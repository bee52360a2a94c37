/- FnStyle: a part of the proof (Mh); in it lines that print.sh printed, those that are used. -/
import Derived.Test.YtlglijnaeaonpaaGreatDoorMa
import Derived.Test.YtlglijnaeaonpaaGreatDoorMf
import Derived.Test.YtlglijnaeaonpaaGreatDoorMb
import Derived.Test.YtlglijnaeaonpaaGreatDoorMd
import Derived.Test.YtlglijnaeaonpaaGreatDoorMg
import Derived.Lib.SlBytesConst
section
set_option maxHeartbeats 8000000
set_option maxRecDepth 100000
set_option linter.unusedVariables false
set_option linter.unusedSimpArgs false
namespace Go.Proofs.YtlglijnaeaonpaaGreatDoor.PFnStyle
open Go.RowKit Go.Proofs.YtlglijnaeaonpaaGreatDoorW.PrintWords Go.Proofs.YtlglijnaeaonpaaGreatDoorW.PrintLast Go.Proofs.YtlglijnaeaonpaaGreatDoorW.PrintMore
attribute [local go_sem] max2_int min2_int max_two min_two max_three min_three max_four min_four
theorem has_signs (k : Nat) (a1 : Int) (r : Bool) (W : World) (h : spec_Has.f k [40,41,44,58,59,91,93,123,125] a1 = some r) :
  Calls Tryz.prog 53 #[.slice (some ⟨W.heap.size,0,none⟩) 9 9,.int .u8 a1] (W.alloc (.cells #[.int .u8 40,.int .u8 41,.int .u8 44,.int .u8 58,.int .u8 59,.int .u8 91,.int .u8 93,.int .u8 123,.int .u8 125] 5 (9,10))) fun e w' => e = .returned (.bool r) ∧ Drawn0 (W.alloc (.cells #[.int .u8 40,.int .u8 41,.int .u8 44,.int .u8 58,.int .u8 59,.int .u8 91,.int .u8 93,.int .u8 123,.int .u8 125] 5 (9,10))) w':=by
 refine spec_Has.calls k _ 9 [40,41,44,58,59,91,93,123,125] a1 r _ ?_ (Nat.le_refl _) h
 refine ⟨rfl,by decide,fun _ => ⟨_,rfl,fun j p hj => ⟨[.int .u8 p],rfl,rfl,fun i u hi => ?_⟩⟩⟩
 obtain rfl : i = 0:=by
  cases i with
  | zero => rfl
  | succ i => simp at hi
 simp only [List.getElem?_cons_zero,Option.some.injEq] at hi
 subst hi
 rw [show (Kd.int .u8).sz = 1 from rfl,add_plain,Nat.mul_one,Nat.add_zero]
 unfold World.cell?
 rw [heap_alloc_new W _]
 show (_ : Array Value)[j]? = _
 have hlt : j < 9:=(List.getElem?_eq_some_iff.1 hj).1
 clear h
 rcases j with _|_|_|_|_|_|_|_|_|j
 all_goals first|(simp at hj;subst hj;rfl)|omega
mutual
def spec_reader_sign.j0 : Nat → Int → Int → Bool → List Int → Int → Bool → Option (ByteArray × Int × Bool)
 | 0,_,_,_,_,_,_ => none
 | k + 1,x1,x2,x7,x1000,x1001,x1002 => if x7 = true then ((spec_reader_name.f k x1000 (wrap64 (x1001 + 1)) x1002).bind fun bt404 => (some ((⟨#[104,97,115,104]⟩ : ByteArray),bt404.1,bt404.2))) else (if x1 = 64 then ((spec_reader_identifies.f k x1000 x1001 x1002 1).bind fun bt406 => (spec_reader_sign.j1 k x1 x2 bt406.1 x1000 bt406.2.1 bt406.2.2)) else (spec_reader_sign.j1 k x1 x2 false x1000 x1001 x1002))
def spec_reader_sign.j1 : Nat → Int → Int → Bool → List Int → Int → Bool → Option (ByteArray × Int × Bool)
 | 0,_,_,_,_,_,_ => none
 | k + 1,x1,x2,x27,x1000,x1001,x1002 => if x27 = true then ((spec_reader_name.f k x1000 (wrap64 (x1001 + 1)) x1002).bind fun bt409 => (some ((⟨#[97,116]⟩ : ByteArray),bt409.1,bt409.2))) else (if x1 = 124 then (spec_reader_sign.j2 k x1 x2 (x2 == 124) x1000 x1001 x1002) else (spec_reader_sign.j2 k x1 x2 false x1000 x1001 x1002))
def spec_reader_sign.j2 : Nat → Int → Int → Bool → List Int → Int → Bool → Option (ByteArray × Int × Bool)
 | 0,_,_,_,_,_,_ => none
 | k + 1,x1,x2,x43,x1000,x1001,x1002 => if x43 = true then ((spec_reader_two.f x1000 x1001 x1002 (⟨#[124,124]⟩ : ByteArray)).bind fun bt411 => (some (bt411.1,bt411.2.1,bt411.2.2))) else (if x2 = 61 then (if x1 = 126 then (spec_reader_sign.j3 k x1 x2 true x1000 x1001 x1002) else (if x1 = 124 then (spec_reader_sign.j3 k x1 x2 true x1000 x1001 x1002) else (if x1 = 94 then (spec_reader_sign.j3 k x1 x2 true x1000 x1001 x1002) else (if x1 = 36 then (spec_reader_sign.j3 k x1 x2 true x1000 x1001 x1002) else (spec_reader_sign.j3 k x1 x2 (x1 == 42) x1000 x1001 x1002))))) else (spec_reader_sign.j3 k x1 x2 false x1000 x1001 x1002))
def spec_reader_sign.j3 : Nat → Int → Int → Bool → List Int → Int → Bool → Option (ByteArray × Int × Bool)
 | 0,_,_,_,_,_,_ => none
 | k + 1,x1,x2,x52,x1000,x1001,x1002 => if x52 = true then ((spec_reader_two.f x1000 x1001 x1002 (strOfNums (([x1,61] : List Int)))).bind fun bt417 => (some (bt417.1,bt417.2.1,bt417.2.2))) else (if x1 = 60 then (if x2 = 33 then ((spec_reader_peek.f x1000 x1001 x1002 2).bind fun bt420 => (if bt420.1 = 45 then ((spec_reader_peek.f x1000 bt420.2.1 bt420.2.2 3).bind fun bt423 => (spec_reader_sign.j4 k x1 (bt423.1 == 45) x1000 bt423.2.1 bt423.2.2)) else (spec_reader_sign.j4 k x1 false x1000 bt420.2.1 bt420.2.2))) else (spec_reader_sign.j4 k x1 false x1000 x1001 x1002)) else (spec_reader_sign.j4 k x1 false x1000 x1001 x1002))
def spec_reader_sign.j4 : Nat → Int → Bool → List Int → Int → Bool → Option (ByteArray × Int × Bool)
 | 0,_,_,_,_,_ => none
 | k + 1,x1,x80,x1000,x1001,x1002 => if x80 = true then (some ((⟨#[60,33,45,45]⟩ : ByteArray),wrap64 (x1001 + 4),x1002)) else ((spec_Has.f k (([40,41,44,58,59,91,93,123,125] : List Int)) x1).bind fun t429 => (if t429 = true then ((spec_reader_one.f x1000 x1001 x1002 (strOfNums (([x1] : List Int)))).bind fun bt433 => (some (bt433.1,bt433.2.1,bt433.2.2))) else ((spec_reader_one.f x1000 x1001 x1002 (⟨#[100,101,108,105,109]⟩ : ByteArray)).bind fun bt436 => (some (bt436.1,bt436.2.1,bt436.2.2)))))
end
def spec_reader_sign.f (k : Nat) (s0_0 : List Int) (s0_1 : Int) (s0_2 : Bool) (a1 : Int) (a2 : Int) : Option (ByteArray × Int × Bool):=if a1 = 35 then ((spec_isNameByte.f a2).bind fun t400 => (if t400 = true then (spec_reader_sign.j0 k a1 a2 true s0_0 s0_1 s0_2) else ((spec_reader_escapes.f s0_0 s0_1 s0_2 1).bind fun bt401 => (spec_reader_sign.j0 k a1 a2 bt401.1 s0_0 bt401.2.1 bt401.2.2)))) else (spec_reader_sign.j0 k a1 a2 false s0_0 s0_1 s0_2)
theorem spec_reader_sign.calls (k : Nat) (g : Nat) (s0_0 : List Int) (s0_1 : Int) (s0_2 : Bool) (a1 : Int) (a2 : Int) (r1 : ByteArray) (r2 : Int) (r3 : Bool) (w0 w : World) (hI : IsS115 w0 w g s0_0 s0_1 s0_2) (hB : Below w0.heap.size w0 w) (h : spec_reader_sign.f k s0_0 s0_1 s0_2 a1 a2 = some (r1,r2,r3)) :
  Calls Tryz.prog 115 #[.pointer (some ⟨g,0,none⟩),.int .u8 a1,.int .u8 a2] w fun e w' => e = .returned (.string r1) ∧ IsS115 w0 w' g s0_0 r2 r3 ∧ Below w0.heap.size w0 w' ∧ KeepBut w w' g none:=by
 have HI0:=Aside0.mk hI
 have HK:=Aside0.mk (KeepBut.refl w g none)
 have HL:=Aside0.mk hB.size
 clear hI
 have HW0:=Aside0.mk hB.size
 have HB:=Aside0.mk hB
 clear hB
 have H : (if a1 = 35 then ((spec_isNameByte.f a2).bind fun t400 => (if t400 = true then (spec_reader_sign.j0 k a1 a2 true s0_0 s0_1 s0_2) else ((spec_reader_escapes.f s0_0 s0_1 s0_2 1).bind fun bt401 => (spec_reader_sign.j0 k a1 a2 bt401.1 s0_0 bt401.2.1 bt401.2.2)))) else (spec_reader_sign.j0 k a1 a2 false s0_0 s0_1 s0_2)) = some (r1,r2,r3):=h
 clear h
 have HC4:=Aside0.mk H
 clear H
 go_enter Tryz.func115,Tryz.ntmps115
 go_upto_region 1 with (fail)
 go_cut [7] (fun v7 wc => ∃ (kq : Nat) (x7_3 : Bool) (x1001_3 : Int) (x1002_3 : Bool),v7 = .bool x7_3 ∧ Aside0 (spec_reader_sign.j0 kq a1 a2 x7_3 s0_0 x1001_3 x1002_3 = some (r1,r2,r3)) ∧ Aside0 (kq ≤ k) ∧ Aside0 (IsS115 w0 wc g s0_0 x1001_3 x1002_3) ∧ Aside0 (KeepBut w wc g none) ∧ Aside0 (Below w0.heap.size w0 wc))
 case first =>
  have H:=HC4.out
  clear HC4
  by_cases c5 : a1 = 35
  ·rw [if_pos c5] at H
   have c5b0 : (a1 == 35) = true:=beq_iff_eq.mpr c5
   have c5b1 : (a1 != 35) = false:=bne_eq_false_iff_eq.mpr c5
   clear c5
   (first|rw [c5b0]|(simp only [i64_w,i32_w];rw [c5b0])|skip)
   replace H:=Option.bind_eq_some_iff.mp H
   obtain ⟨t400,A60,H⟩:=H
   replace H : (if t400 = true then (spec_reader_sign.j0 k a1 a2 true s0_0 s0_1 s0_2) else ((spec_reader_escapes.f s0_0 s0_1 s0_2 1).bind fun bt401 => (spec_reader_sign.j0 k a1 a2 bt401.1 s0_0 bt401.2.1 bt401.2.2))) = some (r1,r2,r3):=H
   have A6:=Aside0.mk A60
   clear A60
   by_cases c7 : t400 = true
   ·subst c7
    have H1 : (spec_reader_sign.j0 k a1 a2 true s0_0 s0_1 s0_2) = some (r1,r2,r3):=by rw [if_pos rfl] at H;exact H
    clear H
    have H:=H1
    clear H1
    have H':=Aside0.mk H
    clear H
    go_wp2_with (first|(go_at_call 142;(with_reducible refine (spec_isNameByte.calls a2 true _ A6.out).mono ?_);rintro e w' ⟨rfl,⟨nd,rfl⟩⟩))
    go_meet
    case rel => exact ⟨_,(true),(s0_1),(s0_2),(by first|rfl|(simp;done)|(simp [*];done)),H',⟨by first|omega|exact Nat.le_refl _⟩,⟨by repeat (first|(with_reducible first|exact HI0.out|apply sA|apply sB|apply sC|apply sD|apply sE)|exact HI0.out)⟩,⟨by repeat (first|(with_reducible first|exact HK.out|apply kA|apply kB|apply kC|apply kD)|exact HK.out)⟩,⟨by repeat (first|(with_reducible first|exact HB.out|apply bA|apply bB|apply bC|refine bD ?_ (IsS115.ge HI0.out))|exact HB.out)⟩⟩
   ·replace c7:=Bool.eq_false_iff.mpr c7
    subst c7
    have H1 : ((spec_reader_escapes.f s0_0 s0_1 s0_2 1).bind fun bt401 => (spec_reader_sign.j0 k a1 a2 bt401.1 s0_0 bt401.2.1 bt401.2.2)) = some (r1,r2,r3):=by rw [if_neg (show ¬ (false = true) by decide)] at H;exact H
    clear H
    have H:=H1
    clear H1
    replace H:=Option.bind_eq_some_iff.mp H
    obtain ⟨⟨t401,t402,t403⟩,A80,H⟩:=H
    replace H : (spec_reader_sign.j0 k a1 a2 t401 s0_0 t402 t403) = some (r1,r2,r3):=H
    have A8:=Aside0.mk A80
    clear A80
    have H':=Aside0.mk H
    clear H
    go_wp2_with (first|(go_at_call 142;(with_reducible refine (spec_isNameByte.calls a2 false _ A6.out).mono ?_);rintro e w' ⟨rfl,⟨nd,rfl⟩⟩)|(go_at_call 135;(with_reducible refine (spec_reader_escapes.calls g s0_0 s0_1 s0_2 1 t401 t402 t403 w0 _ ?side1 ?side2 A8.out).mono ?_);(case side1 => repeat (first|(with_reducible first|exact HI0.out|apply sA|apply sB|apply sC|apply sD|apply sE)|exact HI0.out));(case side2 => repeat (first|(with_reducible first|exact HB.out|apply bA|apply bB|apply bC|refine bD ?_ (IsS115.ge HI0.out))|exact HB.out));rintro e w9 ⟨rfl,hi,hb,hk⟩;have n0_:=Aside0.mk (KeepBut.trans (by repeat (first|(with_reducible first|exact HK.out|apply kA|apply kB|apply kC|apply kD)|exact HK.out)) hk (.inl rfl));have n1_:=Aside0.mk (hb);have n2_:=Aside0.mk (hi);clear HK;clear HB;clear HI0;have HK:=n0_;have HB:=n1_;have HI0:=n2_;clear n0_ n1_ n2_;(try clear hb);(try clear hb2);(try clear hk);(try clear hi)))
    go_meet
    case rel => exact ⟨_,(t401),(t402),(t403),(by first|rfl|(simp;done)|(simp [*];done)),H',⟨by first|omega|exact Nat.le_refl _⟩,⟨by repeat (first|(with_reducible first|exact HI0.out|apply sA|apply sB|apply sC|apply sD|apply sE)|exact HI0.out)⟩,⟨by repeat (first|(with_reducible first|exact HK.out|apply kA|apply kB|apply kC|apply kD)|exact HK.out)⟩,⟨by repeat (first|(with_reducible first|exact HB.out|apply bA|apply bB|apply bC|refine bD ?_ (IsS115.ge HI0.out))|exact HB.out)⟩⟩
  ·rw [if_neg c5] at H
   have c5b0 : (a1 == 35) = false:=beq_eq_false_iff_ne.mpr c5
   have c5b1 : (a1 != 35) = true:=bne_iff_ne.mpr c5
   (first|rw [c5b0]|(simp only [i64_w,i32_w];rw [c5b0])|skip)
   have H':=Aside0.mk H
   clear H
   go_wp2
   go_meet
   case rel => exact ⟨_,(false),(s0_1),(s0_2),(by first|rfl|(simp;done)|(simp [*];done)),H',⟨by first|omega|exact Nat.le_refl _⟩,⟨by repeat (first|(with_reducible first|exact HI0.out|apply sA|apply sB|apply sC|apply sD|apply sE)|exact HI0.out)⟩,⟨by repeat (first|(with_reducible first|exact HK.out|apply kA|apply kB|apply kC|apply kD)|exact HK.out)⟩,⟨by repeat (first|(with_reducible first|exact HB.out|apply bA|apply bB|apply bC|refine bD ?_ (IsS115.ge HI0.out))|exact HB.out)⟩⟩
 case rest =>
  clear HC4
  try clear c1
  try clear p2
  try clear c5
  try clear c5b0
  try clear c5b1
  try clear c7
  obtain ⟨kq,x7_3,x1001_3,x1002_3,rfl,HA,HJ3,HI0,HK,HB⟩:=hcut
  cases kq with
  | zero => exact absurd HA.out (by simp [spec_reader_sign.j0])
  | succ kj3 =>
   have H:=HA.out
   clear HA
   simp only [spec_reader_sign.j0] at H
   by_cases c10 : x7_3 = true
   ·subst c10
    have H1 : ((spec_reader_name.f kj3 s0_0 (wrap64 (x1001_3 + 1)) x1002_3).bind fun bt404 => (some ((⟨#[104,97,115,104]⟩ : ByteArray),bt404.1,bt404.2))) = some (r1,r2,r3):=by rw [if_pos rfl] at H;exact H
    clear H
    have H:=H1
    clear H1
    replace H:=Option.bind_eq_some_iff.mp H
    obtain ⟨⟨t404,t405⟩,A110,H⟩:=H
    replace H : (some ((⟨#[104,97,115,104]⟩ : ByteArray),t404,t405)) = some (r1,r2,r3):=H
    have A11:=Aside0.mk A110
    clear A110
    simp only [Option.some.injEq,Prod.mk.injEq] at H
    obtain ⟨rfl,rfl,rfl⟩:=H
    obtain ⟨ASz12_0,cSz12_0,HGz12,hgz12,HSz12_0⟩:=HI0.out
    have hcz12_0:=cellS115_0 HGz12
    have hcz12_1:=cellS115_1 HGz12
    have hcz12_2:=cellS115_2 HGz12
    have hfz12_1:=blk_frozen HGz12 1
    have hfz12_2:=blk_frozen HGz12 2
    clear HGz12 hgz12
    go_wp2_with (first|((with_reducible refine gate_callee (f:=139) rfl ?_);refine goesL_ (some 26) rfl rfl Tryz.func139 (by kernel_rfl) rfl #[.pointer (some ⟨g,0,none⟩)] rfl (by (try simp only [List.map_toArray,List.map_cons,List.map_nil]);first|done|rfl|(simp only [List.length_drop,List.length_take];rfl)) ?_;(with_reducible refine (spec_reader_name.calls kj3 g s0_0 (wrap64 (x1001_3 + 1)) x1002_3 t404 t405 w0 _ ?side1 ?side2 A11.out).mono ?_);(case side1 => repeat (first|(with_reducible first|exact HI0.out|apply sA|apply sB|apply sC|apply sD|apply sE)|exact HI0.out));(case side2 => repeat (first|(with_reducible first|exact HB.out|apply bA|apply bB|apply bC|refine bD ?_ (IsS115.ge HI0.out))|exact HB.out));rintro e w13 ⟨rfl,hi,hb,hk⟩;refine ⟨_,rfl,?_⟩;have n0_:=Aside0.mk (KeepBut.trans (by repeat (first|(with_reducible first|exact HK.out|apply kA|apply kB|apply kC|apply kD)|exact HK.out)) hk (.inl rfl));have n1_:=Aside0.mk (hb);have n2_:=Aside0.mk (hi);clear HK;clear HB;clear HI0;have HK:=n0_;have HB:=n1_;have HI0:=n2_;clear n0_ n1_ n2_;(try clear hb);(try clear hb2);(try clear hk);(try clear hi)))
    go_ret
    exact ⟨by first|rfl|(simp [errW_none,errW_some] <;> rfl)|(simp [*,errW_none,errW_some] <;> rfl),by repeat (first|(with_reducible first|exact HI0.out|apply sA|apply sB|apply sC|apply sD|apply sE)|exact HI0.out),by repeat (first|(with_reducible first|exact HB.out|apply bA|apply bB|apply bC|refine bD ?_ (IsS115.ge HI0.out))|exact HB.out),by repeat (first|(with_reducible first|exact HK.out|apply kA|apply kB|apply kC|apply kD)|exact HK.out)⟩
   ·replace c10:=Bool.eq_false_iff.mpr c10
    subst c10
    have H1 : (if a1 = 64 then ((spec_reader_identifies.f kj3 s0_0 x1001_3 x1002_3 1).bind fun bt406 => (spec_reader_sign.j1 kj3 a1 a2 bt406.1 s0_0 bt406.2.1 bt406.2.2)) else (spec_reader_sign.j1 kj3 a1 a2 false s0_0 x1001_3 x1002_3)) = some (r1,r2,r3):=by rw [if_neg (show ¬ (false = true) by decide)] at H;exact H
    clear H
    have H:=H1
    clear H1
    have HC14:=Aside0.mk H
    clear H
    go_upto_region 5 with (fail)
    go_cut [27] (fun v27 wc => ∃ (kq : Nat) (x27_13 : Bool) (x1001_13 : Int) (x1002_13 : Bool),v27 = .bool x27_13 ∧ Aside0 (spec_reader_sign.j1 kq a1 a2 x27_13 s0_0 x1001_13 x1002_13 = some (r1,r2,r3)) ∧ Aside0 (kq ≤ kj3) ∧ Aside0 (IsS115 w0 wc g s0_0 x1001_13 x1002_13) ∧ Aside0 (KeepBut w wc g none) ∧ Aside0 (Below w0.heap.size w0 wc))
    case first =>
     have H:=HC14.out
     clear HC14
     by_cases c15 : a1 = 64
     ·rw [if_pos c15] at H
      have c15b0 : (a1 == 64) = true:=beq_iff_eq.mpr c15
      have c15b1 : (a1 != 64) = false:=bne_eq_false_iff_eq.mpr c15
      clear c15
      (first|rw [c15b0]|(simp only [i64_w,i32_w];rw [c15b0])|skip)
      replace H:=Option.bind_eq_some_iff.mp H
      obtain ⟨⟨t406,t407,t408⟩,A160,H⟩:=H
      replace H : (spec_reader_sign.j1 kj3 a1 a2 t406 s0_0 t407 t408) = some (r1,r2,r3):=H
      have A16:=Aside0.mk A160
      clear A160
      have H':=Aside0.mk H
      clear H
      go_wp2_with (first|(go_at_call 113;(with_reducible refine (spec_reader_identifies.calls kj3 g s0_0 x1001_3 x1002_3 1 t406 t407 t408 w0 _ ?side1 ?side2 A16.out).mono ?_);(case side1 => repeat (first|(with_reducible first|exact HI0.out|apply sA|apply sB|apply sC|apply sD|apply sE)|exact HI0.out));(case side2 => repeat (first|(with_reducible first|exact HB.out|apply bA|apply bB|apply bC|refine bD ?_ (IsS115.ge HI0.out))|exact HB.out));rintro e w17 ⟨rfl,hi,hb,hk⟩;have n0_:=Aside0.mk (KeepBut.trans (by repeat (first|(with_reducible first|exact HK.out|apply kA|apply kB|apply kC|apply kD)|exact HK.out)) hk (.inl rfl));have n1_:=Aside0.mk (hb);have n2_:=Aside0.mk (hi);clear HK;clear HB;clear HI0;have HK:=n0_;have HB:=n1_;have HI0:=n2_;clear n0_ n1_ n2_;(try clear hb);(try clear hb2);(try clear hk);(try clear hi)))
      go_meet
      case rel => exact ⟨_,(t406),(t407),(t408),(by first|rfl|(simp;done)|(simp [*];done)),H',⟨by have:=HJ3.out;first|omega|exact Nat.le_refl _⟩,⟨by repeat (first|(with_reducible first|exact HI0.out|apply sA|apply sB|apply sC|apply sD|apply sE)|exact HI0.out)⟩,⟨by repeat (first|(with_reducible first|exact HK.out|apply kA|apply kB|apply kC|apply kD)|exact HK.out)⟩,⟨by repeat (first|(with_reducible first|exact HB.out|apply bA|apply bB|apply bC|refine bD ?_ (IsS115.ge HI0.out))|exact HB.out)⟩⟩
     ·rw [if_neg c15] at H
      have c15b0 : (a1 == 64) = false:=beq_eq_false_iff_ne.mpr c15
      have c15b1 : (a1 != 64) = true:=bne_iff_ne.mpr c15
      (first|rw [c15b0]|(simp only [i64_w,i32_w];rw [c15b0])|skip)
      have H':=Aside0.mk H
      clear H
      go_wp2
      go_meet
      case rel => exact ⟨_,(false),(x1001_3),(x1002_3),(by first|rfl|(simp;done)|(simp [*];done)),H',⟨by have:=HJ3.out;first|omega|exact Nat.le_refl _⟩,⟨by repeat (first|(with_reducible first|exact HI0.out|apply sA|apply sB|apply sC|apply sD|apply sE)|exact HI0.out)⟩,⟨by repeat (first|(with_reducible first|exact HK.out|apply kA|apply kB|apply kC|apply kD)|exact HK.out)⟩,⟨by repeat (first|(with_reducible first|exact HB.out|apply bA|apply bB|apply bC|refine bD ?_ (IsS115.ge HI0.out))|exact HB.out)⟩⟩
    case rest =>
     clear HC14
     try clear c1
     try clear p2
     try clear c5
     try clear c5b0
     try clear c5b1
     try clear p6
     try clear c7
     try clear c10
     try clear c11
     try clear c13
     try clear c15
     try clear c15b0
     try clear c15b1
     try clear hcz12_0
     try clear hcz12_1
     try clear hcz12_2
     try clear hfz12_1
     try clear hfz12_2
     try clear p2
     obtain ⟨kq,x27_13,x1001_13,x1002_13,rfl,HA,HJ13,HI0,HK,HB⟩:=hcut
     cases kq with
     | zero => exact absurd HA.out (by simp [spec_reader_sign.j1])
     | succ kj13 =>
      have H:=HA.out
      clear HA
      simp only [spec_reader_sign.j1] at H
      by_cases c18 : x27_13 = true
      ·subst c18
       have H1 : ((spec_reader_name.f kj13 s0_0 (wrap64 (x1001_13 + 1)) x1002_13).bind fun bt409 => (some ((⟨#[97,116]⟩ : ByteArray),bt409.1,bt409.2))) = some (r1,r2,r3):=by rw [if_pos rfl] at H;exact H
       clear H
       have H:=H1
       clear H1
       replace H:=Option.bind_eq_some_iff.mp H
       obtain ⟨⟨t409,t410⟩,A190,H⟩:=H
       replace H : (some ((⟨#[97,116]⟩ : ByteArray),t409,t410)) = some (r1,r2,r3):=H
       have A19:=Aside0.mk A190
       clear A190
       simp only [Option.some.injEq,Prod.mk.injEq] at H
       obtain ⟨rfl,rfl,rfl⟩:=H
       obtain ⟨ASz20_0,cSz20_0,HGz20,hgz20,HSz20_0⟩:=HI0.out
       have hcz20_0:=cellS115_0 HGz20
       have hcz20_1:=cellS115_1 HGz20
       have hcz20_2:=cellS115_2 HGz20
       have hfz20_1:=blk_frozen HGz20 1
       have hfz20_2:=blk_frozen HGz20 2
       clear HGz20 hgz20
       go_wp2_with (first|((with_reducible refine gate_callee (f:=139) rfl ?_);refine goesL_ (some 42) rfl rfl Tryz.func139 (by kernel_rfl) rfl #[.pointer (some ⟨g,0,none⟩)] rfl (by (try simp only [List.map_toArray,List.map_cons,List.map_nil]);first|done|rfl|(simp only [List.length_drop,List.length_take];rfl)) ?_;(with_reducible refine (spec_reader_name.calls kj13 g s0_0 (wrap64 (x1001_13 + 1)) x1002_13 t409 t410 w0 _ ?side1 ?side2 A19.out).mono ?_);(case side1 => repeat (first|(with_reducible first|exact HI0.out|apply sA|apply sB|apply sC|apply sD|apply sE)|exact HI0.out));(case side2 => repeat (first|(with_reducible first|exact HB.out|apply bA|apply bB|apply bC|refine bD ?_ (IsS115.ge HI0.out))|exact HB.out));rintro e w21 ⟨rfl,hi,hb,hk⟩;refine ⟨_,rfl,?_⟩;have n0_:=Aside0.mk (KeepBut.trans (by repeat (first|(with_reducible first|exact HK.out|apply kA|apply kB|apply kC|apply kD)|exact HK.out)) hk (.inl rfl));have n1_:=Aside0.mk (hb);have n2_:=Aside0.mk (hi);clear HK;clear HB;clear HI0;have HK:=n0_;have HB:=n1_;have HI0:=n2_;clear n0_ n1_ n2_;(try clear hb);(try clear hb2);(try clear hk);(try clear hi)))
       go_ret
       exact ⟨by first|rfl|(simp [errW_none,errW_some] <;> rfl)|(simp [*,errW_none,errW_some] <;> rfl),by repeat (first|(with_reducible first|exact HI0.out|apply sA|apply sB|apply sC|apply sD|apply sE)|exact HI0.out),by repeat (first|(with_reducible first|exact HB.out|apply bA|apply bB|apply bC|refine bD ?_ (IsS115.ge HI0.out))|exact HB.out),by repeat (first|(with_reducible first|exact HK.out|apply kA|apply kB|apply kC|apply kD)|exact HK.out)⟩
      ·replace c18:=Bool.eq_false_iff.mpr c18
       subst c18
       have H1 : (if a1 = 124 then (spec_reader_sign.j2 kj13 a1 a2 (a2 == 124) s0_0 x1001_13 x1002_13) else (spec_reader_sign.j2 kj13 a1 a2 false s0_0 x1001_13 x1002_13)) = some (r1,r2,r3):=by rw [if_neg (show ¬ (false = true) by decide)] at H;exact H
       clear H
       have H:=H1
       clear H1
       have HC22:=Aside0.mk H
       clear H
       go_upto_region 9 with (fail)
       go_cut [43] (fun v43 wc => ∃ (kq : Nat) (x43_21 : Bool),v43 = .bool x43_21 ∧ Aside0 (spec_reader_sign.j2 kq a1 a2 x43_21 s0_0 x1001_13 x1002_13 = some (r1,r2,r3)) ∧ Aside0 (kq ≤ kj13) ∧ Aside0 (IsS115 w0 wc g s0_0 x1001_13 x1002_13) ∧ Aside0 (KeepBut w wc g none) ∧ Aside0 (Below w0.heap.size w0 wc))
       case first =>
        have H:=HC22.out
        clear HC22
        by_cases c23 : a1 = 124
        ·rw [if_pos c23] at H
         have c23b0 : (a1 == 124) = true:=beq_iff_eq.mpr c23
         have c23b1 : (a1 != 124) = false:=bne_eq_false_iff_eq.mpr c23
         clear c23
         (first|rw [c23b0]|(simp only [i64_w,i32_w];rw [c23b0])|skip)
         have H':=Aside0.mk H
         clear H
         go_wp2
         go_meet
         case rel => exact ⟨_,((a2 == 124)),(by first|rfl|(simp;done)|(simp [*];done)),H',⟨by have:=HJ3.out;have:=HJ13.out;first|omega|exact Nat.le_refl _⟩,⟨by repeat (first|(with_reducible first|exact HI0.out|apply sA|apply sB|apply sC|apply sD|apply sE)|exact HI0.out)⟩,⟨by repeat (first|(with_reducible first|exact HK.out|apply kA|apply kB|apply kC|apply kD)|exact HK.out)⟩,⟨by repeat (first|(with_reducible first|exact HB.out|apply bA|apply bB|apply bC|refine bD ?_ (IsS115.ge HI0.out))|exact HB.out)⟩⟩
        ·rw [if_neg c23] at H
         have c23b0 : (a1 == 124) = false:=beq_eq_false_iff_ne.mpr c23
         have c23b1 : (a1 != 124) = true:=bne_iff_ne.mpr c23
         (first|rw [c23b0]|(simp only [i64_w,i32_w];rw [c23b0])|skip)
         have H':=Aside0.mk H
         clear H
         go_wp2
         go_meet
         case rel => exact ⟨_,(false),(by first|rfl|(simp;done)|(simp [*];done)),H',⟨by have:=HJ3.out;have:=HJ13.out;first|omega|exact Nat.le_refl _⟩,⟨by repeat (first|(with_reducible first|exact HI0.out|apply sA|apply sB|apply sC|apply sD|apply sE)|exact HI0.out)⟩,⟨by repeat (first|(with_reducible first|exact HK.out|apply kA|apply kB|apply kC|apply kD)|exact HK.out)⟩,⟨by repeat (first|(with_reducible first|exact HB.out|apply bA|apply bB|apply bC|refine bD ?_ (IsS115.ge HI0.out))|exact HB.out)⟩⟩
       case rest =>
        clear HC22
        try clear c1
        try clear c2
        try clear p2
        try clear c5
        try clear c5b0
        try clear c5b1
        try clear p6
        try clear c7
        try clear c10
        try clear c11
        try clear c13
        try clear c15
        try clear c15b0
        try clear c15b1
        try clear c18
        try clear c23
        try clear c23b0
        try clear c23b1
        try clear hcz12_0
        try clear hcz12_1
        try clear hcz12_2
        try clear hcz20_0
        try clear hcz20_1
        try clear hcz20_2
        try clear hfz12_1
        try clear hfz12_2
        try clear hfz20_1
        try clear hfz20_2
        try clear p2
        try clear p6
        obtain ⟨kq,x43_21,rfl,HA,HJ21,HI0,HK,HB⟩:=hcut
        cases kq with
        | zero => exact absurd HA.out (by simp [spec_reader_sign.j2])
        | succ kj21 =>
         have H:=HA.out
         clear HA
         simp only [spec_reader_sign.j2] at H
         by_cases c24 : x43_21 = true
         ·subst c24
          have H1 : ((spec_reader_two.f s0_0 x1001_13 x1002_13 (⟨#[124,124]⟩ : ByteArray)).bind fun bt411 => (some (bt411.1,bt411.2.1,bt411.2.2))) = some (r1,r2,r3):=by rw [if_pos rfl] at H;exact H
          clear H
          have H:=H1
          clear H1
          replace H:=Option.bind_eq_some_iff.mp H
          obtain ⟨⟨t411,t412,t413⟩,A250,H⟩:=H
          replace H : (some (t411,t412,t413)) = some (r1,r2,r3):=H
          have A25:=Aside0.mk A250
          clear A250
          simp only [Option.some.injEq,Prod.mk.injEq] at H
          obtain ⟨rfl,rfl,rfl⟩:=H
          go_wp2_with (first|((with_reducible refine gate_callee (f:=143) rfl ?_);refine goesL_ (some 51) rfl rfl Tryz.func143 (by kernel_rfl) rfl #[.pointer (some ⟨g,0,none⟩),.string (⟨#[124,124]⟩ : ByteArray)] rfl (by (try simp only [List.map_toArray,List.map_cons,List.map_nil]);first|done|rfl|(simp only [List.length_drop,List.length_take];rfl)) ?_;(with_reducible refine (spec_reader_two.calls g s0_0 x1001_13 x1002_13 (⟨#[124,124]⟩ : ByteArray) t411 t412 t413 w0 _ ?side1 ?side2 A25.out).mono ?_);(case side1 => repeat (first|(with_reducible first|exact HI0.out|apply sA|apply sB|apply sC|apply sD|apply sE)|exact HI0.out));(case side2 => repeat (first|(with_reducible first|exact HB.out|apply bA|apply bB|apply bC|refine bD ?_ (IsS115.ge HI0.out))|exact HB.out));rintro e w26 ⟨rfl,hi,hb,hk⟩;refine ⟨_,rfl,?_⟩;have n0_:=Aside0.mk (KeepBut.trans (by repeat (first|(with_reducible first|exact HK.out|apply kA|apply kB|apply kC|apply kD)|exact HK.out)) hk (.inl rfl));have n1_:=Aside0.mk (hb);have n2_:=Aside0.mk (hi);clear HK;clear HB;clear HI0;have HK:=n0_;have HB:=n1_;have HI0:=n2_;clear n0_ n1_ n2_;(try clear hb);(try clear hb2);(try clear hk);(try clear hi)))
          go_ret
          exact ⟨by first|rfl|(simp [errW_none,errW_some] <;> rfl)|(simp [*,errW_none,errW_some] <;> rfl),by repeat (first|(with_reducible first|exact HI0.out|apply sA|apply sB|apply sC|apply sD|apply sE)|exact HI0.out),by repeat (first|(with_reducible first|exact HB.out|apply bA|apply bB|apply bC|refine bD ?_ (IsS115.ge HI0.out))|exact HB.out),by repeat (first|(with_reducible first|exact HK.out|apply kA|apply kB|apply kC|apply kD)|exact HK.out)⟩
         ·replace c24:=Bool.eq_false_iff.mpr c24
          subst c24
          have H1 : (if a2 = 61 then (if a1 = 126 then (spec_reader_sign.j3 kj21 a1 a2 true s0_0 x1001_13 x1002_13) else (if a1 = 124 then (spec_reader_sign.j3 kj21 a1 a2 true s0_0 x1001_13 x1002_13) else (if a1 = 94 then (spec_reader_sign.j3 kj21 a1 a2 true s0_0 x1001_13 x1002_13) else (if a1 = 36 then (spec_reader_sign.j3 kj21 a1 a2 true s0_0 x1001_13 x1002_13) else (spec_reader_sign.j3 kj21 a1 a2 (a1 == 42) s0_0 x1001_13 x1002_13))))) else (spec_reader_sign.j3 kj21 a1 a2 false s0_0 x1001_13 x1002_13)) = some (r1,r2,r3):=by rw [if_neg (show ¬ (false = true) by decide)] at H;exact H
          clear H
          have H:=H1
          clear H1
          have HC27:=Aside0.mk H
          clear H
          go_upto_region 11 with (fail)
          go_cut [52] (fun v52 wc => ∃ (kq : Nat) (x52_26 : Bool),v52 = .bool x52_26 ∧ Aside0 (spec_reader_sign.j3 kq a1 a2 x52_26 s0_0 x1001_13 x1002_13 = some (r1,r2,r3)) ∧ Aside0 (kq ≤ kj21) ∧ Aside0 (IsS115 w0 wc g s0_0 x1001_13 x1002_13) ∧ Aside0 (KeepBut w wc g none) ∧ Aside0 (Below w0.heap.size w0 wc))
          case first =>
           have H:=HC27.out
           clear HC27
           by_cases c28 : a2 = 61
           ·rw [if_pos c28] at H
            have c28b0 : (a2 == 61) = true:=beq_iff_eq.mpr c28
            have c28b1 : (a2 != 61) = false:=bne_eq_false_iff_eq.mpr c28
            clear c28
            (first|rw [c28b0]|(simp only [i64_w,i32_w];rw [c28b0])|skip)
            by_cases c29 : a1 = 126
            ·rw [if_pos c29] at H
             have c29b0 : (a1 == 126) = true:=beq_iff_eq.mpr c29
             have c29b1 : (a1 != 126) = false:=bne_eq_false_iff_eq.mpr c29
             clear c29
             have H':=Aside0.mk H
             clear H
             go_wp2
             go_meet
             case rel => exact ⟨_,(true),(by first|rfl|(simp;done)|(simp [*];done)),H',⟨by have:=HJ3.out;have:=HJ13.out;have:=HJ21.out;first|omega|exact Nat.le_refl _⟩,⟨by repeat (first|(with_reducible first|exact HI0.out|apply sA|apply sB|apply sC|apply sD|apply sE)|exact HI0.out)⟩,⟨by repeat (first|(with_reducible first|exact HK.out|apply kA|apply kB|apply kC|apply kD)|exact HK.out)⟩,⟨by repeat (first|(with_reducible first|exact HB.out|apply bA|apply bB|apply bC|refine bD ?_ (IsS115.ge HI0.out))|exact HB.out)⟩⟩
            ·rw [if_neg c29] at H
             have c29b0 : (a1 == 126) = false:=beq_eq_false_iff_ne.mpr c29
             have c29b1 : (a1 != 126) = true:=bne_iff_ne.mpr c29
             by_cases c30 : a1 = 124
             ·rw [if_pos c30] at H
              have c30b0 : (a1 == 124) = true:=beq_iff_eq.mpr c30
              have c30b1 : (a1 != 124) = false:=bne_eq_false_iff_eq.mpr c30
              clear c30
              have H':=Aside0.mk H
              clear H
              go_wp2
              go_meet
              case rel => exact ⟨_,(true),(by first|rfl|(simp;done)|(simp [*];done)),H',⟨by have:=HJ3.out;have:=HJ13.out;have:=HJ21.out;first|omega|exact Nat.le_refl _⟩,⟨by repeat (first|(with_reducible first|exact HI0.out|apply sA|apply sB|apply sC|apply sD|apply sE)|exact HI0.out)⟩,⟨by repeat (first|(with_reducible first|exact HK.out|apply kA|apply kB|apply kC|apply kD)|exact HK.out)⟩,⟨by repeat (first|(with_reducible first|exact HB.out|apply bA|apply bB|apply bC|refine bD ?_ (IsS115.ge HI0.out))|exact HB.out)⟩⟩
             ·rw [if_neg c30] at H
              have c30b0 : (a1 == 124) = false:=beq_eq_false_iff_ne.mpr c30
              have c30b1 : (a1 != 124) = true:=bne_iff_ne.mpr c30
              by_cases c31 : a1 = 94
              ·rw [if_pos c31] at H
               have c31b0 : (a1 == 94) = true:=beq_iff_eq.mpr c31
               have c31b1 : (a1 != 94) = false:=bne_eq_false_iff_eq.mpr c31
               clear c31
               have H':=Aside0.mk H
               clear H
               go_wp2
               go_meet
               case rel => exact ⟨_,(true),(by first|rfl|(simp;done)|(simp [*];done)),H',⟨by have:=HJ3.out;have:=HJ13.out;have:=HJ21.out;first|omega|exact Nat.le_refl _⟩,⟨by repeat (first|(with_reducible first|exact HI0.out|apply sA|apply sB|apply sC|apply sD|apply sE)|exact HI0.out)⟩,⟨by repeat (first|(with_reducible first|exact HK.out|apply kA|apply kB|apply kC|apply kD)|exact HK.out)⟩,⟨by repeat (first|(with_reducible first|exact HB.out|apply bA|apply bB|apply bC|refine bD ?_ (IsS115.ge HI0.out))|exact HB.out)⟩⟩
              ·rw [if_neg c31] at H
               have c31b0 : (a1 == 94) = false:=beq_eq_false_iff_ne.mpr c31
               have c31b1 : (a1 != 94) = true:=bne_iff_ne.mpr c31
               by_cases c32 : a1 = 36
               ·rw [if_pos c32] at H
                have c32b0 : (a1 == 36) = true:=beq_iff_eq.mpr c32
                have c32b1 : (a1 != 36) = false:=bne_eq_false_iff_eq.mpr c32
                clear c32
                have H':=Aside0.mk H
                clear H
                go_wp2
                go_meet
                case rel => exact ⟨_,(true),(by first|rfl|(simp;done)|(simp [*];done)),H',⟨by have:=HJ3.out;have:=HJ13.out;have:=HJ21.out;first|omega|exact Nat.le_refl _⟩,⟨by repeat (first|(with_reducible first|exact HI0.out|apply sA|apply sB|apply sC|apply sD|apply sE)|exact HI0.out)⟩,⟨by repeat (first|(with_reducible first|exact HK.out|apply kA|apply kB|apply kC|apply kD)|exact HK.out)⟩,⟨by repeat (first|(with_reducible first|exact HB.out|apply bA|apply bB|apply bC|refine bD ?_ (IsS115.ge HI0.out))|exact HB.out)⟩⟩
               ·rw [if_neg c32] at H
                have c32b0 : (a1 == 36) = false:=beq_eq_false_iff_ne.mpr c32
                have c32b1 : (a1 != 36) = true:=bne_iff_ne.mpr c32
                have H':=Aside0.mk H
                clear H
                go_wp2
                go_meet
                case rel => exact ⟨_,((a1 == 42)),(by first|rfl|(simp;done)|(simp [*];done)),H',⟨by have:=HJ3.out;have:=HJ13.out;have:=HJ21.out;first|omega|exact Nat.le_refl _⟩,⟨by repeat (first|(with_reducible first|exact HI0.out|apply sA|apply sB|apply sC|apply sD|apply sE)|exact HI0.out)⟩,⟨by repeat (first|(with_reducible first|exact HK.out|apply kA|apply kB|apply kC|apply kD)|exact HK.out)⟩,⟨by repeat (first|(with_reducible first|exact HB.out|apply bA|apply bB|apply bC|refine bD ?_ (IsS115.ge HI0.out))|exact HB.out)⟩⟩
           ·rw [if_neg c28] at H
            have c28b0 : (a2 == 61) = false:=beq_eq_false_iff_ne.mpr c28
            have c28b1 : (a2 != 61) = true:=bne_iff_ne.mpr c28
            (first|rw [c28b0]|(simp only [i64_w,i32_w];rw [c28b0])|skip)
            have H':=Aside0.mk H
            clear H
            go_wp2
            go_meet
            case rel => exact ⟨_,(false),(by first|rfl|(simp;done)|(simp [*];done)),H',⟨by have:=HJ3.out;have:=HJ13.out;have:=HJ21.out;first|omega|exact Nat.le_refl _⟩,⟨by repeat (first|(with_reducible first|exact HI0.out|apply sA|apply sB|apply sC|apply sD|apply sE)|exact HI0.out)⟩,⟨by repeat (first|(with_reducible first|exact HK.out|apply kA|apply kB|apply kC|apply kD)|exact HK.out)⟩,⟨by repeat (first|(with_reducible first|exact HB.out|apply bA|apply bB|apply bC|refine bD ?_ (IsS115.ge HI0.out))|exact HB.out)⟩⟩
          case rest =>
           clear HC27
           try clear c1
           try clear c2
           try clear p2
           try clear c3
           try clear c5
           try clear c5b0
           try clear c5b1
           try clear p6
           try clear c7
           try clear c10
           try clear c11
           try clear c13
           try clear c14
           try clear c15
           try clear c15b0
           try clear c15b1
           try clear c18
           try clear c23
           try clear c23b0
           try clear c23b1
           try clear c24
           try clear c28
           try clear c28b0
           try clear c28b1
           try clear c29
           try clear c29b0
           try clear c29b1
           try clear c30
           try clear c30b0
           try clear c30b1
           try clear c31
           try clear c31b0
           try clear c31b1
           try clear c32
           try clear c32b0
           try clear c32b1
           try clear hcz12_0
           try clear hcz12_1
           try clear hcz12_2
           try clear hcz20_0
           try clear hcz20_1
           try clear hcz20_2
           try clear hfz12_1
           try clear hfz12_2
           try clear hfz20_1
           try clear hfz20_2
           try clear p2
           try clear p6
           obtain ⟨kq,x52_26,rfl,HA,HJ26,HI0,HK,HB⟩:=hcut
           cases kq with
           | zero => exact absurd HA.out (by simp [spec_reader_sign.j3])
           | succ kj26 =>
            have H:=HA.out
            clear HA
            simp only [spec_reader_sign.j3] at H
            by_cases c33 : x52_26 = true
            ·subst c33
             have H1 : ((spec_reader_two.f s0_0 x1001_13 x1002_13 (strOfNums (([a1,61] : List Int)))).bind fun bt417 => (some (bt417.1,bt417.2.1,bt417.2.2))) = some (r1,r2,r3):=by rw [if_pos rfl] at H;exact H
             clear H
             have H:=H1
             clear H1
             obtain ⟨y414,hy414⟩ : ∃ y_ : List Int,y_ = (([a1,61] : List Int)):=⟨_,rfl⟩
             replace H : ((spec_reader_two.f s0_0 x1001_13 x1002_13 (strOfNums y414)).bind fun bt417 => (some (bt417.1,bt417.2.1,bt417.2.2))) = some (r1,r2,r3):=by first|(rw [hy414];with_reducible exact H)|(have H2_:=(Option.bind_some _ _).symm.trans H;rw [hy414];with_reducible exact H2_)|(have H2_:=(Option.bind_some _ _).symm.trans H;with_reducible exact H2_)|with_reducible exact H|(rw [hy414];exact H)|exact H
             have Ny414:=Aside0.mk hy414
             clear hy414
             replace H:=Option.bind_eq_some_iff.mp H
             obtain ⟨⟨t417,t418,t419⟩,A340,H⟩:=H
             replace H : (some (t417,t418,t419)) = some (r1,r2,r3):=H
             have A34:=Aside0.mk A340
             clear A340
             simp only [Option.some.injEq,Prod.mk.injEq] at H
             obtain ⟨rfl,rfl,rfl⟩:=H
             go_wp2_with (first|((with_reducible refine gate_dst (N:=77) rfl ?_);refine Kd.R_lit (Kd.int .u8) _ 5 ?hg (N:=77) ?hd (xs:=([a1,61] : List Int)) (inner:=[.int .u8 a1,.int .u8 61]) (ok:=fun _ => True) (okp:=fun _ => True) ?hr ?hp (fun _ hk => hk) trivial (Below.refl _ _) (Nat.le_refl _) (by simp) ?_;(case hd => rfl);(case hg => rfl);(case hr => first|(go_simp;done)|(go_simp;rfl));(case hp => exact (Reps.one (show Kd.M (Kd.int .u8) _ _ _ a1 [.int .u8 a1] from rfl) (Reps.one (show Kd.M (Kd.int .u8) _ _ _ 61 [.int .u8 61] from rfl) (Reps.none _ _))));intro v415 w35 ho36 hb hg_ hnew_;clear hg_ hnew_;(first|rw [← Ny414.out] at ho36|(simp only [Int.reduceToNat] at ho36;rw [← Ny414.out] at ho36));have n0_:=Aside0.mk (Kd.R_lower ho36 (keep_size (w:=w) (g:=g) (row:=none) (by repeat (first|(with_reducible first|exact HK.out|apply kA|apply kB|apply kC|apply kD)|exact HK.out))));have n1_:=Aside0.mk (IsS115.below (by repeat (first|(with_reducible first|exact HI0.out|apply sA|apply sB|apply sC|apply sD|apply sE)|exact HI0.out)) hb);have n2_:=Aside0.mk (KeepBut.trans (by repeat (first|(with_reducible first|exact HK.out|apply kA|apply kB|apply kC|apply kD)|exact HK.out)) (KeepBut.of_below hb g none) (.inl rfl));have n3_:=Aside0.mk (below_step (by repeat (first|(with_reducible first|exact HB.out|apply bA|apply bB|apply bC|refine bD ?_ (IsS115.ge HI0.out))|exact HB.out)) hb);clear HI0;clear HK;clear HB;have HO416:=n0_;have HI0:=n1_;have HK:=n2_;have HB:=n3_;clear n0_ n1_ n2_ n3_;clear hb ho36;have hcv37:=own_string (P:=Tryz.prog) Tryz.underlying24 Tryz.underlying5 Tryz.underlying9 (Kd.own_of_R HO416.out))|((with_reducible refine gate_callee (f:=143) rfl ?_);refine goesL_ (some 79) rfl rfl Tryz.func143 (by kernel_rfl) rfl #[.pointer (some ⟨g,0,none⟩),.string (strOfNums y414)] rfl (by (try simp only [List.map_toArray,List.map_cons,List.map_nil]);first|done|rfl|(simp only [List.length_drop,List.length_take];rfl)) ?_;(with_reducible refine (spec_reader_two.calls g s0_0 x1001_13 x1002_13 (strOfNums y414) t417 t418 t419 w0 _ ?side1 ?side2 A34.out).mono ?_);(case side1 => repeat (first|(with_reducible first|exact HI0.out|apply sA|apply sB|apply sC|apply sD|apply sE)|exact HI0.out));(case side2 => repeat (first|(with_reducible first|exact HB.out|apply bA|apply bB|apply bC|refine bD ?_ (IsS115.ge HI0.out))|exact HB.out));rintro e w38 ⟨rfl,hi,hb,hk⟩;refine ⟨_,rfl,?_⟩;have n0_:=Aside0.mk (Kd.R_mono (Kd.R_keep (IsS115.apart (show IsS115 w0 _ g s0_0 x1001_13 x1002_13 from by repeat (first|(with_reducible first|exact HI0.out|apply sA|apply sB|apply sC|apply sD|apply sE)|exact HI0.out)) (by (with_reducible repeat (first|apply Kd.R_alloc|apply Kd.R_drewN|apply Kd.R_drew));exact HO416.out) (by decide)) hk (fun _ h => h.2)) (fun _ h => h.1));have n1_:=Aside0.mk (KeepBut.trans (by repeat (first|(with_reducible first|exact HK.out|apply kA|apply kB|apply kC|apply kD)|exact HK.out)) hk (.inl rfl));have n2_:=Aside0.mk (hb);have n3_:=Aside0.mk (hi);clear HO416;clear HK;clear HB;clear HI0;have HO416:=n0_;have HK:=n1_;have HB:=n2_;have HI0:=n3_;clear n0_ n1_ n2_ n3_;(try clear hb);(try clear hb2);(try clear hk);(try clear hi)))
             go_ret
             exact ⟨by first|rfl|(simp [errW_none,errW_some] <;> rfl)|(simp [*,errW_none,errW_some] <;> rfl),by repeat (first|(with_reducible first|exact HI0.out|apply sA|apply sB|apply sC|apply sD|apply sE)|exact HI0.out),by repeat (first|(with_reducible first|exact HB.out|apply bA|apply bB|apply bC|refine bD ?_ (IsS115.ge HI0.out))|exact HB.out),by repeat (first|(with_reducible first|exact HK.out|apply kA|apply kB|apply kC|apply kD)|exact HK.out)⟩
            ·replace c33:=Bool.eq_false_iff.mpr c33
             subst c33
             have H1 : (if a1 = 60 then (if a2 = 33 then ((spec_reader_peek.f s0_0 x1001_13 x1002_13 2).bind fun bt420 => (if bt420.1 = 45 then ((spec_reader_peek.f s0_0 bt420.2.1 bt420.2.2 3).bind fun bt423 => (spec_reader_sign.j4 kj26 a1 (bt423.1 == 45) s0_0 bt423.2.1 bt423.2.2)) else (spec_reader_sign.j4 kj26 a1 false s0_0 bt420.2.1 bt420.2.2))) else (spec_reader_sign.j4 kj26 a1 false s0_0 x1001_13 x1002_13)) else (spec_reader_sign.j4 kj26 a1 false s0_0 x1001_13 x1002_13)) = some (r1,r2,r3):=by rw [if_neg (show ¬ (false = true) by decide)] at H;exact H
             clear H
             have H:=H1
             clear H1
             have HC39:=Aside0.mk H
             clear H
             go_upto_region 13 with (fail)
             go_cut [80] (fun v80 wc => ∃ (kq : Nat) (x80_38 : Bool) (x1001_38 : Int) (x1002_38 : Bool),v80 = .bool x80_38 ∧ Aside0 (spec_reader_sign.j4 kq a1 x80_38 s0_0 x1001_38 x1002_38 = some (r1,r2,r3)) ∧ Aside0 (kq ≤ kj26) ∧ Aside0 (IsS115 w0 wc g s0_0 x1001_38 x1002_38) ∧ Aside0 (KeepBut w wc g none) ∧ Aside0 (Below w0.heap.size w0 wc))
             case first =>
              have H:=HC39.out
              clear HC39
              by_cases c40 : a1 = 60
              ·rw [if_pos c40] at H
               have c40b0 : (a1 == 60) = true:=beq_iff_eq.mpr c40
               have c40b1 : (a1 != 60) = false:=bne_eq_false_iff_eq.mpr c40
               clear c40
               (first|rw [c40b0]|(simp only [i64_w,i32_w];rw [c40b0])|skip)
               by_cases c41 : a2 = 33
               ·rw [if_pos c41] at H
                have c41b0 : (a2 == 33) = true:=beq_iff_eq.mpr c41
                have c41b1 : (a2 != 33) = false:=bne_eq_false_iff_eq.mpr c41
                clear c41
                replace H:=Option.bind_eq_some_iff.mp H
                obtain ⟨⟨t420,t421,t422⟩,A420,H⟩:=H
                replace H : (if t420 = 45 then ((spec_reader_peek.f s0_0 t421 t422 3).bind fun bt423 => (spec_reader_sign.j4 kj26 a1 (bt423.1 == 45) s0_0 bt423.2.1 bt423.2.2)) else (spec_reader_sign.j4 kj26 a1 false s0_0 t421 t422)) = some (r1,r2,r3):=H
                have A42:=Aside0.mk A420
                clear A420
                by_cases c43 : t420 = 45
                ·rw [if_pos c43] at H
                 have c43b0 : (t420 == 45) = true:=beq_iff_eq.mpr c43
                 have c43b1 : (t420 != 45) = false:=bne_eq_false_iff_eq.mpr c43
                 clear c43
                 replace H:=Option.bind_eq_some_iff.mp H
                 obtain ⟨⟨t423,t424,t425⟩,A440,H⟩:=H
                 replace H : (spec_reader_sign.j4 kj26 a1 (t423 == 45) s0_0 t424 t425) = some (r1,r2,r3):=H
                 have A44:=Aside0.mk A440
                 clear A440
                 have H':=Aside0.mk H
                 clear H
                 go_wp2_with (first|(go_at_call 104;(with_reducible refine (spec_reader_peek.calls g s0_0 x1001_13 x1002_13 2 t420 t421 t422 w0 _ ?side1 ?side2 A42.out).mono ?_);(case side1 => repeat (first|(with_reducible first|exact HI0.out|apply sA|apply sB|apply sC|apply sD|apply sE)|exact HI0.out));(case side2 => repeat (first|(with_reducible first|exact HB.out|apply bA|apply bB|apply bC|refine bD ?_ (IsS115.ge HI0.out))|exact HB.out));rintro e w45 ⟨rfl,hi,hb,hk⟩;have n0_:=Aside0.mk (KeepBut.trans (by repeat (first|(with_reducible first|exact HK.out|apply kA|apply kB|apply kC|apply kD)|exact HK.out)) hk (.inl rfl));have n1_:=Aside0.mk (hb);have n2_:=Aside0.mk (hi);clear HK;clear HB;clear HI0;have HK:=n0_;have HB:=n1_;have HI0:=n2_;clear n0_ n1_ n2_;(try clear hb);(try clear hb2);(try clear hk);(try clear hi))|(go_at_call 104;(with_reducible refine (spec_reader_peek.calls g s0_0 t421 t422 3 t423 t424 t425 w0 _ ?side1 ?side2 A44.out).mono ?_);(case side1 => repeat (first|(with_reducible first|exact HI0.out|apply sA|apply sB|apply sC|apply sD|apply sE)|exact HI0.out));(case side2 => repeat (first|(with_reducible first|exact HB.out|apply bA|apply bB|apply bC|refine bD ?_ (IsS115.ge HI0.out))|exact HB.out));rintro e w46 ⟨rfl,hi,hb,hk⟩;have n0_:=Aside0.mk (KeepBut.trans (by repeat (first|(with_reducible first|exact HK.out|apply kA|apply kB|apply kC|apply kD)|exact HK.out)) hk (.inl rfl));have n1_:=Aside0.mk (hb);have n2_:=Aside0.mk (hi);clear HK;clear HB;clear HI0;have HK:=n0_;have HB:=n1_;have HI0:=n2_;clear n0_ n1_ n2_;(try clear hb);(try clear hb2);(try clear hk);(try clear hi)))
                 go_meet
                 case rel => exact ⟨_,((t423 == 45)),(t424),(t425),(by first|rfl|(simp;done)|(simp [*];done)),H',⟨by have:=HJ3.out;have:=HJ13.out;have:=HJ21.out;have:=HJ26.out;first|omega|exact Nat.le_refl _⟩,⟨by repeat (first|(with_reducible first|exact HI0.out|apply sA|apply sB|apply sC|apply sD|apply sE)|exact HI0.out)⟩,⟨by repeat (first|(with_reducible first|exact HK.out|apply kA|apply kB|apply kC|apply kD)|exact HK.out)⟩,⟨by repeat (first|(with_reducible first|exact HB.out|apply bA|apply bB|apply bC|refine bD ?_ (IsS115.ge HI0.out))|exact HB.out)⟩⟩
                ·rw [if_neg c43] at H
                 have c43b0 : (t420 == 45) = false:=beq_eq_false_iff_ne.mpr c43
                 have c43b1 : (t420 != 45) = true:=bne_iff_ne.mpr c43
                 have H':=Aside0.mk H
                 clear H
                 go_wp2_with (first|(go_at_call 104;(with_reducible refine (spec_reader_peek.calls g s0_0 x1001_13 x1002_13 2 t420 t421 t422 w0 _ ?side1 ?side2 A42.out).mono ?_);(case side1 => repeat (first|(with_reducible first|exact HI0.out|apply sA|apply sB|apply sC|apply sD|apply sE)|exact HI0.out));(case side2 => repeat (first|(with_reducible first|exact HB.out|apply bA|apply bB|apply bC|refine bD ?_ (IsS115.ge HI0.out))|exact HB.out));rintro e w47 ⟨rfl,hi,hb,hk⟩;have n0_:=Aside0.mk (KeepBut.trans (by repeat (first|(with_reducible first|exact HK.out|apply kA|apply kB|apply kC|apply kD)|exact HK.out)) hk (.inl rfl));have n1_:=Aside0.mk (hb);have n2_:=Aside0.mk (hi);clear HK;clear HB;clear HI0;have HK:=n0_;have HB:=n1_;have HI0:=n2_;clear n0_ n1_ n2_;(try clear hb);(try clear hb2);(try clear hk);(try clear hi)))
                 go_meet
                 case rel => exact ⟨_,(false),(t421),(t422),(by first|rfl|(simp;done)|(simp [*];done)),H',⟨by have:=HJ3.out;have:=HJ13.out;have:=HJ21.out;have:=HJ26.out;first|omega|exact Nat.le_refl _⟩,⟨by repeat (first|(with_reducible first|exact HI0.out|apply sA|apply sB|apply sC|apply sD|apply sE)|exact HI0.out)⟩,⟨by repeat (first|(with_reducible first|exact HK.out|apply kA|apply kB|apply kC|apply kD)|exact HK.out)⟩,⟨by repeat (first|(with_reducible first|exact HB.out|apply bA|apply bB|apply bC|refine bD ?_ (IsS115.ge HI0.out))|exact HB.out)⟩⟩
               ·rw [if_neg c41] at H
                have c41b0 : (a2 == 33) = false:=beq_eq_false_iff_ne.mpr c41
                have c41b1 : (a2 != 33) = true:=bne_iff_ne.mpr c41
                have H':=Aside0.mk H
                clear H
                go_wp2
                go_meet
                case rel => exact ⟨_,(false),(x1001_13),(x1002_13),(by first|rfl|(simp;done)|(simp [*];done)),H',⟨by have:=HJ3.out;have:=HJ13.out;have:=HJ21.out;have:=HJ26.out;first|omega|exact Nat.le_refl _⟩,⟨by repeat (first|(with_reducible first|exact HI0.out|apply sA|apply sB|apply sC|apply sD|apply sE)|exact HI0.out)⟩,⟨by repeat (first|(with_reducible first|exact HK.out|apply kA|apply kB|apply kC|apply kD)|exact HK.out)⟩,⟨by repeat (first|(with_reducible first|exact HB.out|apply bA|apply bB|apply bC|refine bD ?_ (IsS115.ge HI0.out))|exact HB.out)⟩⟩
              ·rw [if_neg c40] at H
               have c40b0 : (a1 == 60) = false:=beq_eq_false_iff_ne.mpr c40
               have c40b1 : (a1 != 60) = true:=bne_iff_ne.mpr c40
               (first|rw [c40b0]|(simp only [i64_w,i32_w];rw [c40b0])|skip)
               have H':=Aside0.mk H
               clear H
               go_wp2
               go_meet
               case rel => exact ⟨_,(false),(x1001_13),(x1002_13),(by first|rfl|(simp;done)|(simp [*];done)),H',⟨by have:=HJ3.out;have:=HJ13.out;have:=HJ21.out;have:=HJ26.out;first|omega|exact Nat.le_refl _⟩,⟨by repeat (first|(with_reducible first|exact HI0.out|apply sA|apply sB|apply sC|apply sD|apply sE)|exact HI0.out)⟩,⟨by repeat (first|(with_reducible first|exact HK.out|apply kA|apply kB|apply kC|apply kD)|exact HK.out)⟩,⟨by repeat (first|(with_reducible first|exact HB.out|apply bA|apply bB|apply bC|refine bD ?_ (IsS115.ge HI0.out))|exact HB.out)⟩⟩
             case rest =>
              clear HC39
              try clear c1
              try clear c2
              try clear p2
              try clear c3
              try clear hcv3
              try clear c4
              try clear c5
              try clear c5b0
              try clear c5b1
              try clear p6
              try clear c7
              try clear c10
              try clear c11
              try clear c13
              try clear c14
              try clear c15
              try clear c15b0
              try clear c15b1
              try clear c18
              try clear c23
              try clear c23b0
              try clear c23b1
              try clear c24
              try clear c28
              try clear c28b0
              try clear c28b1
              try clear c29
              try clear c29b0
              try clear c29b1
              try clear c30
              try clear c30b0
              try clear c30b1
              try clear c31
              try clear c31b0
              try clear c31b1
              try clear c32
              try clear c32b0
              try clear c32b1
              try clear c33
              try clear hcv37
              try clear c40
              try clear c40b0
              try clear c40b1
              try clear c41
              try clear c41b0
              try clear c41b1
              try clear c43
              try clear c43b0
              try clear c43b1
              try clear hcz12_0
              try clear hcz12_1
              try clear hcz12_2
              try clear hcz20_0
              try clear hcz20_1
              try clear hcz20_2
              try clear hfz12_1
              try clear hfz12_2
              try clear hfz20_1
              try clear hfz20_2
              try clear p2
              try clear p6
              obtain ⟨kq,x80_38,x1001_38,x1002_38,rfl,HA,HJ38,HI0,HK,HB⟩:=hcut
              cases kq with
              | zero => exact absurd HA.out (by simp [spec_reader_sign.j4])
              | succ kj38 =>
               have H:=HA.out
               clear HA
               simp only [spec_reader_sign.j4] at H
               by_cases c48 : x80_38 = true
               ·subst c48
                have H1 : (some ((⟨#[60,33,45,45]⟩ : ByteArray),wrap64 (x1001_38 + 4),x1002_38)) = some (r1,r2,r3):=by rw [if_pos rfl] at H;exact H
                clear H
                have H:=H1
                clear H1
                simp only [Option.some.injEq,Prod.mk.injEq] at H
                obtain ⟨rfl,rfl,rfl⟩:=H
                obtain ⟨ASz49_0,cSz49_0,HGz49,hgz49,HSz49_0⟩:=HI0.out
                have hcz49_0:=cellS115_0 HGz49
                have hcz49_1:=cellS115_1 HGz49
                have hcz49_2:=cellS115_2 HGz49
                have hfz49_1:=blk_frozen HGz49 1
                have hfz49_2:=blk_frozen HGz49 2
                clear HGz49 hgz49
                go_wp2
                go_ret
                exact ⟨by first|rfl|(simp [errW_none,errW_some] <;> rfl)|(simp [*,errW_none,errW_some] <;> rfl),by repeat (first|(with_reducible first|exact HI0.out|apply sA|apply sB|apply sC|apply sD|apply sE)|exact HI0.out),by repeat (first|(with_reducible first|exact HB.out|apply bA|apply bB|apply bC|refine bD ?_ (IsS115.ge HI0.out))|exact HB.out),by repeat (first|(with_reducible first|exact HK.out|apply kA|apply kB|apply kC|apply kD)|exact HK.out)⟩
               ·replace c48:=Bool.eq_false_iff.mpr c48
                subst c48
                have H1 : ((spec_Has.f kj38 (([40,41,44,58,59,91,93,123,125] : List Int)) a1).bind fun t429 => (if t429 = true then ((spec_reader_one.f s0_0 x1001_38 x1002_38 (strOfNums (([a1] : List Int)))).bind fun bt433 => (some (bt433.1,bt433.2.1,bt433.2.2))) else ((spec_reader_one.f s0_0 x1001_38 x1002_38 (⟨#[100,101,108,105,109]⟩ : ByteArray)).bind fun bt436 => (some (bt436.1,bt436.2.1,bt436.2.2))))) = some (r1,r2,r3):=by rw [if_neg (show ¬ (false = true) by decide)] at H;exact H
                clear H
                have H:=H1
                clear H1
                obtain ⟨y426,hy426⟩ : ∃ y_ : List Int,y_ = (([40,41,44,58,59,91,93,123,125] : List Int)):=⟨_,rfl⟩
                replace H : ((spec_Has.f kj38 y426 a1).bind fun t429 => (if t429 = true then ((spec_reader_one.f s0_0 x1001_38 x1002_38 (strOfNums (([a1] : List Int)))).bind fun bt433 => (some (bt433.1,bt433.2.1,bt433.2.2))) else ((spec_reader_one.f s0_0 x1001_38 x1002_38 (⟨#[100,101,108,105,109]⟩ : ByteArray)).bind fun bt436 => (some (bt436.1,bt436.2.1,bt436.2.2))))) = some (r1,r2,r3):=by first|(rw [hy426];with_reducible exact H)|(have H2_:=(Option.bind_some _ _).symm.trans H;rw [hy426];with_reducible exact H2_)|(have H2_:=(Option.bind_some _ _).symm.trans H;with_reducible exact H2_)|with_reducible exact H|(rw [hy426];exact H)|exact H
                have Ny426:=Aside0.mk hy426
                clear hy426
                replace H:=Option.bind_eq_some_iff.mp H
                obtain ⟨t429,A500,H⟩:=H
                replace H : (if t429 = true then ((spec_reader_one.f s0_0 x1001_38 x1002_38 (strOfNums (([a1] : List Int)))).bind fun bt433 => (some (bt433.1,bt433.2.1,bt433.2.2))) else ((spec_reader_one.f s0_0 x1001_38 x1002_38 (⟨#[100,101,108,105,109]⟩ : ByteArray)).bind fun bt436 => (some (bt436.1,bt436.2.1,bt436.2.2)))) = some (r1,r2,r3):=H
                have A50:=Aside0.mk A500
                clear A500
                by_cases c51 : t429 = true
                ·subst c51
                 have H1 : ((spec_reader_one.f s0_0 x1001_38 x1002_38 (strOfNums (([a1] : List Int)))).bind fun bt433 => (some (bt433.1,bt433.2.1,bt433.2.2))) = some (r1,r2,r3):=by rw [if_pos rfl] at H;exact H
                 clear H
                 have H:=H1
                 clear H1
                 obtain ⟨y430,hy430⟩ : ∃ y_ : List Int,y_ = (([a1] : List Int)):=⟨_,rfl⟩
                 replace H : ((spec_reader_one.f s0_0 x1001_38 x1002_38 (strOfNums y430)).bind fun bt433 => (some (bt433.1,bt433.2.1,bt433.2.2))) = some (r1,r2,r3):=by first|(rw [hy430];with_reducible exact H)|(have H2_:=(Option.bind_some _ _).symm.trans H;rw [hy430];with_reducible exact H2_)|(have H2_:=(Option.bind_some _ _).symm.trans H;with_reducible exact H2_)|with_reducible exact H|(rw [hy430];exact H)|exact H
                 have Ny430:=Aside0.mk hy430
                 clear hy430
                 replace H:=Option.bind_eq_some_iff.mp H
                 obtain ⟨⟨t433,t434,t435⟩,A520,H⟩:=H
                 replace H : (some (t433,t434,t435)) = some (r1,r2,r3):=H
                 have A52:=Aside0.mk A520
                 clear A520
                 simp only [Option.some.injEq,Prod.mk.injEq] at H
                 obtain ⟨rfl,rfl,rfl⟩:=H
                 have e428:=Ny426.out
                 clear Ny426
                 subst e428
                 have kc:=fun (w : World) (C : Array Value) (n c : Nat) => Lib.run_convert_bytes_const (P:=Tryz.prog) w 24 5 C n c Tryz.underlying24 Tryz.underlying5
                 go_wp2_with (first|(go_at_call 53;(with_reducible refine (has_signs _ _ _ _ A50.out).mono ?_);rintro e w' ⟨rfl,⟨nd,rfl⟩⟩)|((with_reducible refine gate_dst (N:=111) rfl ?_);refine Kd.R_lit (Kd.int .u8) _ 5 ?hg (N:=111) ?hd (xs:=([a1] : List Int)) (inner:=[.int .u8 a1]) (ok:=fun _ => True) (okp:=fun _ => True) ?hr ?hp (fun _ hk => hk) trivial (Below.refl _ _) (Nat.le_refl _) (by simp) ?_;(case hd => rfl);(case hg => rfl);(case hr => first|(go_simp;done)|(go_simp;rfl));(case hp => exact (Reps.one (show Kd.M (Kd.int .u8) _ _ _ a1 [.int .u8 a1] from rfl) (Reps.none _ _)));intro v431 w56 ho57 hb hg_ hnew_;clear hg_ hnew_;(first|rw [← Ny430.out] at ho57|(simp only [Int.reduceToNat] at ho57;rw [← Ny430.out] at ho57));have n1_:=Aside0.mk (Kd.R_lower ho57 (keep_size (w:=w) (g:=g) (row:=none) (by repeat (first|(with_reducible first|exact HK.out|apply kA|apply kB|apply kC|apply kD)|exact HK.out))));have n2_:=Aside0.mk (IsS115.below (by repeat (first|(with_reducible first|exact HI0.out|apply sA|apply sB|apply sC|apply sD|apply sE)|exact HI0.out)) hb);have n3_:=Aside0.mk (KeepBut.trans (by repeat (first|(with_reducible first|exact HK.out|apply kA|apply kB|apply kC|apply kD)|exact HK.out)) (KeepBut.of_below hb g none) (.inl rfl));have n4_:=Aside0.mk (below_step (by repeat (first|(with_reducible first|exact HB.out|apply bA|apply bB|apply bC|refine bD ?_ (IsS115.ge HI0.out))|exact HB.out)) hb);clear HI0;clear HK;clear HB;have HO432:=n1_;have HI0:=n2_;have HK:=n3_;have HB:=n4_;clear n1_ n2_ n3_ n4_;clear hb ho57;have hcv58:=own_string (P:=Tryz.prog) Tryz.underlying24 Tryz.underlying5 Tryz.underlying9 (Kd.own_of_R HO432.out))|((with_reducible refine gate_callee (f:=144) rfl ?_);refine goesL_ (some 113) rfl rfl Tryz.func144 (by kernel_rfl) rfl #[.pointer (some ⟨g,0,none⟩),.string (strOfNums y430)] rfl (by (try simp only [List.map_toArray,List.map_cons,List.map_nil]);first|done|rfl|(simp only [List.length_drop,List.length_take];rfl)) ?_;(with_reducible refine (spec_reader_one.calls g s0_0 x1001_38 x1002_38 (strOfNums y430) t433 t434 t435 w0 _ ?side1 ?side2 A52.out).mono ?_);(case side1 => repeat (first|(with_reducible first|exact HI0.out|apply sA|apply sB|apply sC|apply sD|apply sE)|exact HI0.out));(case side2 => repeat (first|(with_reducible first|exact HB.out|apply bA|apply bB|apply bC|refine bD ?_ (IsS115.ge HI0.out))|exact HB.out));rintro e w59 ⟨rfl,hi,hb,hk⟩;refine ⟨_,rfl,?_⟩;have n1_:=Aside0.mk (Kd.R_mono (Kd.R_keep (IsS115.apart (show IsS115 w0 _ g s0_0 x1001_38 x1002_38 from by repeat (first|(with_reducible first|exact HI0.out|apply sA|apply sB|apply sC|apply sD|apply sE)|exact HI0.out)) (by (with_reducible repeat (first|apply Kd.R_alloc|apply Kd.R_drewN|apply Kd.R_drew));exact HO432.out) (by decide)) hk (fun _ h => h.2)) (fun _ h => h.1));have n2_:=Aside0.mk (KeepBut.trans (by repeat (first|(with_reducible first|exact HK.out|apply kA|apply kB|apply kC|apply kD)|exact HK.out)) hk (.inl rfl));have n3_:=Aside0.mk (hb);have n4_:=Aside0.mk (hi);clear HO432;clear HK;clear HB;clear HI0;have HO432:=n1_;have HK:=n2_;have HB:=n3_;have HI0:=n4_;clear n1_ n2_ n3_ n4_;(try clear hb);(try clear hb2);(try clear hk);(try clear hi)))
                 go_ret
                 exact ⟨by first|rfl|(simp [errW_none,errW_some] <;> rfl)|(simp [*,errW_none,errW_some] <;> rfl),by repeat (first|(with_reducible first|exact HI0.out|apply sA|apply sB|apply sC|apply sD|apply sE)|exact HI0.out),by repeat (first|(with_reducible first|exact HB.out|apply bA|apply bB|apply bC|refine bD ?_ (IsS115.ge HI0.out))|exact HB.out),by repeat (first|(with_reducible first|exact HK.out|apply kA|apply kB|apply kC|apply kD)|exact HK.out)⟩
                ·replace c51:=Bool.eq_false_iff.mpr c51
                 subst c51
                 have H1 : ((spec_reader_one.f s0_0 x1001_38 x1002_38 (⟨#[100,101,108,105,109]⟩ : ByteArray)).bind fun bt436 => (some (bt436.1,bt436.2.1,bt436.2.2))) = some (r1,r2,r3):=by rw [if_neg (show ¬ (false = true) by decide)] at H;exact H
                 clear H
                 have H:=H1
                 clear H1
                 replace H:=Option.bind_eq_some_iff.mp H
                 obtain ⟨⟨t436,t437,t438⟩,A600,H⟩:=H
                 replace H : (some (t436,t437,t438)) = some (r1,r2,r3):=H
                 have A60:=Aside0.mk A600
                 clear A600
                 simp only [Option.some.injEq,Prod.mk.injEq] at H
                 obtain ⟨rfl,rfl,rfl⟩:=H
                 have e428:=Ny426.out
                 clear Ny426
                 subst e428
                 have kc:=fun (w : World) (C : Array Value) (n c : Nat) => Lib.run_convert_bytes_const (P:=Tryz.prog) w 24 5 C n c Tryz.underlying24 Tryz.underlying5
                 go_wp2_with (first|(go_at_call 53;(with_reducible refine (has_signs _ _ _ _ A50.out).mono ?_);rintro e w' ⟨rfl,⟨nd,rfl⟩⟩)|((with_reducible refine gate_callee (f:=144) rfl ?_);refine goesL_ (some 115) rfl rfl Tryz.func144 (by kernel_rfl) rfl #[.pointer (some ⟨g,0,none⟩),.string (⟨#[100,101,108,105,109]⟩ : ByteArray)] rfl (by (try simp only [List.map_toArray,List.map_cons,List.map_nil]);first|done|rfl|(simp only [List.length_drop,List.length_take];rfl)) ?_;(with_reducible refine (spec_reader_one.calls g s0_0 x1001_38 x1002_38 (⟨#[100,101,108,105,109]⟩ : ByteArray) t436 t437 t438 w0 _ ?side1 ?side2 A60.out).mono ?_);(case side1 => repeat (first|(with_reducible first|exact HI0.out|apply sA|apply sB|apply sC|apply sD|apply sE)|exact HI0.out));(case side2 => repeat (first|(with_reducible first|exact HB.out|apply bA|apply bB|apply bC|refine bD ?_ (IsS115.ge HI0.out))|exact HB.out));rintro e w64 ⟨rfl,hi,hb,hk⟩;refine ⟨_,rfl,?_⟩;have n1_:=Aside0.mk (KeepBut.trans (by repeat (first|(with_reducible first|exact HK.out|apply kA|apply kB|apply kC|apply kD)|exact HK.out)) hk (.inl rfl));have n2_:=Aside0.mk (hb);have n3_:=Aside0.mk (hi);clear HK;clear HB;clear HI0;have HK:=n1_;have HB:=n2_;have HI0:=n3_;clear n1_ n2_ n3_;(try clear hb);(try clear hb2);(try clear hk);(try clear hi)))
                 go_ret
                 exact ⟨by first|rfl|(simp [errW_none,errW_some] <;> rfl)|(simp [*,errW_none,errW_some] <;> rfl),by repeat (first|(with_reducible first|exact HI0.out|apply sA|apply sB|apply sC|apply sD|apply sE)|exact HI0.out),by repeat (first|(with_reducible first|exact HB.out|apply bA|apply bB|apply bC|refine bD ?_ (IsS115.ge HI0.out))|exact HB.out),by repeat (first|(with_reducible first|exact HK.out|apply kA|apply kB|apply kC|apply kD)|exact HK.out)⟩
end Go.Proofs.YtlglijnaeaonpaaGreatDoor.PFnStyle
end
