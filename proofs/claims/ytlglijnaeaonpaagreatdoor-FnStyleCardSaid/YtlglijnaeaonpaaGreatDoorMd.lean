/- FnStyle: a part of the proof (Md); in it lines that print.sh printed, those that are used. -/
import Derived.Test.YtlglijnaeaonpaaGreatDoorMa
import Derived.Test.YtlglijnaeaonpaaGreatDoorMc
import Derived.Test.YtlglijnaeaonpaaGreatDoorMb
section
set_option maxHeartbeats 8000000
set_option maxRecDepth 100000
set_option linter.unusedVariables false
set_option linter.unusedSimpArgs false
namespace Go.Proofs.YtlglijnaeaonpaaGreatDoor.PFnStyle
open Go.RowKit Go.Proofs.YtlglijnaeaonpaaGreatDoorW.PrintWords Go.Proofs.YtlglijnaeaonpaaGreatDoorW.PrintLast Go.Proofs.YtlglijnaeaonpaaGreatDoorW.PrintMore
attribute [local go_sem] max2_int min2_int max_two min_two max_three min_three max_four min_four
def spec_reader_name.l0 : Nat → List Int → Int → Bool → Option (Int × Bool)
 | 0,_,_,_ => none
 | k + 1,x1000,x1001,x1002 => (spec_reader_over.f x1000 x1001 x1002).bind fun bt281 => (if bt281.1 = true then (some (bt281.2.1,bt281.2.2)) else ((spec_reader_peek.f x1000 bt281.2.1 bt281.2.2 0).bind fun bt284 => ((spec_isNameByte.f bt284.1).bind fun t287 => (if t287 = true then (spec_reader_name.l0 k x1000 (wrap64 (bt284.2.1 + 1)) bt284.2.2) else ((spec_reader_escapes.f x1000 bt284.2.1 bt284.2.2 0).bind fun bt288 => (if bt288.1 = true then ((spec_reader_escape.f k x1000 bt288.2.1 bt288.2.2).bind fun bt291 => (spec_reader_name.l0 k x1000 bt291.1 bt291.2)) else (some (bt288.2.1,bt288.2.2))))))))
def spec_reader_name.f (k : Nat) (s0_0 : List Int) (s0_1 : Int) (s0_2 : Bool) : Option (Int × Bool):=spec_reader_name.l0 k s0_0 s0_1 s0_2
theorem spec_reader_name.calls (k : Nat) (g : Nat) (s0_0 : List Int) (s0_1 : Int) (s0_2 : Bool) (r1 : Int) (r2 : Bool) (w0 w : World) (hI : IsS115 w0 w g s0_0 s0_1 s0_2) (hB : Below w0.heap.size w0 w) (h : spec_reader_name.f k s0_0 s0_1 s0_2 = some (r1,r2)) :
  Calls Tryz.prog 139 #[.pointer (some ⟨g,0,none⟩)] w fun e w' => e = .returned (.tuple #[]) ∧ IsS115 w0 w' g s0_0 r1 r2 ∧ Below w0.heap.size w0 w' ∧ KeepBut w w' g none:=by
 have HI0:=Aside0.mk hI
 have HK:=Aside0.mk (KeepBut.refl w g none)
 have HL:=Aside0.mk hB.size
 clear hI
 have HW0:=Aside0.mk hB.size
 have HB:=Aside0.mk hB
 clear hB
 have H : (spec_reader_name.l0 k s0_0 s0_1 s0_2) = some (r1,r2):=h
 clear h
 have H':=Aside0.mk H
 clear H
 go_enter Tryz.func139,Tryz.ntmps139
 go_wp2
 go_loopg [] k (fun kq w' => ∃ (x1001_1 : Int) (x1002_1 : Bool),Aside0 (spec_reader_name.l0 kq s0_0 x1001_1 x1002_1 = some (r1,r2)) ∧ Aside0 (kq ≤ k) ∧ Aside0 (IsS115 w0 w' g s0_0 x1001_1 x1002_1) ∧ Aside0 (KeepBut w w' g none) ∧ Aside0 (Below w0.heap.size w0 w'))
 case atStart => exact ⟨(s0_1),(s0_2),H',⟨Nat.le_refl _⟩,⟨by repeat (first|(with_reducible first|exact HI0.out|apply sA|apply sB|apply sC|apply sD|apply sE)|exact HI0.out)⟩,⟨by repeat (first|(with_reducible first|exact HK.out|apply kA|apply kB|apply kC|apply kD)|exact HK.out)⟩,⟨by repeat (first|(with_reducible first|exact HB.out|apply bA|apply bB|apply bC|refine bD ?_ (IsS115.ge HI0.out))|exact HB.out)⟩⟩
 case round =>
  clear H'
  try clear c1
  obtain ⟨x1001_1,x1002_1,HA,HK1,HI0,HK,HB⟩:=hrel
  cases gk with
  | zero => exact absurd HA.out (by simp [spec_reader_name.l0])
  | succ k1 =>
   have H:=HA.out
   clear HA
   simp only [spec_reader_name.l0] at H
   replace H:=Option.bind_eq_some_iff.mp H
   obtain ⟨⟨t281,t282,t283⟩,A20,H⟩:=H
   replace H : (if t281 = true then (some (t282,t283)) else ((spec_reader_peek.f s0_0 t282 t283 0).bind fun bt284 => ((spec_isNameByte.f bt284.1).bind fun t287 => (if t287 = true then (spec_reader_name.l0 k1 s0_0 (wrap64 (bt284.2.1 + 1)) bt284.2.2) else ((spec_reader_escapes.f s0_0 bt284.2.1 bt284.2.2 0).bind fun bt288 => (if bt288.1 = true then ((spec_reader_escape.f k1 s0_0 bt288.2.1 bt288.2.2).bind fun bt291 => (spec_reader_name.l0 k1 s0_0 bt291.1 bt291.2)) else (some (bt288.2.1,bt288.2.2)))))))) = some (r1,r2):=H
   have A2:=Aside0.mk A20
   clear A20
   by_cases c3 : t281 = true
   ·subst c3
    have H1 : (some (t282,t283)) = some (r1,r2):=by rw [if_pos rfl] at H;exact H
    clear H
    have H:=H1
    clear H1
    simp only [Option.some.injEq,Prod.mk.injEq] at H
    obtain ⟨rfl,rfl⟩:=H
    go_wp2_with (first|((with_reducible refine gate_callee (f:=67) rfl ?_);refine goesL_ (some 3) rfl rfl Tryz.func67 (by kernel_rfl) rfl #[.pointer (some ⟨g,0,none⟩)] rfl (by (try simp only [List.map_toArray,List.map_cons,List.map_nil]);first|done|rfl|(simp only [List.length_drop,List.length_take];rfl)) ?_;(with_reducible refine (spec_reader_over.calls g s0_0 x1001_1 x1002_1 true t282 t283 w0 _ ?side1 ?side2 A2.out).mono ?_);(case side1 => repeat (first|(with_reducible first|exact HI0.out|apply sA|apply sB|apply sC|apply sD|apply sE)|exact HI0.out));(case side2 => repeat (first|(with_reducible first|exact HB.out|apply bA|apply bB|apply bC|refine bD ?_ (IsS115.ge HI0.out))|exact HB.out));rintro e w4 ⟨rfl,hi,hb,hk⟩;refine ⟨_,rfl,?_⟩;have n0_:=Aside0.mk (KeepBut.trans (by repeat (first|(with_reducible first|exact HK.out|apply kA|apply kB|apply kC|apply kD)|exact HK.out)) hk (.inl rfl));have n1_:=Aside0.mk (hb);have n2_:=Aside0.mk (hi);clear HK;clear HB;clear HI0;have HK:=n0_;have HB:=n1_;have HI0:=n2_;clear n0_ n1_ n2_;(try clear hb);(try clear hb2);(try clear hk);(try clear hi)))
    first|go_end0|((try simp only [Exit.inBlock,Exit.then]);refine bodyPost_ret (results_none rfl _ _ _) rfl ?_)
    exact ⟨by first|rfl|(simp [errW_none,errW_some] <;> rfl)|(simp [*,errW_none,errW_some] <;> rfl),by repeat (first|(with_reducible first|exact HI0.out|apply sA|apply sB|apply sC|apply sD|apply sE)|exact HI0.out),by repeat (first|(with_reducible first|exact HB.out|apply bA|apply bB|apply bC|refine bD ?_ (IsS115.ge HI0.out))|exact HB.out),by repeat (first|(with_reducible first|exact HK.out|apply kA|apply kB|apply kC|apply kD)|exact HK.out)⟩
   ·replace c3:=Bool.eq_false_iff.mpr c3
    subst c3
    have H1 : ((spec_reader_peek.f s0_0 t282 t283 0).bind fun bt284 => ((spec_isNameByte.f bt284.1).bind fun t287 => (if t287 = true then (spec_reader_name.l0 k1 s0_0 (wrap64 (bt284.2.1 + 1)) bt284.2.2) else ((spec_reader_escapes.f s0_0 bt284.2.1 bt284.2.2 0).bind fun bt288 => (if bt288.1 = true then ((spec_reader_escape.f k1 s0_0 bt288.2.1 bt288.2.2).bind fun bt291 => (spec_reader_name.l0 k1 s0_0 bt291.1 bt291.2)) else (some (bt288.2.1,bt288.2.2))))))) = some (r1,r2):=by rw [if_neg (show ¬ (false = true) by decide)] at H;exact H
    clear H
    have H:=H1
    clear H1
    replace H:=Option.bind_eq_some_iff.mp H
    obtain ⟨⟨t284,t285,t286⟩,A50,H⟩:=H
    replace H : ((spec_isNameByte.f t284).bind fun t287 => (if t287 = true then (spec_reader_name.l0 k1 s0_0 (wrap64 (t285 + 1)) t286) else ((spec_reader_escapes.f s0_0 t285 t286 0).bind fun bt288 => (if bt288.1 = true then ((spec_reader_escape.f k1 s0_0 bt288.2.1 bt288.2.2).bind fun bt291 => (spec_reader_name.l0 k1 s0_0 bt291.1 bt291.2)) else (some (bt288.2.1,bt288.2.2)))))) = some (r1,r2):=H
    have A5:=Aside0.mk A50
    clear A50
    replace H:=Option.bind_eq_some_iff.mp H
    obtain ⟨t287,A60,H⟩:=H
    replace H : (if t287 = true then (spec_reader_name.l0 k1 s0_0 (wrap64 (t285 + 1)) t286) else ((spec_reader_escapes.f s0_0 t285 t286 0).bind fun bt288 => (if bt288.1 = true then ((spec_reader_escape.f k1 s0_0 bt288.2.1 bt288.2.2).bind fun bt291 => (spec_reader_name.l0 k1 s0_0 bt291.1 bt291.2)) else (some (bt288.2.1,bt288.2.2))))) = some (r1,r2):=H
    have A6:=Aside0.mk A60
    clear A60
    by_cases c7 : t287 = true
    ·subst c7
     have H1 : (spec_reader_name.l0 k1 s0_0 (wrap64 (t285 + 1)) t286) = some (r1,r2):=by rw [if_pos rfl] at H;exact H
     clear H
     have H:=H1
     clear H1
     have H':=Aside0.mk H
     clear H
     go_wp2_with (first|((with_reducible refine gate_callee (f:=67) rfl ?_);refine goesL_ (some 3) rfl rfl Tryz.func67 (by kernel_rfl) rfl #[.pointer (some ⟨g,0,none⟩)] rfl (by (try simp only [List.map_toArray,List.map_cons,List.map_nil]);first|done|rfl|(simp only [List.length_drop,List.length_take];rfl)) ?_;(with_reducible refine (spec_reader_over.calls g s0_0 x1001_1 x1002_1 false t282 t283 w0 _ ?side1 ?side2 A2.out).mono ?_);(case side1 => repeat (first|(with_reducible first|exact HI0.out|apply sA|apply sB|apply sC|apply sD|apply sE)|exact HI0.out));(case side2 => repeat (first|(with_reducible first|exact HB.out|apply bA|apply bB|apply bC|refine bD ?_ (IsS115.ge HI0.out))|exact HB.out));rintro e w8 ⟨rfl,hi,hb,hk⟩;refine ⟨_,rfl,?_⟩;have n0_:=Aside0.mk (KeepBut.trans (by repeat (first|(with_reducible first|exact HK.out|apply kA|apply kB|apply kC|apply kD)|exact HK.out)) hk (.inl rfl));have n1_:=Aside0.mk (hb);have n2_:=Aside0.mk (hi);clear HK;clear HB;clear HI0;have HK:=n0_;have HB:=n1_;have HI0:=n2_;clear n0_ n1_ n2_;(try clear hb);(try clear hb2);(try clear hk);(try clear hi))|((with_reducible refine gate_callee (f:=104) rfl ?_);refine goesL_ (some 7) rfl rfl Tryz.func104 (by kernel_rfl) rfl #[.pointer (some ⟨g,0,none⟩),.int .i64 0] rfl (by (try simp only [List.map_toArray,List.map_cons,List.map_nil]);first|done|rfl|(simp only [List.length_drop,List.length_take];rfl)) ?_;(with_reducible refine (spec_reader_peek.calls g s0_0 t282 t283 0 t284 t285 t286 w0 _ ?side1 ?side2 A5.out).mono ?_);(case side1 => repeat (first|(with_reducible first|exact HI0.out|apply sA|apply sB|apply sC|apply sD|apply sE)|exact HI0.out));(case side2 => repeat (first|(with_reducible first|exact HB.out|apply bA|apply bB|apply bC|refine bD ?_ (IsS115.ge HI0.out))|exact HB.out));rintro e w9 ⟨rfl,hi,hb,hk⟩;refine ⟨_,rfl,?_⟩;have n0_:=Aside0.mk (KeepBut.trans (by repeat (first|(with_reducible first|exact HK.out|apply kA|apply kB|apply kC|apply kD)|exact HK.out)) hk (.inl rfl));have n1_:=Aside0.mk (hb);have n2_:=Aside0.mk (hi);clear HK;clear HB;clear HI0;have HK:=n0_;have HB:=n1_;have HI0:=n2_;clear n0_ n1_ n2_;(try clear hb);(try clear hb2);(try clear hk);(try clear hi))|((with_reducible refine gate_callee (f:=142) rfl ?_);refine goesL_ (some 8) rfl rfl Tryz.func142 (by kernel_rfl) rfl #[.int .u8 t284] rfl (by (try simp only [List.map_toArray,List.map_cons,List.map_nil]);first|done|rfl|(simp only [List.length_drop,List.length_take];rfl)) ?_;(with_reducible refine (spec_isNameByte.calls t284 true _ A6.out).mono ?_);rintro e w' ⟨rfl,⟨nd,rfl⟩⟩;refine ⟨_,rfl,?_⟩;(try (rw [drewN_self w9];generalize hq_ : World.drewN w9 _ = w9;have n0_ : Aside0 (IsS115 w0 w9 g s0_0 t285 t286):=⟨by rw [← hq_];exact (by repeat (first|(with_reducible first|exact HI0.out|apply sA|apply sB|apply sC|apply sD|apply sE)|exact HI0.out))⟩;have n1_ : Aside0 (KeepBut w w9 g none):=⟨by rw [← hq_];exact (by repeat (first|(with_reducible first|exact HK.out|apply kA|apply kB|apply kC|apply kD)|exact HK.out))⟩;have n2_ : Aside0 (Below w0.heap.size w0 w9):=⟨by rw [← hq_];exact (by repeat (first|(with_reducible first|exact HB.out|apply bA|apply bB|apply bC|refine bD ?_ (IsS115.ge HI0.out))|exact HB.out))⟩;clear HI0 HK HB hq_;have HI0:=n0_;have HK:=n1_;have HB:=n2_;clear n0_ n1_ n2_));obtain ⟨ASz10_0,cSz10_0,HGz10,hgz10,HSz10_0⟩:=HI0.out;have hcz10_0:=cellS115_0 HGz10;have hcz10_1:=cellS115_1 HGz10;have hcz10_2:=cellS115_2 HGz10;have hfz10_1:=blk_frozen HGz10 1;have hfz10_2:=blk_frozen HGz10 2;clear HGz10 hgz10))
     go_roundg k1
     case measure => have:=HK1.out;omega
     case rel => exact ⟨(wrap64 (t285 + 1)),(t286),H',⟨by have:=HK1.out;omega⟩,⟨by repeat (first|(with_reducible first|exact HI0.out|apply sA|apply sB|apply sC|apply sD|apply sE)|exact HI0.out)⟩,⟨by repeat (first|(with_reducible first|exact HK.out|apply kA|apply kB|apply kC|apply kD)|exact HK.out)⟩,⟨by repeat (first|(with_reducible first|exact HB.out|apply bA|apply bB|apply bC|refine bD ?_ (IsS115.ge HI0.out))|exact HB.out)⟩⟩
    ·replace c7:=Bool.eq_false_iff.mpr c7
     subst c7
     have H1 : ((spec_reader_escapes.f s0_0 t285 t286 0).bind fun bt288 => (if bt288.1 = true then ((spec_reader_escape.f k1 s0_0 bt288.2.1 bt288.2.2).bind fun bt291 => (spec_reader_name.l0 k1 s0_0 bt291.1 bt291.2)) else (some (bt288.2.1,bt288.2.2)))) = some (r1,r2):=by rw [if_neg (show ¬ (false = true) by decide)] at H;exact H
     clear H
     have H:=H1
     clear H1
     replace H:=Option.bind_eq_some_iff.mp H
     obtain ⟨⟨t288,t289,t290⟩,A110,H⟩:=H
     replace H : (if t288 = true then ((spec_reader_escape.f k1 s0_0 t289 t290).bind fun bt291 => (spec_reader_name.l0 k1 s0_0 bt291.1 bt291.2)) else (some (t289,t290))) = some (r1,r2):=H
     have A11:=Aside0.mk A110
     clear A110
     by_cases c12 : t288 = true
     ·subst c12
      have H1 : ((spec_reader_escape.f k1 s0_0 t289 t290).bind fun bt291 => (spec_reader_name.l0 k1 s0_0 bt291.1 bt291.2)) = some (r1,r2):=by rw [if_pos rfl] at H;exact H
      clear H
      have H:=H1
      clear H1
      replace H:=Option.bind_eq_some_iff.mp H
      obtain ⟨⟨t291,t292⟩,A130,H⟩:=H
      replace H : (spec_reader_name.l0 k1 s0_0 t291 t292) = some (r1,r2):=H
      have A13:=Aside0.mk A130
      clear A130
      have H':=Aside0.mk H
      clear H
      go_wp2_with (first|((with_reducible refine gate_callee (f:=67) rfl ?_);refine goesL_ (some 3) rfl rfl Tryz.func67 (by kernel_rfl) rfl #[.pointer (some ⟨g,0,none⟩)] rfl (by (try simp only [List.map_toArray,List.map_cons,List.map_nil]);first|done|rfl|(simp only [List.length_drop,List.length_take];rfl)) ?_;(with_reducible refine (spec_reader_over.calls g s0_0 x1001_1 x1002_1 false t282 t283 w0 _ ?side1 ?side2 A2.out).mono ?_);(case side1 => repeat (first|(with_reducible first|exact HI0.out|apply sA|apply sB|apply sC|apply sD|apply sE)|exact HI0.out));(case side2 => repeat (first|(with_reducible first|exact HB.out|apply bA|apply bB|apply bC|refine bD ?_ (IsS115.ge HI0.out))|exact HB.out));rintro e w14 ⟨rfl,hi,hb,hk⟩;refine ⟨_,rfl,?_⟩;have n0_:=Aside0.mk (KeepBut.trans (by repeat (first|(with_reducible first|exact HK.out|apply kA|apply kB|apply kC|apply kD)|exact HK.out)) hk (.inl rfl));have n1_:=Aside0.mk (hb);have n2_:=Aside0.mk (hi);clear HK;clear HB;clear HI0;have HK:=n0_;have HB:=n1_;have HI0:=n2_;clear n0_ n1_ n2_;(try clear hb);(try clear hb2);(try clear hk);(try clear hi))|((with_reducible refine gate_callee (f:=104) rfl ?_);refine goesL_ (some 7) rfl rfl Tryz.func104 (by kernel_rfl) rfl #[.pointer (some ⟨g,0,none⟩),.int .i64 0] rfl (by (try simp only [List.map_toArray,List.map_cons,List.map_nil]);first|done|rfl|(simp only [List.length_drop,List.length_take];rfl)) ?_;(with_reducible refine (spec_reader_peek.calls g s0_0 t282 t283 0 t284 t285 t286 w0 _ ?side1 ?side2 A5.out).mono ?_);(case side1 => repeat (first|(with_reducible first|exact HI0.out|apply sA|apply sB|apply sC|apply sD|apply sE)|exact HI0.out));(case side2 => repeat (first|(with_reducible first|exact HB.out|apply bA|apply bB|apply bC|refine bD ?_ (IsS115.ge HI0.out))|exact HB.out));rintro e w15 ⟨rfl,hi,hb,hk⟩;refine ⟨_,rfl,?_⟩;have n0_:=Aside0.mk (KeepBut.trans (by repeat (first|(with_reducible first|exact HK.out|apply kA|apply kB|apply kC|apply kD)|exact HK.out)) hk (.inl rfl));have n1_:=Aside0.mk (hb);have n2_:=Aside0.mk (hi);clear HK;clear HB;clear HI0;have HK:=n0_;have HB:=n1_;have HI0:=n2_;clear n0_ n1_ n2_;(try clear hb);(try clear hb2);(try clear hk);(try clear hi))|((with_reducible refine gate_callee (f:=142) rfl ?_);refine goesL_ (some 8) rfl rfl Tryz.func142 (by kernel_rfl) rfl #[.int .u8 t284] rfl (by (try simp only [List.map_toArray,List.map_cons,List.map_nil]);first|done|rfl|(simp only [List.length_drop,List.length_take];rfl)) ?_;(with_reducible refine (spec_isNameByte.calls t284 false _ A6.out).mono ?_);rintro e w' ⟨rfl,⟨nd,rfl⟩⟩;refine ⟨_,rfl,?_⟩)|((with_reducible refine gate_callee (f:=135) rfl ?_);refine goesL_ (some 18) rfl rfl Tryz.func135 (by kernel_rfl) rfl #[.pointer (some ⟨g,0,none⟩),.int .i64 0] rfl (by (try simp only [List.map_toArray,List.map_cons,List.map_nil]);first|done|rfl|(simp only [List.length_drop,List.length_take];rfl)) ?_;(with_reducible refine (spec_reader_escapes.calls g s0_0 t285 t286 0 true t289 t290 w0 _ ?side1 ?side2 A11.out).mono ?_);(case side1 => repeat (first|(with_reducible first|exact HI0.out|apply sA|apply sB|apply sC|apply sD|apply sE)|exact HI0.out));(case side2 => repeat (first|(with_reducible first|exact HB.out|apply bA|apply bB|apply bC|refine bD ?_ (IsS115.ge HI0.out))|exact HB.out));rintro e w16 ⟨rfl,hi,hb,hk⟩;refine ⟨_,rfl,?_⟩;have n0_:=Aside0.mk (KeepBut.trans (by repeat (first|(with_reducible first|exact HK.out|apply kA|apply kB|apply kC|apply kD)|exact HK.out)) hk (.inl rfl));have n1_:=Aside0.mk (hb);have n2_:=Aside0.mk (hi);clear HK;clear HB;clear HI0;have HK:=n0_;have HB:=n1_;have HI0:=n2_;clear n0_ n1_ n2_;(try clear hb);(try clear hb2);(try clear hk);(try clear hi))|((with_reducible refine gate_callee (f:=136) rfl ?_);refine goesL_ (some 20) rfl rfl Tryz.func136 (by kernel_rfl) rfl #[.pointer (some ⟨g,0,none⟩)] rfl (by (try simp only [List.map_toArray,List.map_cons,List.map_nil]);first|done|rfl|(simp only [List.length_drop,List.length_take];rfl)) ?_;(with_reducible refine (spec_reader_escape.calls k1 g s0_0 t289 t290 t291 t292 w0 _ ?side1 ?side2 A13.out).mono ?_);(case side1 => repeat (first|(with_reducible first|exact HI0.out|apply sA|apply sB|apply sC|apply sD|apply sE)|exact HI0.out));(case side2 => repeat (first|(with_reducible first|exact HB.out|apply bA|apply bB|apply bC|refine bD ?_ (IsS115.ge HI0.out))|exact HB.out));rintro e w17 ⟨rfl,hi,hb,hk⟩;refine ⟨_,rfl,?_⟩;have n0_:=Aside0.mk (KeepBut.trans (by repeat (first|(with_reducible first|exact HK.out|apply kA|apply kB|apply kC|apply kD)|exact HK.out)) hk (.inl rfl));have n1_:=Aside0.mk (hb);have n2_:=Aside0.mk (hi);clear HK;clear HB;clear HI0;have HK:=n0_;have HB:=n1_;have HI0:=n2_;clear n0_ n1_ n2_;(try clear hb);(try clear hb2);(try clear hk);(try clear hi)))
      go_roundg k1
      case measure => have:=HK1.out;omega
      case rel => exact ⟨(t291),(t292),H',⟨by have:=HK1.out;omega⟩,⟨by repeat (first|(with_reducible first|exact HI0.out|apply sA|apply sB|apply sC|apply sD|apply sE)|exact HI0.out)⟩,⟨by repeat (first|(with_reducible first|exact HK.out|apply kA|apply kB|apply kC|apply kD)|exact HK.out)⟩,⟨by repeat (first|(with_reducible first|exact HB.out|apply bA|apply bB|apply bC|refine bD ?_ (IsS115.ge HI0.out))|exact HB.out)⟩⟩
     ·replace c12:=Bool.eq_false_iff.mpr c12
      subst c12
      have H1 : (some (t289,t290)) = some (r1,r2):=by rw [if_neg (show ¬ (false = true) by decide)] at H;exact H
      clear H
      have H:=H1
      clear H1
      simp only [Option.some.injEq,Prod.mk.injEq] at H
      obtain ⟨rfl,rfl⟩:=H
      go_wp2_with (first|((with_reducible refine gate_callee (f:=67) rfl ?_);refine goesL_ (some 3) rfl rfl Tryz.func67 (by kernel_rfl) rfl #[.pointer (some ⟨g,0,none⟩)] rfl (by (try simp only [List.map_toArray,List.map_cons,List.map_nil]);first|done|rfl|(simp only [List.length_drop,List.length_take];rfl)) ?_;(with_reducible refine (spec_reader_over.calls g s0_0 x1001_1 x1002_1 false t282 t283 w0 _ ?side1 ?side2 A2.out).mono ?_);(case side1 => repeat (first|(with_reducible first|exact HI0.out|apply sA|apply sB|apply sC|apply sD|apply sE)|exact HI0.out));(case side2 => repeat (first|(with_reducible first|exact HB.out|apply bA|apply bB|apply bC|refine bD ?_ (IsS115.ge HI0.out))|exact HB.out));rintro e w18 ⟨rfl,hi,hb,hk⟩;refine ⟨_,rfl,?_⟩;have n0_:=Aside0.mk (KeepBut.trans (by repeat (first|(with_reducible first|exact HK.out|apply kA|apply kB|apply kC|apply kD)|exact HK.out)) hk (.inl rfl));have n1_:=Aside0.mk (hb);have n2_:=Aside0.mk (hi);clear HK;clear HB;clear HI0;have HK:=n0_;have HB:=n1_;have HI0:=n2_;clear n0_ n1_ n2_;(try clear hb);(try clear hb2);(try clear hk);(try clear hi))|((with_reducible refine gate_callee (f:=104) rfl ?_);refine goesL_ (some 7) rfl rfl Tryz.func104 (by kernel_rfl) rfl #[.pointer (some ⟨g,0,none⟩),.int .i64 0] rfl (by (try simp only [List.map_toArray,List.map_cons,List.map_nil]);first|done|rfl|(simp only [List.length_drop,List.length_take];rfl)) ?_;(with_reducible refine (spec_reader_peek.calls g s0_0 t282 t283 0 t284 t285 t286 w0 _ ?side1 ?side2 A5.out).mono ?_);(case side1 => repeat (first|(with_reducible first|exact HI0.out|apply sA|apply sB|apply sC|apply sD|apply sE)|exact HI0.out));(case side2 => repeat (first|(with_reducible first|exact HB.out|apply bA|apply bB|apply bC|refine bD ?_ (IsS115.ge HI0.out))|exact HB.out));rintro e w19 ⟨rfl,hi,hb,hk⟩;refine ⟨_,rfl,?_⟩;have n0_:=Aside0.mk (KeepBut.trans (by repeat (first|(with_reducible first|exact HK.out|apply kA|apply kB|apply kC|apply kD)|exact HK.out)) hk (.inl rfl));have n1_:=Aside0.mk (hb);have n2_:=Aside0.mk (hi);clear HK;clear HB;clear HI0;have HK:=n0_;have HB:=n1_;have HI0:=n2_;clear n0_ n1_ n2_;(try clear hb);(try clear hb2);(try clear hk);(try clear hi))|((with_reducible refine gate_callee (f:=142) rfl ?_);refine goesL_ (some 8) rfl rfl Tryz.func142 (by kernel_rfl) rfl #[.int .u8 t284] rfl (by (try simp only [List.map_toArray,List.map_cons,List.map_nil]);first|done|rfl|(simp only [List.length_drop,List.length_take];rfl)) ?_;(with_reducible refine (spec_isNameByte.calls t284 false _ A6.out).mono ?_);rintro e w' ⟨rfl,⟨nd,rfl⟩⟩;refine ⟨_,rfl,?_⟩)|((with_reducible refine gate_callee (f:=135) rfl ?_);refine goesL_ (some 18) rfl rfl Tryz.func135 (by kernel_rfl) rfl #[.pointer (some ⟨g,0,none⟩),.int .i64 0] rfl (by (try simp only [List.map_toArray,List.map_cons,List.map_nil]);first|done|rfl|(simp only [List.length_drop,List.length_take];rfl)) ?_;(with_reducible refine (spec_reader_escapes.calls g s0_0 t285 t286 0 false t289 t290 w0 _ ?side1 ?side2 A11.out).mono ?_);(case side1 => repeat (first|(with_reducible first|exact HI0.out|apply sA|apply sB|apply sC|apply sD|apply sE)|exact HI0.out));(case side2 => repeat (first|(with_reducible first|exact HB.out|apply bA|apply bB|apply bC|refine bD ?_ (IsS115.ge HI0.out))|exact HB.out));rintro e w20 ⟨rfl,hi,hb,hk⟩;refine ⟨_,rfl,?_⟩;have n0_:=Aside0.mk (KeepBut.trans (by repeat (first|(with_reducible first|exact HK.out|apply kA|apply kB|apply kC|apply kD)|exact HK.out)) hk (.inl rfl));have n1_:=Aside0.mk (hb);have n2_:=Aside0.mk (hi);clear HK;clear HB;clear HI0;have HK:=n0_;have HB:=n1_;have HI0:=n2_;clear n0_ n1_ n2_;(try clear hb);(try clear hb2);(try clear hk);(try clear hi)))
      first|go_end0|((try simp only [Exit.inBlock,Exit.then]);refine bodyPost_ret (results_none rfl _ _ _) rfl ?_)
      exact ⟨by first|rfl|(simp [errW_none,errW_some] <;> rfl)|(simp [*,errW_none,errW_some] <;> rfl),by repeat (first|(with_reducible first|exact HI0.out|apply sA|apply sB|apply sC|apply sD|apply sE)|exact HI0.out),by repeat (first|(with_reducible first|exact HB.out|apply bA|apply bB|apply bC|refine bD ?_ (IsS115.ge HI0.out))|exact HB.out),by repeat (first|(with_reducible first|exact HK.out|apply kA|apply kB|apply kC|apply kD)|exact HK.out)⟩
mutual
def spec_reader_numeric.j0 : Nat → Bool → List Int → Int → Bool → Option (ByteArray × Int × Bool)
 | 0,_,_,_,_ => none
 | k + 1,x14,x1000,x1001,x1002 => if x14 = true then (spec_reader_numeric.j1 k x1000 (wrap64 (x1001 + 1)) x1002) else (spec_reader_numeric.j1 k x1000 x1001 x1002)
def spec_reader_numeric.j1 : Nat → List Int → Int → Bool → Option (ByteArray × Int × Bool)
 | 0,_,_,_ => none
 | k + 1,x1000,x1001,x1002 => (spec_reader_digits.f k x1000 x1001 x1002).bind fun bt296 => ((spec_reader_peek.f x1000 bt296.1 bt296.2 0).bind fun bt298 => (if bt298.1 = 46 then ((spec_reader_peek.f x1000 bt298.2.1 bt298.2.2 1).bind fun bt301 => ((spec_isDigit.f bt301.1).bind fun t304 => (spec_reader_numeric.j2 k t304 x1000 bt301.2.1 bt301.2.2))) else (spec_reader_numeric.j2 k false x1000 bt298.2.1 bt298.2.2)))
def spec_reader_numeric.j2 : Nat → Bool → List Int → Int → Bool → Option (ByteArray × Int × Bool)
 | 0,_,_,_,_ => none
 | k + 1,x31,x1000,x1001,x1002 => if x31 = true then ((spec_reader_digits.f k x1000 (wrap64 (x1001 + 1)) x1002).bind fun bt305 => (spec_reader_numeric.j3 k x1000 bt305.1 bt305.2)) else (spec_reader_numeric.j3 k x1000 x1001 x1002)
def spec_reader_numeric.j3 : Nat → List Int → Int → Bool → Option (ByteArray × Int × Bool)
 | 0,_,_,_ => none
 | k + 1,x1000,x1001,x1002 => (spec_reader_peek.f x1000 x1001 x1002 0).bind fun bt307 => (if bt307.1 = 101 then (spec_reader_numeric.j4 k true x1000 bt307.2.1 bt307.2.2) else (spec_reader_numeric.j4 k (bt307.1 == 69) x1000 bt307.2.1 bt307.2.2))
def spec_reader_numeric.j4 : Nat → Bool → List Int → Int → Bool → Option (ByteArray × Int × Bool)
 | 0,_,_,_,_ => none
 | k + 1,x48,x1000,x1001,x1002 => if x48 = true then ((spec_reader_peek.f x1000 x1001 x1002 1).bind fun bt310 => (if bt310.1 = 43 then (spec_reader_numeric.j5 k 1 true x1000 bt310.2.1 bt310.2.2) else (spec_reader_numeric.j5 k 1 (bt310.1 == 45) x1000 bt310.2.1 bt310.2.2))) else (spec_reader_numeric.j7 k x1000 x1001 x1002)
def spec_reader_numeric.j7 : Nat → List Int → Int → Bool → Option (ByteArray × Int × Bool)
 | 0,_,_,_ => none
 | k + 1,x1000,x1001,x1002 => (spec_reader_identifies.f k x1000 x1001 x1002 0).bind fun bt319 => (if bt319.1 = true then ((spec_reader_name.f k x1000 bt319.2.1 bt319.2.2).bind fun bt322 => (some ((⟨#[100,105,109,101,110,115,105,111,110]⟩ : ByteArray),bt322.1,bt322.2))) else ((spec_reader_peek.f x1000 bt319.2.1 bt319.2.2 0).bind fun bt324 => (if bt324.1 = 37 then (some ((⟨#[112,101,114,99,101,110,116,97,103,101]⟩ : ByteArray),wrap64 (bt324.2.1 + 1),bt324.2.2)) else (some ((⟨#[110,117,109,98,101,114]⟩ : ByteArray),bt324.2.1,bt324.2.2)))))
def spec_reader_numeric.j5 : Nat → Int → Bool → List Int → Int → Bool → Option (ByteArray × Int × Bool)
 | 0,_,_,_,_,_ => none
 | k + 1,x5,x56,x1000,x1001,x1002 => if x56 = true then (spec_reader_numeric.j6 k 2 x1000 x1001 x1002) else (spec_reader_numeric.j6 k x5 x1000 x1001 x1002)
def spec_reader_numeric.j6 : Nat → Int → List Int → Int → Bool → Option (ByteArray × Int × Bool)
 | 0,_,_,_,_ => none
 | k + 1,x5,x1000,x1001,x1002 => (spec_reader_peek.f x1000 x1001 x1002 x5).bind fun bt313 => ((spec_isDigit.f bt313.1).bind fun t316 => (if t316 = true then ((spec_reader_digits.f k x1000 (wrap64 (bt313.2.1 + x5)) bt313.2.2).bind fun bt317 => (spec_reader_numeric.j7 k x1000 bt317.1 bt317.2)) else (spec_reader_numeric.j7 k x1000 bt313.2.1 bt313.2.2)))
end
def spec_reader_numeric.f (k : Nat) (s0_0 : List Int) (s0_1 : Int) (s0_2 : Bool) : Option (ByteArray × Int × Bool):=(spec_reader_peek.f s0_0 s0_1 s0_2 0).bind fun bt293 => (if bt293.1 = 43 then (spec_reader_numeric.j0 k true s0_0 bt293.2.1 bt293.2.2) else (spec_reader_numeric.j0 k (bt293.1 == 45) s0_0 bt293.2.1 bt293.2.2))
theorem spec_reader_numeric.calls (k : Nat) (g : Nat) (s0_0 : List Int) (s0_1 : Int) (s0_2 : Bool) (r1 : ByteArray) (r2 : Int) (r3 : Bool) (w0 w : World) (hI : IsS115 w0 w g s0_0 s0_1 s0_2) (hB : Below w0.heap.size w0 w) (h : spec_reader_numeric.f k s0_0 s0_1 s0_2 = some (r1,r2,r3)) :
  Calls Tryz.prog 110 #[.pointer (some ⟨g,0,none⟩)] w fun e w' => e = .returned (.string r1) ∧ IsS115 w0 w' g s0_0 r2 r3 ∧ Below w0.heap.size w0 w' ∧ KeepBut w w' g none:=by
 have HI0:=Aside0.mk hI
 have HK:=Aside0.mk (KeepBut.refl w g none)
 have HL:=Aside0.mk hB.size
 clear hI
 have HW0:=Aside0.mk hB.size
 have HB:=Aside0.mk hB
 clear hB
 have H : ((spec_reader_peek.f s0_0 s0_1 s0_2 0).bind fun bt293 => (if bt293.1 = 43 then (spec_reader_numeric.j0 k true s0_0 bt293.2.1 bt293.2.2) else (spec_reader_numeric.j0 k (bt293.1 == 45) s0_0 bt293.2.1 bt293.2.2))) = some (r1,r2,r3):=h
 clear h
 replace H:=Option.bind_eq_some_iff.mp H
 obtain ⟨⟨t293,t294,t295⟩,A20,H⟩:=H
 replace H : (if t293 = 43 then (spec_reader_numeric.j0 k true s0_0 t294 t295) else (spec_reader_numeric.j0 k (t293 == 45) s0_0 t294 t295)) = some (r1,r2,r3):=H
 have A2:=Aside0.mk A20
 clear A20
 have HC3:=Aside0.mk H
 clear H
 go_enter Tryz.func110,Tryz.ntmps110
 go_upto_region 2 with (first|((with_reducible refine gate_callee (f:=104) rfl ?_);refine goesL_ (some 8) rfl rfl Tryz.func104 (by kernel_rfl) rfl #[.pointer (some ⟨g,0,none⟩),.int .i64 0] rfl (by (try simp only [List.map_toArray,List.map_cons,List.map_nil]);first|done|rfl|(simp only [List.length_drop,List.length_take];rfl)) ?_;(with_reducible refine (spec_reader_peek.calls g s0_0 s0_1 s0_2 0 t293 t294 t295 w0 _ ?side1 ?side2 A2.out).mono ?_);(case side1 => repeat (first|(with_reducible first|exact HI0.out|apply sA|apply sB|apply sC|apply sD|apply sE)|exact HI0.out));(case side2 => repeat (first|(with_reducible first|exact HB.out|apply bA|apply bB|apply bC|refine bD ?_ (IsS115.ge HI0.out))|exact HB.out));rintro e w4 ⟨rfl,hi,hb,hk⟩;refine ⟨_,rfl,?_⟩;have n0_:=Aside0.mk (KeepBut.trans (by repeat (first|(with_reducible first|exact HK.out|apply kA|apply kB|apply kC|apply kD)|exact HK.out)) hk (.inl rfl));have n1_:=Aside0.mk (hb);have n2_:=Aside0.mk (hi);clear HK;clear HB;clear HI0;have HK:=n0_;have HB:=n1_;have HI0:=n2_;clear n0_ n1_ n2_;(try clear hb);(try clear hb2);(try clear hk);(try clear hi)))
 (try simp only [Act.put,List.setIfInBounds_toArray,List.set_cons_zero,List.set_cons_succ])
 go_cut [14] (fun v14 wc => ∃ (kq : Nat) (x14_2 : Bool),v14 = .bool x14_2 ∧ Aside0 (spec_reader_numeric.j0 kq x14_2 s0_0 t294 t295 = some (r1,r2,r3)) ∧ Aside0 (kq ≤ k) ∧ Aside0 (IsS115 w0 wc g s0_0 t294 t295) ∧ Aside0 (KeepBut w wc g none) ∧ Aside0 (Below w0.heap.size w0 wc))
 case first =>
  have H:=HC3.out
  clear HC3
  by_cases c5 : t293 = 43
  ·rw [if_pos c5] at H
   have c5b0 : (t293 == 43) = true:=beq_iff_eq.mpr c5
   have c5b1 : (t293 != 43) = false:=bne_eq_false_iff_eq.mpr c5
   clear c5
   (first|rw [c5b0]|(simp only [i64_w,i32_w];rw [c5b0])|skip)
   have H':=Aside0.mk H
   clear H
   go_wp2
   go_meet
   case rel => exact ⟨_,(true),(by first|rfl|(simp;done)|(simp [*];done)),H',⟨by first|omega|exact Nat.le_refl _⟩,⟨by repeat (first|(with_reducible first|exact HI0.out|apply sA|apply sB|apply sC|apply sD|apply sE)|exact HI0.out)⟩,⟨by repeat (first|(with_reducible first|exact HK.out|apply kA|apply kB|apply kC|apply kD)|exact HK.out)⟩,⟨by repeat (first|(with_reducible first|exact HB.out|apply bA|apply bB|apply bC|refine bD ?_ (IsS115.ge HI0.out))|exact HB.out)⟩⟩
  ·rw [if_neg c5] at H
   have c5b0 : (t293 == 43) = false:=beq_eq_false_iff_ne.mpr c5
   have c5b1 : (t293 != 43) = true:=bne_iff_ne.mpr c5
   (first|rw [c5b0]|(simp only [i64_w,i32_w];rw [c5b0])|skip)
   have H':=Aside0.mk H
   clear H
   go_wp2
   go_meet
   case rel => exact ⟨_,((t293 == 45)),(by first|rfl|(simp;done)|(simp [*];done)),H',⟨by first|omega|exact Nat.le_refl _⟩,⟨by repeat (first|(with_reducible first|exact HI0.out|apply sA|apply sB|apply sC|apply sD|apply sE)|exact HI0.out)⟩,⟨by repeat (first|(with_reducible first|exact HK.out|apply kA|apply kB|apply kC|apply kD)|exact HK.out)⟩,⟨by repeat (first|(with_reducible first|exact HB.out|apply bA|apply bB|apply bC|refine bD ?_ (IsS115.ge HI0.out))|exact HB.out)⟩⟩
 case rest =>
  clear HC3
  try clear c1
  try clear p2
  try clear c5
  try clear c5b0
  try clear c5b1
  obtain ⟨kq,x14_2,rfl,HA,HJ2,HI0,HK,HB⟩:=hcut
  cases kq with
  | zero => exact absurd HA.out (by simp [spec_reader_numeric.j0])
  | succ kj2 =>
   have H:=HA.out
   clear HA
   simp only [spec_reader_numeric.j0] at H
   have HC6:=Aside0.mk H
   clear H
   go_upto_if 14 with (fail)
   go_cut [] (fun wc => ∃ (kq : Nat) (x1001_5 : Int),Aside0 (spec_reader_numeric.j1 kq s0_0 x1001_5 t295 = some (r1,r2,r3)) ∧ Aside0 (kq ≤ kj2) ∧ Aside0 (IsS115 w0 wc g s0_0 x1001_5 t295) ∧ Aside0 (KeepBut w wc g none) ∧ Aside0 (Below w0.heap.size w0 wc))
   case first =>
    have H:=HC6.out
    clear HC6
    by_cases c7 : x14_2 = true
    ·subst c7
     have H1 : (spec_reader_numeric.j1 kj2 s0_0 (wrap64 (t294 + 1)) t295) = some (r1,r2,r3):=by rw [if_pos rfl] at H;exact H
     clear H
     have H:=H1
     clear H1
     have H':=Aside0.mk H
     clear H
     obtain ⟨ASz8_0,cSz8_0,HGz8,hgz8,HSz8_0⟩:=HI0.out
     have hcz8_0:=cellS115_0 HGz8
     have hcz8_1:=cellS115_1 HGz8
     have hcz8_2:=cellS115_2 HGz8
     have hfz8_1:=blk_frozen HGz8 1
     have hfz8_2:=blk_frozen HGz8 2
     clear HGz8 hgz8
     go_wp2
     go_meet
     case rel => exact ⟨_,(wrap64 (t294 + 1)),H',⟨by have:=HJ2.out;first|omega|exact Nat.le_refl _⟩,⟨by repeat (first|(with_reducible first|exact HI0.out|apply sA|apply sB|apply sC|apply sD|apply sE)|exact HI0.out)⟩,⟨by repeat (first|(with_reducible first|exact HK.out|apply kA|apply kB|apply kC|apply kD)|exact HK.out)⟩,⟨by repeat (first|(with_reducible first|exact HB.out|apply bA|apply bB|apply bC|refine bD ?_ (IsS115.ge HI0.out))|exact HB.out)⟩⟩
    ·replace c7:=Bool.eq_false_iff.mpr c7
     subst c7
     have H1 : (spec_reader_numeric.j1 kj2 s0_0 t294 t295) = some (r1,r2,r3):=by rw [if_neg (show ¬ (false = true) by decide)] at H;exact H
     clear H
     have H:=H1
     clear H1
     have H':=Aside0.mk H
     clear H
     go_wp2
     go_meet
     case rel => exact ⟨_,(t294),H',⟨by have:=HJ2.out;first|omega|exact Nat.le_refl _⟩,⟨by repeat (first|(with_reducible first|exact HI0.out|apply sA|apply sB|apply sC|apply sD|apply sE)|exact HI0.out)⟩,⟨by repeat (first|(with_reducible first|exact HK.out|apply kA|apply kB|apply kC|apply kD)|exact HK.out)⟩,⟨by repeat (first|(with_reducible first|exact HB.out|apply bA|apply bB|apply bC|refine bD ?_ (IsS115.ge HI0.out))|exact HB.out)⟩⟩
   case rest =>
    clear HC6
    try clear c1
    try clear p2
    try clear c5
    try clear c5b0
    try clear c5b1
    try clear p6
    try clear c7
    try clear hcz8_0
    try clear hcz8_1
    try clear hcz8_2
    try clear hfz8_1
    try clear hfz8_2
    try clear p2
    obtain ⟨kq,x1001_5,HA,HJ5,HI0,HK,HB⟩:=hcut
    cases kq with
    | zero => exact absurd HA.out (by simp [spec_reader_numeric.j1])
    | succ kj5 =>
     have H:=HA.out
     clear HA
     simp only [spec_reader_numeric.j1] at H
     replace H:=Option.bind_eq_some_iff.mp H
     obtain ⟨⟨t296,t297⟩,A90,H⟩:=H
     replace H : ((spec_reader_peek.f s0_0 t296 t297 0).bind fun bt298 => (if bt298.1 = 46 then ((spec_reader_peek.f s0_0 bt298.2.1 bt298.2.2 1).bind fun bt301 => ((spec_isDigit.f bt301.1).bind fun t304 => (spec_reader_numeric.j2 kj5 t304 s0_0 bt301.2.1 bt301.2.2))) else (spec_reader_numeric.j2 kj5 false s0_0 bt298.2.1 bt298.2.2))) = some (r1,r2,r3):=H
     have A9:=Aside0.mk A90
     clear A90
     have HC10:=Aside0.mk H
     clear H
     go_upto_region 5 with (first|((with_reducible refine gate_callee (f:=138) rfl ?_);refine goesL_ (some 23) rfl rfl Tryz.func138 (by kernel_rfl) rfl #[.pointer (some ⟨g,0,none⟩)] rfl (by (try simp only [List.map_toArray,List.map_cons,List.map_nil]);first|done|rfl|(simp only [List.length_drop,List.length_take];rfl)) ?_;(with_reducible refine (spec_reader_digits.calls kj5 g s0_0 x1001_5 t295 t296 t297 w0 _ ?side1 ?side2 A9.out).mono ?_);(case side1 => repeat (first|(with_reducible first|exact HI0.out|apply sA|apply sB|apply sC|apply sD|apply sE)|exact HI0.out));(case side2 => repeat (first|(with_reducible first|exact HB.out|apply bA|apply bB|apply bC|refine bD ?_ (IsS115.ge HI0.out))|exact HB.out));rintro e w11 ⟨rfl,hi,hb,hk⟩;refine ⟨_,rfl,?_⟩;have n0_:=Aside0.mk (KeepBut.trans (by repeat (first|(with_reducible first|exact HK.out|apply kA|apply kB|apply kC|apply kD)|exact HK.out)) hk (.inl rfl));have n1_:=Aside0.mk (hb);have n2_:=Aside0.mk (hi);clear HK;clear HB;clear HI0;have HK:=n0_;have HB:=n1_;have HI0:=n2_;clear n0_ n1_ n2_;(try clear hb);(try clear hb2);(try clear hk);(try clear hi)))
     (try simp only [Act.put,List.setIfInBounds_toArray,List.set_cons_zero,List.set_cons_succ])
     go_cut [31] (fun v31 wc => ∃ (kq : Nat) (x31_9 : Bool) (x1001_9 : Int) (x1002_9 : Bool),v31 = .bool x31_9 ∧ Aside0 (spec_reader_numeric.j2 kq x31_9 s0_0 x1001_9 x1002_9 = some (r1,r2,r3)) ∧ Aside0 (kq ≤ kj5) ∧ Aside0 (IsS115 w0 wc g s0_0 x1001_9 x1002_9) ∧ Aside0 (KeepBut w wc g none) ∧ Aside0 (Below w0.heap.size w0 wc))
     case first =>
      have H:=HC10.out
      clear HC10
      replace H:=Option.bind_eq_some_iff.mp H
      obtain ⟨⟨t298,t299,t300⟩,A120,H⟩:=H
      replace H : (if t298 = 46 then ((spec_reader_peek.f s0_0 t299 t300 1).bind fun bt301 => ((spec_isDigit.f bt301.1).bind fun t304 => (spec_reader_numeric.j2 kj5 t304 s0_0 bt301.2.1 bt301.2.2))) else (spec_reader_numeric.j2 kj5 false s0_0 t299 t300)) = some (r1,r2,r3):=H
      have A12:=Aside0.mk A120
      clear A120
      by_cases c13 : t298 = 46
      ·rw [if_pos c13] at H
       have c13b0 : (t298 == 46) = true:=beq_iff_eq.mpr c13
       have c13b1 : (t298 != 46) = false:=bne_eq_false_iff_eq.mpr c13
       clear c13
       (first|rw [c13b0]|(simp only [i64_w,i32_w];rw [c13b0])|skip)
       replace H:=Option.bind_eq_some_iff.mp H
       obtain ⟨⟨t301,t302,t303⟩,A140,H⟩:=H
       replace H : ((spec_isDigit.f t301).bind fun t304 => (spec_reader_numeric.j2 kj5 t304 s0_0 t302 t303)) = some (r1,r2,r3):=H
       have A14:=Aside0.mk A140
       clear A140
       replace H:=Option.bind_eq_some_iff.mp H
       obtain ⟨t304,A150,H⟩:=H
       replace H : (spec_reader_numeric.j2 kj5 t304 s0_0 t302 t303) = some (r1,r2,r3):=H
       have A15:=Aside0.mk A150
       clear A150
       have H':=Aside0.mk H
       clear H
       go_wp2_with (first|((with_reducible refine gate_callee (f:=104) rfl ?_);refine goesL_ (some 25) rfl rfl Tryz.func104 (by kernel_rfl) rfl #[.pointer (some ⟨g,0,none⟩),.int .i64 0] rfl (by (try simp only [List.map_toArray,List.map_cons,List.map_nil]);first|done|rfl|(simp only [List.length_drop,List.length_take];rfl)) ?_;(with_reducible refine (spec_reader_peek.calls g s0_0 t296 t297 0 t298 t299 t300 w0 _ ?side1 ?side2 A12.out).mono ?_);(case side1 => repeat (first|(with_reducible first|exact HI0.out|apply sA|apply sB|apply sC|apply sD|apply sE)|exact HI0.out));(case side2 => repeat (first|(with_reducible first|exact HB.out|apply bA|apply bB|apply bC|refine bD ?_ (IsS115.ge HI0.out))|exact HB.out));rintro e w16 ⟨rfl,hi,hb,hk⟩;refine ⟨_,rfl,?_⟩;have n0_:=Aside0.mk (KeepBut.trans (by repeat (first|(with_reducible first|exact HK.out|apply kA|apply kB|apply kC|apply kD)|exact HK.out)) hk (.inl rfl));have n1_:=Aside0.mk (hb);have n2_:=Aside0.mk (hi);clear HK;clear HB;clear HI0;have HK:=n0_;have HB:=n1_;have HI0:=n2_;clear n0_ n1_ n2_;(try clear hb);(try clear hb2);(try clear hk);(try clear hi))|(go_at_call 104;(with_reducible refine (spec_reader_peek.calls g s0_0 t299 t300 1 t301 t302 t303 w0 _ ?side1 ?side2 A14.out).mono ?_);(case side1 => repeat (first|(with_reducible first|exact HI0.out|apply sA|apply sB|apply sC|apply sD|apply sE)|exact HI0.out));(case side2 => repeat (first|(with_reducible first|exact HB.out|apply bA|apply bB|apply bC|refine bD ?_ (IsS115.ge HI0.out))|exact HB.out));rintro e w17 ⟨rfl,hi,hb,hk⟩;have n0_:=Aside0.mk (KeepBut.trans (by repeat (first|(with_reducible first|exact HK.out|apply kA|apply kB|apply kC|apply kD)|exact HK.out)) hk (.inl rfl));have n1_:=Aside0.mk (hb);have n2_:=Aside0.mk (hi);clear HK;clear HB;clear HI0;have HK:=n0_;have HB:=n1_;have HI0:=n2_;clear n0_ n1_ n2_;(try clear hb);(try clear hb2);(try clear hk);(try clear hi))|(go_at_call 137;(with_reducible refine (spec_isDigit.calls t301 t304 _ A15.out).mono ?_);rintro e w' ⟨rfl,⟨nd,rfl⟩⟩))
       go_meet
       case rel => exact ⟨_,(t304),(t302),(t303),(by first|rfl|(simp;done)|(simp [*];done)),H',⟨by have:=HJ2.out;have:=HJ5.out;first|omega|exact Nat.le_refl _⟩,⟨by repeat (first|(with_reducible first|exact HI0.out|apply sA|apply sB|apply sC|apply sD|apply sE)|exact HI0.out)⟩,⟨by repeat (first|(with_reducible first|exact HK.out|apply kA|apply kB|apply kC|apply kD)|exact HK.out)⟩,⟨by repeat (first|(with_reducible first|exact HB.out|apply bA|apply bB|apply bC|refine bD ?_ (IsS115.ge HI0.out))|exact HB.out)⟩⟩
      ·rw [if_neg c13] at H
       have c13b0 : (t298 == 46) = false:=beq_eq_false_iff_ne.mpr c13
       have c13b1 : (t298 != 46) = true:=bne_iff_ne.mpr c13
       (first|rw [c13b0]|(simp only [i64_w,i32_w];rw [c13b0])|skip)
       have H':=Aside0.mk H
       clear H
       go_wp2_with (first|((with_reducible refine gate_callee (f:=104) rfl ?_);refine goesL_ (some 25) rfl rfl Tryz.func104 (by kernel_rfl) rfl #[.pointer (some ⟨g,0,none⟩),.int .i64 0] rfl (by (try simp only [List.map_toArray,List.map_cons,List.map_nil]);first|done|rfl|(simp only [List.length_drop,List.length_take];rfl)) ?_;(with_reducible refine (spec_reader_peek.calls g s0_0 t296 t297 0 t298 t299 t300 w0 _ ?side1 ?side2 A12.out).mono ?_);(case side1 => repeat (first|(with_reducible first|exact HI0.out|apply sA|apply sB|apply sC|apply sD|apply sE)|exact HI0.out));(case side2 => repeat (first|(with_reducible first|exact HB.out|apply bA|apply bB|apply bC|refine bD ?_ (IsS115.ge HI0.out))|exact HB.out));rintro e w18 ⟨rfl,hi,hb,hk⟩;refine ⟨_,rfl,?_⟩;have n0_:=Aside0.mk (KeepBut.trans (by repeat (first|(with_reducible first|exact HK.out|apply kA|apply kB|apply kC|apply kD)|exact HK.out)) hk (.inl rfl));have n1_:=Aside0.mk (hb);have n2_:=Aside0.mk (hi);clear HK;clear HB;clear HI0;have HK:=n0_;have HB:=n1_;have HI0:=n2_;clear n0_ n1_ n2_;(try clear hb);(try clear hb2);(try clear hk);(try clear hi)))
       go_meet
       case rel => exact ⟨_,(false),(t299),(t300),(by first|rfl|(simp;done)|(simp [*];done)),H',⟨by have:=HJ2.out;have:=HJ5.out;first|omega|exact Nat.le_refl _⟩,⟨by repeat (first|(with_reducible first|exact HI0.out|apply sA|apply sB|apply sC|apply sD|apply sE)|exact HI0.out)⟩,⟨by repeat (first|(with_reducible first|exact HK.out|apply kA|apply kB|apply kC|apply kD)|exact HK.out)⟩,⟨by repeat (first|(with_reducible first|exact HB.out|apply bA|apply bB|apply bC|refine bD ?_ (IsS115.ge HI0.out))|exact HB.out)⟩⟩
     case rest =>
      clear HC10
      try clear c1
      try clear p2
      try clear c5
      try clear c5b0
      try clear c5b1
      try clear p6
      try clear c7
      try clear c10
      try clear c11
      try clear c13
      try clear c13b0
      try clear c13b1
      try clear hcz8_0
      try clear hcz8_1
      try clear hcz8_2
      try clear hfz8_1
      try clear hfz8_2
      try clear p2
      try clear p6
      obtain ⟨kq,x31_9,x1001_9,x1002_9,rfl,HA,HJ9,HI0,HK,HB⟩:=hcut
      cases kq with
      | zero => exact absurd HA.out (by simp [spec_reader_numeric.j2])
      | succ kj9 =>
       have H:=HA.out
       clear HA
       simp only [spec_reader_numeric.j2] at H
       have HC19:=Aside0.mk H
       clear H
       go_upto_if 31 with (fail)
       go_cut [] (fun wc => ∃ (kq : Nat) (x1001_18 : Int) (x1002_18 : Bool),Aside0 (spec_reader_numeric.j3 kq s0_0 x1001_18 x1002_18 = some (r1,r2,r3)) ∧ Aside0 (kq ≤ kj9) ∧ Aside0 (IsS115 w0 wc g s0_0 x1001_18 x1002_18) ∧ Aside0 (KeepBut w wc g none) ∧ Aside0 (Below w0.heap.size w0 wc))
       case first =>
        have H:=HC19.out
        clear HC19
        by_cases c20 : x31_9 = true
        ·subst c20
         have H1 : ((spec_reader_digits.f kj9 s0_0 (wrap64 (x1001_9 + 1)) x1002_9).bind fun bt305 => (spec_reader_numeric.j3 kj9 s0_0 bt305.1 bt305.2)) = some (r1,r2,r3):=by rw [if_pos rfl] at H;exact H
         clear H
         have H:=H1
         clear H1
         replace H:=Option.bind_eq_some_iff.mp H
         obtain ⟨⟨t305,t306⟩,A210,H⟩:=H
         replace H : (spec_reader_numeric.j3 kj9 s0_0 t305 t306) = some (r1,r2,r3):=H
         have A21:=Aside0.mk A210
         clear A210
         have H':=Aside0.mk H
         clear H
         obtain ⟨ASz22_0,cSz22_0,HGz22,hgz22,HSz22_0⟩:=HI0.out
         have hcz22_0:=cellS115_0 HGz22
         have hcz22_1:=cellS115_1 HGz22
         have hcz22_2:=cellS115_2 HGz22
         have hfz22_1:=blk_frozen HGz22 1
         have hfz22_2:=blk_frozen HGz22 2
         clear HGz22 hgz22
         go_wp2_with (first|((with_reducible refine gate_callee (f:=138) rfl ?_);refine goesL_ (some 40) rfl rfl Tryz.func138 (by kernel_rfl) rfl #[.pointer (some ⟨g,0,none⟩)] rfl (by (try simp only [List.map_toArray,List.map_cons,List.map_nil]);first|done|rfl|(simp only [List.length_drop,List.length_take];rfl)) ?_;(with_reducible refine (spec_reader_digits.calls kj9 g s0_0 (wrap64 (x1001_9 + 1)) x1002_9 t305 t306 w0 _ ?side1 ?side2 A21.out).mono ?_);(case side1 => repeat (first|(with_reducible first|exact HI0.out|apply sA|apply sB|apply sC|apply sD|apply sE)|exact HI0.out));(case side2 => repeat (first|(with_reducible first|exact HB.out|apply bA|apply bB|apply bC|refine bD ?_ (IsS115.ge HI0.out))|exact HB.out));rintro e w23 ⟨rfl,hi,hb,hk⟩;refine ⟨_,rfl,?_⟩;have n0_:=Aside0.mk (KeepBut.trans (by repeat (first|(with_reducible first|exact HK.out|apply kA|apply kB|apply kC|apply kD)|exact HK.out)) hk (.inl rfl));have n1_:=Aside0.mk (hb);have n2_:=Aside0.mk (hi);clear HK;clear HB;clear HI0;have HK:=n0_;have HB:=n1_;have HI0:=n2_;clear n0_ n1_ n2_;(try clear hb);(try clear hb2);(try clear hk);(try clear hi)))
         go_meet
         case rel => exact ⟨_,(t305),(t306),H',⟨by have:=HJ2.out;have:=HJ5.out;have:=HJ9.out;first|omega|exact Nat.le_refl _⟩,⟨by repeat (first|(with_reducible first|exact HI0.out|apply sA|apply sB|apply sC|apply sD|apply sE)|exact HI0.out)⟩,⟨by repeat (first|(with_reducible first|exact HK.out|apply kA|apply kB|apply kC|apply kD)|exact HK.out)⟩,⟨by repeat (first|(with_reducible first|exact HB.out|apply bA|apply bB|apply bC|refine bD ?_ (IsS115.ge HI0.out))|exact HB.out)⟩⟩
        ·replace c20:=Bool.eq_false_iff.mpr c20
         subst c20
         have H1 : (spec_reader_numeric.j3 kj9 s0_0 x1001_9 x1002_9) = some (r1,r2,r3):=by rw [if_neg (show ¬ (false = true) by decide)] at H;exact H
         clear H
         have H:=H1
         clear H1
         have H':=Aside0.mk H
         clear H
         go_wp2
         go_meet
         case rel => exact ⟨_,(x1001_9),(x1002_9),H',⟨by have:=HJ2.out;have:=HJ5.out;have:=HJ9.out;first|omega|exact Nat.le_refl _⟩,⟨by repeat (first|(with_reducible first|exact HI0.out|apply sA|apply sB|apply sC|apply sD|apply sE)|exact HI0.out)⟩,⟨by repeat (first|(with_reducible first|exact HK.out|apply kA|apply kB|apply kC|apply kD)|exact HK.out)⟩,⟨by repeat (first|(with_reducible first|exact HB.out|apply bA|apply bB|apply bC|refine bD ?_ (IsS115.ge HI0.out))|exact HB.out)⟩⟩
       case rest =>
        clear HC19
        try clear c1
        try clear c2
        try clear p2
        try clear c5
        try clear c5b0
        try clear c5b1
        try clear p6
        try clear c7
        try clear c10
        try clear c11
        try clear c13
        try clear c13b0
        try clear c13b1
        try clear c20
        try clear hcz22_0
        try clear hcz22_1
        try clear hcz22_2
        try clear hcz8_0
        try clear hcz8_1
        try clear hcz8_2
        try clear hfz22_1
        try clear hfz22_2
        try clear hfz8_1
        try clear hfz8_2
        try clear p2
        try clear p6
        obtain ⟨kq,x1001_18,x1002_18,HA,HJ18,HI0,HK,HB⟩:=hcut
        cases kq with
        | zero => exact absurd HA.out (by simp [spec_reader_numeric.j3])
        | succ kj18 =>
         have H:=HA.out
         clear HA
         simp only [spec_reader_numeric.j3] at H
         replace H:=Option.bind_eq_some_iff.mp H
         obtain ⟨⟨t307,t308,t309⟩,A240,H⟩:=H
         replace H : (if t307 = 101 then (spec_reader_numeric.j4 kj18 true s0_0 t308 t309) else (spec_reader_numeric.j4 kj18 (t307 == 69) s0_0 t308 t309)) = some (r1,r2,r3):=H
         have A24:=Aside0.mk A240
         clear A240
         have HC25:=Aside0.mk H
         clear H
         go_upto_region 9 with (first|((with_reducible refine gate_callee (f:=104) rfl ?_);refine goesL_ (some 42) rfl rfl Tryz.func104 (by kernel_rfl) rfl #[.pointer (some ⟨g,0,none⟩),.int .i64 0] rfl (by (try simp only [List.map_toArray,List.map_cons,List.map_nil]);first|done|rfl|(simp only [List.length_drop,List.length_take];rfl)) ?_;(with_reducible refine (spec_reader_peek.calls g s0_0 x1001_18 x1002_18 0 t307 t308 t309 w0 _ ?side1 ?side2 A24.out).mono ?_);(case side1 => repeat (first|(with_reducible first|exact HI0.out|apply sA|apply sB|apply sC|apply sD|apply sE)|exact HI0.out));(case side2 => repeat (first|(with_reducible first|exact HB.out|apply bA|apply bB|apply bC|refine bD ?_ (IsS115.ge HI0.out))|exact HB.out));rintro e w26 ⟨rfl,hi,hb,hk⟩;refine ⟨_,rfl,?_⟩;have n0_:=Aside0.mk (KeepBut.trans (by repeat (first|(with_reducible first|exact HK.out|apply kA|apply kB|apply kC|apply kD)|exact HK.out)) hk (.inl rfl));have n1_:=Aside0.mk (hb);have n2_:=Aside0.mk (hi);clear HK;clear HB;clear HI0;have HK:=n0_;have HB:=n1_;have HI0:=n2_;clear n0_ n1_ n2_;(try clear hb);(try clear hb2);(try clear hk);(try clear hi)))
         (try simp only [Act.put,List.setIfInBounds_toArray,List.set_cons_zero,List.set_cons_succ])
         go_cut [48] (fun v48 wc => ∃ (kq : Nat) (x48_24 : Bool),v48 = .bool x48_24 ∧ Aside0 (spec_reader_numeric.j4 kq x48_24 s0_0 t308 t309 = some (r1,r2,r3)) ∧ Aside0 (kq ≤ kj18) ∧ Aside0 (IsS115 w0 wc g s0_0 t308 t309) ∧ Aside0 (KeepBut w wc g none) ∧ Aside0 (Below w0.heap.size w0 wc))
         case first =>
          have H:=HC25.out
          clear HC25
          by_cases c27 : t307 = 101
          ·rw [if_pos c27] at H
           have c27b0 : (t307 == 101) = true:=beq_iff_eq.mpr c27
           have c27b1 : (t307 != 101) = false:=bne_eq_false_iff_eq.mpr c27
           clear c27
           (first|rw [c27b0]|(simp only [i64_w,i32_w];rw [c27b0])|skip)
           have H':=Aside0.mk H
           clear H
           go_wp2
           go_meet
           case rel => exact ⟨_,(true),(by first|rfl|(simp;done)|(simp [*];done)),H',⟨by have:=HJ2.out;have:=HJ5.out;have:=HJ9.out;have:=HJ18.out;first|omega|exact Nat.le_refl _⟩,⟨by repeat (first|(with_reducible first|exact HI0.out|apply sA|apply sB|apply sC|apply sD|apply sE)|exact HI0.out)⟩,⟨by repeat (first|(with_reducible first|exact HK.out|apply kA|apply kB|apply kC|apply kD)|exact HK.out)⟩,⟨by repeat (first|(with_reducible first|exact HB.out|apply bA|apply bB|apply bC|refine bD ?_ (IsS115.ge HI0.out))|exact HB.out)⟩⟩
          ·rw [if_neg c27] at H
           have c27b0 : (t307 == 101) = false:=beq_eq_false_iff_ne.mpr c27
           have c27b1 : (t307 != 101) = true:=bne_iff_ne.mpr c27
           (first|rw [c27b0]|(simp only [i64_w,i32_w];rw [c27b0])|skip)
           have H':=Aside0.mk H
           clear H
           go_wp2
           go_meet
           case rel => exact ⟨_,((t307 == 69)),(by first|rfl|(simp;done)|(simp [*];done)),H',⟨by have:=HJ2.out;have:=HJ5.out;have:=HJ9.out;have:=HJ18.out;first|omega|exact Nat.le_refl _⟩,⟨by repeat (first|(with_reducible first|exact HI0.out|apply sA|apply sB|apply sC|apply sD|apply sE)|exact HI0.out)⟩,⟨by repeat (first|(with_reducible first|exact HK.out|apply kA|apply kB|apply kC|apply kD)|exact HK.out)⟩,⟨by repeat (first|(with_reducible first|exact HB.out|apply bA|apply bB|apply bC|refine bD ?_ (IsS115.ge HI0.out))|exact HB.out)⟩⟩
         case rest =>
          clear HC25
          try clear c1
          try clear c2
          try clear p2
          try clear c5
          try clear c5b0
          try clear c5b1
          try clear p6
          try clear c7
          try clear c10
          try clear c11
          try clear c13
          try clear c13b0
          try clear c13b1
          try clear c20
          try clear c27
          try clear c27b0
          try clear c27b1
          try clear hcz22_0
          try clear hcz22_1
          try clear hcz22_2
          try clear hcz8_0
          try clear hcz8_1
          try clear hcz8_2
          try clear hfz22_1
          try clear hfz22_2
          try clear hfz8_1
          try clear hfz8_2
          try clear p2
          try clear p6
          obtain ⟨kq,x48_24,rfl,HA,HJ24,HI0,HK,HB⟩:=hcut
          cases kq with
          | zero => exact absurd HA.out (by simp [spec_reader_numeric.j4])
          | succ kj24 =>
           have H:=HA.out
           clear HA
           simp only [spec_reader_numeric.j4] at H
           have HC28:=Aside0.mk H
           clear H
           go_upto_if 48 with (fail)
           go_cut [] (fun wc => ∃ (kq : Nat) (x1001_27 : Int) (x1002_27 : Bool),Aside0 (spec_reader_numeric.j7 kq s0_0 x1001_27 x1002_27 = some (r1,r2,r3)) ∧ Aside0 (kq ≤ kj24) ∧ Aside0 (IsS115 w0 wc g s0_0 x1001_27 x1002_27) ∧ Aside0 (KeepBut w wc g none) ∧ Aside0 (Below w0.heap.size w0 wc))
           case first =>
            have H:=HC28.out
            clear HC28
            by_cases c29 : x48_24 = true
            ·subst c29
             have H1 : ((spec_reader_peek.f s0_0 t308 t309 1).bind fun bt310 => (if bt310.1 = 43 then (spec_reader_numeric.j5 kj24 1 true s0_0 bt310.2.1 bt310.2.2) else (spec_reader_numeric.j5 kj24 1 (bt310.1 == 45) s0_0 bt310.2.1 bt310.2.2))) = some (r1,r2,r3):=by rw [if_pos rfl] at H;exact H
             clear H
             have H:=H1
             clear H1
             replace H:=Option.bind_eq_some_iff.mp H
             obtain ⟨⟨t310,t311,t312⟩,A300,H⟩:=H
             replace H : (if t310 = 43 then (spec_reader_numeric.j5 kj24 1 true s0_0 t311 t312) else (spec_reader_numeric.j5 kj24 1 (t310 == 45) s0_0 t311 t312)) = some (r1,r2,r3):=H
             have A30:=Aside0.mk A300
             clear A300
             have HC31:=Aside0.mk H
             clear H
             go_upto_region 12 with (first|((with_reducible refine gate_callee (f:=104) rfl ?_);refine goesL_ (some 50) rfl rfl Tryz.func104 (by kernel_rfl) rfl #[.pointer (some ⟨g,0,none⟩),.int .i64 1] rfl (by (try simp only [List.map_toArray,List.map_cons,List.map_nil]);first|done|rfl|(simp only [List.length_drop,List.length_take];rfl)) ?_;(with_reducible refine (spec_reader_peek.calls g s0_0 t308 t309 1 t310 t311 t312 w0 _ ?side1 ?side2 A30.out).mono ?_);(case side1 => repeat (first|(with_reducible first|exact HI0.out|apply sA|apply sB|apply sC|apply sD|apply sE)|exact HI0.out));(case side2 => repeat (first|(with_reducible first|exact HB.out|apply bA|apply bB|apply bC|refine bD ?_ (IsS115.ge HI0.out))|exact HB.out));rintro e w32 ⟨rfl,hi,hb,hk⟩;refine ⟨_,rfl,?_⟩;have n0_:=Aside0.mk (KeepBut.trans (by repeat (first|(with_reducible first|exact HK.out|apply kA|apply kB|apply kC|apply kD)|exact HK.out)) hk (.inl rfl));have n1_:=Aside0.mk (hb);have n2_:=Aside0.mk (hi);clear HK;clear HB;clear HI0;have HK:=n0_;have HB:=n1_;have HI0:=n2_;clear n0_ n1_ n2_;(try clear hb);(try clear hb2);(try clear hk);(try clear hi)))
             (try simp only [Act.put,List.setIfInBounds_toArray,List.set_cons_zero,List.set_cons_succ])
             go_cut [56] (fun v56 wc => ∃ (kq : Nat) (x56_30 : Bool),v56 = .bool x56_30 ∧ Aside0 (spec_reader_numeric.j5 kq 1 x56_30 s0_0 t311 t312 = some (r1,r2,r3)) ∧ Aside0 (kq ≤ kj24) ∧ Aside0 (IsS115 w0 wc g s0_0 t311 t312) ∧ Aside0 (KeepBut w wc g none) ∧ Aside0 (Below w0.heap.size w0 wc))
             case first =>
              have H:=HC31.out
              clear HC31
              by_cases c33 : t310 = 43
              ·rw [if_pos c33] at H
               have c33b0 : (t310 == 43) = true:=beq_iff_eq.mpr c33
               have c33b1 : (t310 != 43) = false:=bne_eq_false_iff_eq.mpr c33
               clear c33
               (first|rw [c33b0]|(simp only [i64_w,i32_w];rw [c33b0])|skip)
               have H':=Aside0.mk H
               clear H
               go_wp2
               go_meet
               case rel => exact ⟨_,(true),(by first|rfl|(simp;done)|(simp [*];done)),H',⟨by have:=HJ2.out;have:=HJ5.out;have:=HJ9.out;have:=HJ18.out;have:=HJ24.out;first|omega|exact Nat.le_refl _⟩,⟨by repeat (first|(with_reducible first|exact HI0.out|apply sA|apply sB|apply sC|apply sD|apply sE)|exact HI0.out)⟩,⟨by repeat (first|(with_reducible first|exact HK.out|apply kA|apply kB|apply kC|apply kD)|exact HK.out)⟩,⟨by repeat (first|(with_reducible first|exact HB.out|apply bA|apply bB|apply bC|refine bD ?_ (IsS115.ge HI0.out))|exact HB.out)⟩⟩
              ·rw [if_neg c33] at H
               have c33b0 : (t310 == 43) = false:=beq_eq_false_iff_ne.mpr c33
               have c33b1 : (t310 != 43) = true:=bne_iff_ne.mpr c33
               (first|rw [c33b0]|(simp only [i64_w,i32_w];rw [c33b0])|skip)
               have H':=Aside0.mk H
               clear H
               go_wp2
               go_meet
               case rel => exact ⟨_,((t310 == 45)),(by first|rfl|(simp;done)|(simp [*];done)),H',⟨by have:=HJ2.out;have:=HJ5.out;have:=HJ9.out;have:=HJ18.out;have:=HJ24.out;first|omega|exact Nat.le_refl _⟩,⟨by repeat (first|(with_reducible first|exact HI0.out|apply sA|apply sB|apply sC|apply sD|apply sE)|exact HI0.out)⟩,⟨by repeat (first|(with_reducible first|exact HK.out|apply kA|apply kB|apply kC|apply kD)|exact HK.out)⟩,⟨by repeat (first|(with_reducible first|exact HB.out|apply bA|apply bB|apply bC|refine bD ?_ (IsS115.ge HI0.out))|exact HB.out)⟩⟩
             case rest =>
              clear HC31
              try clear c1
              try clear c2
              try clear p2
              try clear c3
              try clear c5
              try clear c5b0
              try clear c5b1
              try clear p6
              try clear c7
              try clear c10
              try clear c11
              try clear c13
              try clear c13b0
              try clear c13b1
              try clear c20
              try clear c27
              try clear c27b0
              try clear c27b1
              try clear c29
              try clear c33
              try clear c33b0
              try clear c33b1
              try clear hcz22_0
              try clear hcz22_1
              try clear hcz22_2
              try clear hcz8_0
              try clear hcz8_1
              try clear hcz8_2
              try clear hfz22_1
              try clear hfz22_2
              try clear hfz8_1
              try clear hfz8_2
              try clear p2
              try clear p6
              obtain ⟨kq,x56_30,rfl,HA,HJ30,HI0,HK,HB⟩:=hcut
              cases kq with
              | zero => exact absurd HA.out (by simp [spec_reader_numeric.j5])
              | succ kj30 =>
               have H:=HA.out
               clear HA
               simp only [spec_reader_numeric.j5] at H
               have HC34:=Aside0.mk H
               clear H
               go_upto_if 56 with (fail)
               go_cut [5] (fun v5 wc => ∃ (kq : Nat) (x5_33 : Int),v5 = .int .i64 x5_33 ∧ Aside0 (spec_reader_numeric.j6 kq x5_33 s0_0 t311 t312 = some (r1,r2,r3)) ∧ Aside0 (kq ≤ kj30) ∧ Aside0 (IsS115 w0 wc g s0_0 t311 t312) ∧ Aside0 (KeepBut w wc g none) ∧ Aside0 (Below w0.heap.size w0 wc))
               case first =>
                have H:=HC34.out
                clear HC34
                by_cases c35 : x56_30 = true
                ·subst c35
                 have H1 : (spec_reader_numeric.j6 kj30 2 s0_0 t311 t312) = some (r1,r2,r3):=by rw [if_pos rfl] at H;exact H
                 clear H
                 have H:=H1
                 clear H1
                 have H':=Aside0.mk H
                 clear H
                 go_wp2
                 go_meet
                 case rel => exact ⟨_,(2),(by first|rfl|(simp;done)|(simp [*];done)),H',⟨by have:=HJ2.out;have:=HJ5.out;have:=HJ9.out;have:=HJ18.out;have:=HJ24.out;have:=HJ30.out;first|omega|exact Nat.le_refl _⟩,⟨by repeat (first|(with_reducible first|exact HI0.out|apply sA|apply sB|apply sC|apply sD|apply sE)|exact HI0.out)⟩,⟨by repeat (first|(with_reducible first|exact HK.out|apply kA|apply kB|apply kC|apply kD)|exact HK.out)⟩,⟨by repeat (first|(with_reducible first|exact HB.out|apply bA|apply bB|apply bC|refine bD ?_ (IsS115.ge HI0.out))|exact HB.out)⟩⟩
                ·replace c35:=Bool.eq_false_iff.mpr c35
                 subst c35
                 have H1 : (spec_reader_numeric.j6 kj30 1 s0_0 t311 t312) = some (r1,r2,r3):=by rw [if_neg (show ¬ (false = true) by decide)] at H;exact H
                 clear H
                 have H:=H1
                 clear H1
                 have H':=Aside0.mk H
                 clear H
                 go_wp2
                 go_meet
                 case rel => exact ⟨_,(1),(by first|rfl|(simp;done)|(simp [*];done)),H',⟨by have:=HJ2.out;have:=HJ5.out;have:=HJ9.out;have:=HJ18.out;have:=HJ24.out;have:=HJ30.out;first|omega|exact Nat.le_refl _⟩,⟨by repeat (first|(with_reducible first|exact HI0.out|apply sA|apply sB|apply sC|apply sD|apply sE)|exact HI0.out)⟩,⟨by repeat (first|(with_reducible first|exact HK.out|apply kA|apply kB|apply kC|apply kD)|exact HK.out)⟩,⟨by repeat (first|(with_reducible first|exact HB.out|apply bA|apply bB|apply bC|refine bD ?_ (IsS115.ge HI0.out))|exact HB.out)⟩⟩
               case rest =>
                clear HC34
                try clear c1
                try clear c2
                try clear p2
                try clear c3
                try clear c5
                try clear c5b0
                try clear c5b1
                try clear p6
                try clear c7
                try clear c10
                try clear c11
                try clear c13
                try clear c13b0
                try clear c13b1
                try clear c20
                try clear c27
                try clear c27b0
                try clear c27b1
                try clear c29
                try clear c33
                try clear c33b0
                try clear c33b1
                try clear c35
                try clear hcz22_0
                try clear hcz22_1
                try clear hcz22_2
                try clear hcz8_0
                try clear hcz8_1
                try clear hcz8_2
                try clear hfz22_1
                try clear hfz22_2
                try clear hfz8_1
                try clear hfz8_2
                try clear p2
                try clear p6
                obtain ⟨kq,x5_33,rfl,HA,HJ33,HI0,HK,HB⟩:=hcut
                cases kq with
                | zero => exact absurd HA.out (by simp [spec_reader_numeric.j6])
                | succ kj33 =>
                 have H:=HA.out
                 clear HA
                 simp only [spec_reader_numeric.j6] at H
                 replace H:=Option.bind_eq_some_iff.mp H
                 obtain ⟨⟨t313,t314,t315⟩,A360,H⟩:=H
                 replace H : ((spec_isDigit.f t313).bind fun t316 => (if t316 = true then ((spec_reader_digits.f kj33 s0_0 (wrap64 (t314 + x5_33)) t315).bind fun bt317 => (spec_reader_numeric.j7 kj33 s0_0 bt317.1 bt317.2)) else (spec_reader_numeric.j7 kj33 s0_0 t314 t315))) = some (r1,r2,r3):=H
                 have A36:=Aside0.mk A360
                 clear A360
                 replace H:=Option.bind_eq_some_iff.mp H
                 obtain ⟨t316,A370,H⟩:=H
                 replace H : (if t316 = true then ((spec_reader_digits.f kj33 s0_0 (wrap64 (t314 + x5_33)) t315).bind fun bt317 => (spec_reader_numeric.j7 kj33 s0_0 bt317.1 bt317.2)) else (spec_reader_numeric.j7 kj33 s0_0 t314 t315)) = some (r1,r2,r3):=H
                 have A37:=Aside0.mk A370
                 clear A370
                 by_cases c38 : t316 = true
                 ·subst c38
                  have H1 : ((spec_reader_digits.f kj33 s0_0 (wrap64 (t314 + x5_33)) t315).bind fun bt317 => (spec_reader_numeric.j7 kj33 s0_0 bt317.1 bt317.2)) = some (r1,r2,r3):=by rw [if_pos rfl] at H;exact H
                  clear H
                  have H:=H1
                  clear H1
                  replace H:=Option.bind_eq_some_iff.mp H
                  obtain ⟨⟨t317,t318⟩,A390,H⟩:=H
                  replace H : (spec_reader_numeric.j7 kj33 s0_0 t317 t318) = some (r1,r2,r3):=H
                  have A39:=Aside0.mk A390
                  clear A390
                  have H':=Aside0.mk H
                  clear H
                  go_wp2_with (first|((with_reducible refine gate_callee (f:=104) rfl ?_);refine goesL_ (some 59) rfl rfl Tryz.func104 (by kernel_rfl) rfl #[.pointer (some ⟨g,0,none⟩),.int .i64 x5_33] rfl (by (try simp only [List.map_toArray,List.map_cons,List.map_nil]);first|done|rfl|(simp only [List.length_drop,List.length_take];rfl)) ?_;(with_reducible refine (spec_reader_peek.calls g s0_0 t311 t312 x5_33 t313 t314 t315 w0 _ ?side1 ?side2 A36.out).mono ?_);(case side1 => repeat (first|(with_reducible first|exact HI0.out|apply sA|apply sB|apply sC|apply sD|apply sE)|exact HI0.out));(case side2 => repeat (first|(with_reducible first|exact HB.out|apply bA|apply bB|apply bC|refine bD ?_ (IsS115.ge HI0.out))|exact HB.out));rintro e w40 ⟨rfl,hi,hb,hk⟩;refine ⟨_,rfl,?_⟩;have n0_:=Aside0.mk (KeepBut.trans (by repeat (first|(with_reducible first|exact HK.out|apply kA|apply kB|apply kC|apply kD)|exact HK.out)) hk (.inl rfl));have n1_:=Aside0.mk (hb);have n2_:=Aside0.mk (hi);clear HK;clear HB;clear HI0;have HK:=n0_;have HB:=n1_;have HI0:=n2_;clear n0_ n1_ n2_;(try clear hb);(try clear hb2);(try clear hk);(try clear hi))|((with_reducible refine gate_callee (f:=137) rfl ?_);refine goesL_ (some 60) rfl rfl Tryz.func137 (by kernel_rfl) rfl #[.int .u8 t313] rfl (by (try simp only [List.map_toArray,List.map_cons,List.map_nil]);first|done|rfl|(simp only [List.length_drop,List.length_take];rfl)) ?_;(with_reducible refine (spec_isDigit.calls t313 true _ A37.out).mono ?_);rintro e w' ⟨rfl,⟨nd,rfl⟩⟩;refine ⟨_,rfl,?_⟩;(try (rw [drewN_self w40];generalize hq_ : World.drewN w40 _ = w40;have n0_ : Aside0 (IsS115 w0 w40 g s0_0 t314 t315):=⟨by rw [← hq_];exact (by repeat (first|(with_reducible first|exact HI0.out|apply sA|apply sB|apply sC|apply sD|apply sE)|exact HI0.out))⟩;have n1_ : Aside0 (KeepBut w w40 g none):=⟨by rw [← hq_];exact (by repeat (first|(with_reducible first|exact HK.out|apply kA|apply kB|apply kC|apply kD)|exact HK.out))⟩;have n2_ : Aside0 (Below w0.heap.size w0 w40):=⟨by rw [← hq_];exact (by repeat (first|(with_reducible first|exact HB.out|apply bA|apply bB|apply bC|refine bD ?_ (IsS115.ge HI0.out))|exact HB.out))⟩;clear HI0 HK HB hq_;have HI0:=n0_;have HK:=n1_;have HB:=n2_;clear n0_ n1_ n2_));obtain ⟨ASz41_0,cSz41_0,HGz41,hgz41,HSz41_0⟩:=HI0.out;have hcz41_0:=cellS115_0 HGz41;have hcz41_1:=cellS115_1 HGz41;have hcz41_2:=cellS115_2 HGz41;have hfz41_1:=blk_frozen HGz41 1;have hfz41_2:=blk_frozen HGz41 2;clear HGz41 hgz41)|((with_reducible refine gate_callee (f:=138) rfl ?_);refine goesL_ (some 70) rfl rfl Tryz.func138 (by kernel_rfl) rfl #[.pointer (some ⟨g,0,none⟩)] rfl (by (try simp only [List.map_toArray,List.map_cons,List.map_nil]);first|done|rfl|(simp only [List.length_drop,List.length_take];rfl)) ?_;(with_reducible refine (spec_reader_digits.calls kj33 g s0_0 (wrap64 (t314 + x5_33)) t315 t317 t318 w0 _ ?side1 ?side2 A39.out).mono ?_);(case side1 => repeat (first|(with_reducible first|exact HI0.out|apply sA|apply sB|apply sC|apply sD|apply sE)|exact HI0.out));(case side2 => repeat (first|(with_reducible first|exact HB.out|apply bA|apply bB|apply bC|refine bD ?_ (IsS115.ge HI0.out))|exact HB.out));rintro e w42 ⟨rfl,hi,hb,hk⟩;refine ⟨_,rfl,?_⟩;have n0_:=Aside0.mk (KeepBut.trans (by repeat (first|(with_reducible first|exact HK.out|apply kA|apply kB|apply kC|apply kD)|exact HK.out)) hk (.inl rfl));have n1_:=Aside0.mk (hb);have n2_:=Aside0.mk (hi);clear HK;clear HB;clear HI0;have HK:=n0_;have HB:=n1_;have HI0:=n2_;clear n0_ n1_ n2_;(try clear hb);(try clear hb2);(try clear hk);(try clear hi)))
                  go_meet
                  case rel => exact ⟨_,(t317),(t318),H',⟨by have:=HJ2.out;have:=HJ5.out;have:=HJ9.out;have:=HJ18.out;have:=HJ24.out;have:=HJ30.out;have:=HJ33.out;first|omega|exact Nat.le_refl _⟩,⟨by repeat (first|(with_reducible first|exact HI0.out|apply sA|apply sB|apply sC|apply sD|apply sE)|exact HI0.out)⟩,⟨by repeat (first|(with_reducible first|exact HK.out|apply kA|apply kB|apply kC|apply kD)|exact HK.out)⟩,⟨by repeat (first|(with_reducible first|exact HB.out|apply bA|apply bB|apply bC|refine bD ?_ (IsS115.ge HI0.out))|exact HB.out)⟩⟩
                 ·replace c38:=Bool.eq_false_iff.mpr c38
                  subst c38
                  have H1 : (spec_reader_numeric.j7 kj33 s0_0 t314 t315) = some (r1,r2,r3):=by rw [if_neg (show ¬ (false = true) by decide)] at H;exact H
                  clear H
                  have H:=H1
                  clear H1
                  have H':=Aside0.mk H
                  clear H
                  go_wp2_with (first|((with_reducible refine gate_callee (f:=104) rfl ?_);refine goesL_ (some 59) rfl rfl Tryz.func104 (by kernel_rfl) rfl #[.pointer (some ⟨g,0,none⟩),.int .i64 x5_33] rfl (by (try simp only [List.map_toArray,List.map_cons,List.map_nil]);first|done|rfl|(simp only [List.length_drop,List.length_take];rfl)) ?_;(with_reducible refine (spec_reader_peek.calls g s0_0 t311 t312 x5_33 t313 t314 t315 w0 _ ?side1 ?side2 A36.out).mono ?_);(case side1 => repeat (first|(with_reducible first|exact HI0.out|apply sA|apply sB|apply sC|apply sD|apply sE)|exact HI0.out));(case side2 => repeat (first|(with_reducible first|exact HB.out|apply bA|apply bB|apply bC|refine bD ?_ (IsS115.ge HI0.out))|exact HB.out));rintro e w43 ⟨rfl,hi,hb,hk⟩;refine ⟨_,rfl,?_⟩;have n0_:=Aside0.mk (KeepBut.trans (by repeat (first|(with_reducible first|exact HK.out|apply kA|apply kB|apply kC|apply kD)|exact HK.out)) hk (.inl rfl));have n1_:=Aside0.mk (hb);have n2_:=Aside0.mk (hi);clear HK;clear HB;clear HI0;have HK:=n0_;have HB:=n1_;have HI0:=n2_;clear n0_ n1_ n2_;(try clear hb);(try clear hb2);(try clear hk);(try clear hi))|((with_reducible refine gate_callee (f:=137) rfl ?_);refine goesL_ (some 60) rfl rfl Tryz.func137 (by kernel_rfl) rfl #[.int .u8 t313] rfl (by (try simp only [List.map_toArray,List.map_cons,List.map_nil]);first|done|rfl|(simp only [List.length_drop,List.length_take];rfl)) ?_;(with_reducible refine (spec_isDigit.calls t313 false _ A37.out).mono ?_);rintro e w' ⟨rfl,⟨nd,rfl⟩⟩;refine ⟨_,rfl,?_⟩))
                  go_meet
                  case rel => exact ⟨_,(t314),(t315),H',⟨by have:=HJ2.out;have:=HJ5.out;have:=HJ9.out;have:=HJ18.out;have:=HJ24.out;have:=HJ30.out;have:=HJ33.out;first|omega|exact Nat.le_refl _⟩,⟨by repeat (first|(with_reducible first|exact HI0.out|apply sA|apply sB|apply sC|apply sD|apply sE)|exact HI0.out)⟩,⟨by repeat (first|(with_reducible first|exact HK.out|apply kA|apply kB|apply kC|apply kD)|exact HK.out)⟩,⟨by repeat (first|(with_reducible first|exact HB.out|apply bA|apply bB|apply bC|refine bD ?_ (IsS115.ge HI0.out))|exact HB.out)⟩⟩
            ·replace c29:=Bool.eq_false_iff.mpr c29
             subst c29
             have H1 : (spec_reader_numeric.j7 kj24 s0_0 t308 t309) = some (r1,r2,r3):=by rw [if_neg (show ¬ (false = true) by decide)] at H;exact H
             clear H
             have H:=H1
             clear H1
             have H':=Aside0.mk H
             clear H
             go_wp2
             go_meet
             case rel => exact ⟨_,(t308),(t309),H',⟨by have:=HJ2.out;have:=HJ5.out;have:=HJ9.out;have:=HJ18.out;have:=HJ24.out;first|omega|exact Nat.le_refl _⟩,⟨by repeat (first|(with_reducible first|exact HI0.out|apply sA|apply sB|apply sC|apply sD|apply sE)|exact HI0.out)⟩,⟨by repeat (first|(with_reducible first|exact HK.out|apply kA|apply kB|apply kC|apply kD)|exact HK.out)⟩,⟨by repeat (first|(with_reducible first|exact HB.out|apply bA|apply bB|apply bC|refine bD ?_ (IsS115.ge HI0.out))|exact HB.out)⟩⟩
           case rest =>
            clear HC28
            try clear c1
            try clear c2
            try clear p2
            try clear c3
            try clear c5
            try clear c5b0
            try clear c5b1
            try clear p6
            try clear c7
            try clear c10
            try clear c11
            try clear c13
            try clear c13b0
            try clear c13b1
            try clear c20
            try clear c27
            try clear c27b0
            try clear c27b1
            try clear c29
            try clear c33
            try clear c33b0
            try clear c33b1
            try clear c35
            try clear c38
            try clear hcz22_0
            try clear hcz22_1
            try clear hcz22_2
            try clear hcz41_0
            try clear hcz41_1
            try clear hcz41_2
            try clear hcz8_0
            try clear hcz8_1
            try clear hcz8_2
            try clear hfz22_1
            try clear hfz22_2
            try clear hfz41_1
            try clear hfz41_2
            try clear hfz8_1
            try clear hfz8_2
            try clear p2
            try clear p6
            obtain ⟨kq,x1001_27,x1002_27,HA,HJ27,HI0,HK,HB⟩:=hcut
            cases kq with
            | zero => exact absurd HA.out (by simp [spec_reader_numeric.j7])
            | succ kj27 =>
             have H:=HA.out
             clear HA
             simp only [spec_reader_numeric.j7] at H
             replace H:=Option.bind_eq_some_iff.mp H
             obtain ⟨⟨t319,t320,t321⟩,A440,H⟩:=H
             replace H : (if t319 = true then ((spec_reader_name.f kj27 s0_0 t320 t321).bind fun bt322 => (some ((⟨#[100,105,109,101,110,115,105,111,110]⟩ : ByteArray),bt322.1,bt322.2))) else ((spec_reader_peek.f s0_0 t320 t321 0).bind fun bt324 => (if bt324.1 = 37 then (some ((⟨#[112,101,114,99,101,110,116,97,103,101]⟩ : ByteArray),wrap64 (bt324.2.1 + 1),bt324.2.2)) else (some ((⟨#[110,117,109,98,101,114]⟩ : ByteArray),bt324.2.1,bt324.2.2))))) = some (r1,r2,r3):=H
             have A44:=Aside0.mk A440
             clear A440
             by_cases c45 : t319 = true
             ·subst c45
              have H1 : ((spec_reader_name.f kj27 s0_0 t320 t321).bind fun bt322 => (some ((⟨#[100,105,109,101,110,115,105,111,110]⟩ : ByteArray),bt322.1,bt322.2))) = some (r1,r2,r3):=by rw [if_pos rfl] at H;exact H
              clear H
              have H:=H1
              clear H1
              replace H:=Option.bind_eq_some_iff.mp H
              obtain ⟨⟨t322,t323⟩,A460,H⟩:=H
              replace H : (some ((⟨#[100,105,109,101,110,115,105,111,110]⟩ : ByteArray),t322,t323)) = some (r1,r2,r3):=H
              have A46:=Aside0.mk A460
              clear A460
              simp only [Option.some.injEq,Prod.mk.injEq] at H
              obtain ⟨rfl,rfl,rfl⟩:=H
              go_wp2_with (first|((with_reducible refine gate_callee (f:=113) rfl ?_);refine goesL_ (some 73) rfl rfl Tryz.func113 (by kernel_rfl) rfl #[.pointer (some ⟨g,0,none⟩),.int .i64 0] rfl (by (try simp only [List.map_toArray,List.map_cons,List.map_nil]);first|done|rfl|(simp only [List.length_drop,List.length_take];rfl)) ?_;(with_reducible refine (spec_reader_identifies.calls kj27 g s0_0 x1001_27 x1002_27 0 true t320 t321 w0 _ ?side1 ?side2 A44.out).mono ?_);(case side1 => repeat (first|(with_reducible first|exact HI0.out|apply sA|apply sB|apply sC|apply sD|apply sE)|exact HI0.out));(case side2 => repeat (first|(with_reducible first|exact HB.out|apply bA|apply bB|apply bC|refine bD ?_ (IsS115.ge HI0.out))|exact HB.out));rintro e w47 ⟨rfl,hi,hb,hk⟩;refine ⟨_,rfl,?_⟩;have n0_:=Aside0.mk (KeepBut.trans (by repeat (first|(with_reducible first|exact HK.out|apply kA|apply kB|apply kC|apply kD)|exact HK.out)) hk (.inl rfl));have n1_:=Aside0.mk (hb);have n2_:=Aside0.mk (hi);clear HK;clear HB;clear HI0;have HK:=n0_;have HB:=n1_;have HI0:=n2_;clear n0_ n1_ n2_;(try clear hb);(try clear hb2);(try clear hk);(try clear hi))|((with_reducible refine gate_callee (f:=139) rfl ?_);refine goesL_ (some 75) rfl rfl Tryz.func139 (by kernel_rfl) rfl #[.pointer (some ⟨g,0,none⟩)] rfl (by (try simp only [List.map_toArray,List.map_cons,List.map_nil]);first|done|rfl|(simp only [List.length_drop,List.length_take];rfl)) ?_;(with_reducible refine (spec_reader_name.calls kj27 g s0_0 t320 t321 t322 t323 w0 _ ?side1 ?side2 A46.out).mono ?_);(case side1 => repeat (first|(with_reducible first|exact HI0.out|apply sA|apply sB|apply sC|apply sD|apply sE)|exact HI0.out));(case side2 => repeat (first|(with_reducible first|exact HB.out|apply bA|apply bB|apply bC|refine bD ?_ (IsS115.ge HI0.out))|exact HB.out));rintro e w48 ⟨rfl,hi,hb,hk⟩;refine ⟨_,rfl,?_⟩;have n0_:=Aside0.mk (KeepBut.trans (by repeat (first|(with_reducible first|exact HK.out|apply kA|apply kB|apply kC|apply kD)|exact HK.out)) hk (.inl rfl));have n1_:=Aside0.mk (hb);have n2_:=Aside0.mk (hi);clear HK;clear HB;clear HI0;have HK:=n0_;have HB:=n1_;have HI0:=n2_;clear n0_ n1_ n2_;(try clear hb);(try clear hb2);(try clear hk);(try clear hi)))
              go_ret
              exact ⟨by first|rfl|(simp [errW_none,errW_some] <;> rfl)|(simp [*,errW_none,errW_some] <;> rfl),by repeat (first|(with_reducible first|exact HI0.out|apply sA|apply sB|apply sC|apply sD|apply sE)|exact HI0.out),by repeat (first|(with_reducible first|exact HB.out|apply bA|apply bB|apply bC|refine bD ?_ (IsS115.ge HI0.out))|exact HB.out),by repeat (first|(with_reducible first|exact HK.out|apply kA|apply kB|apply kC|apply kD)|exact HK.out)⟩
             ·replace c45:=Bool.eq_false_iff.mpr c45
              subst c45
              have H1 : ((spec_reader_peek.f s0_0 t320 t321 0).bind fun bt324 => (if bt324.1 = 37 then (some ((⟨#[112,101,114,99,101,110,116,97,103,101]⟩ : ByteArray),wrap64 (bt324.2.1 + 1),bt324.2.2)) else (some ((⟨#[110,117,109,98,101,114]⟩ : ByteArray),bt324.2.1,bt324.2.2)))) = some (r1,r2,r3):=by rw [if_neg (show ¬ (false = true) by decide)] at H;exact H
              clear H
              have H:=H1
              clear H1
              replace H:=Option.bind_eq_some_iff.mp H
              obtain ⟨⟨t324,t325,t326⟩,A490,H⟩:=H
              replace H : (if t324 = 37 then (some ((⟨#[112,101,114,99,101,110,116,97,103,101]⟩ : ByteArray),wrap64 (t325 + 1),t326)) else (some ((⟨#[110,117,109,98,101,114]⟩ : ByteArray),t325,t326))) = some (r1,r2,r3):=H
              have A49:=Aside0.mk A490
              clear A490
              by_cases c50 : t324 = 37
              ·rw [if_pos c50] at H
               have c50b0 : (t324 == 37) = true:=beq_iff_eq.mpr c50
               have c50b1 : (t324 != 37) = false:=bne_eq_false_iff_eq.mpr c50
               clear c50
               simp only [Option.some.injEq,Prod.mk.injEq] at H
               obtain ⟨rfl,rfl,rfl⟩:=H
               go_wp2_with (first|((with_reducible refine gate_callee (f:=113) rfl ?_);refine goesL_ (some 73) rfl rfl Tryz.func113 (by kernel_rfl) rfl #[.pointer (some ⟨g,0,none⟩),.int .i64 0] rfl (by (try simp only [List.map_toArray,List.map_cons,List.map_nil]);first|done|rfl|(simp only [List.length_drop,List.length_take];rfl)) ?_;(with_reducible refine (spec_reader_identifies.calls kj27 g s0_0 x1001_27 x1002_27 0 false t320 t321 w0 _ ?side1 ?side2 A44.out).mono ?_);(case side1 => repeat (first|(with_reducible first|exact HI0.out|apply sA|apply sB|apply sC|apply sD|apply sE)|exact HI0.out));(case side2 => repeat (first|(with_reducible first|exact HB.out|apply bA|apply bB|apply bC|refine bD ?_ (IsS115.ge HI0.out))|exact HB.out));rintro e w51 ⟨rfl,hi,hb,hk⟩;refine ⟨_,rfl,?_⟩;have n0_:=Aside0.mk (KeepBut.trans (by repeat (first|(with_reducible first|exact HK.out|apply kA|apply kB|apply kC|apply kD)|exact HK.out)) hk (.inl rfl));have n1_:=Aside0.mk (hb);have n2_:=Aside0.mk (hi);clear HK;clear HB;clear HI0;have HK:=n0_;have HB:=n1_;have HI0:=n2_;clear n0_ n1_ n2_;(try clear hb);(try clear hb2);(try clear hk);(try clear hi))|((with_reducible refine gate_callee (f:=104) rfl ?_);refine goesL_ (some 78) rfl rfl Tryz.func104 (by kernel_rfl) rfl #[.pointer (some ⟨g,0,none⟩),.int .i64 0] rfl (by (try simp only [List.map_toArray,List.map_cons,List.map_nil]);first|done|rfl|(simp only [List.length_drop,List.length_take];rfl)) ?_;(with_reducible refine (spec_reader_peek.calls g s0_0 t320 t321 0 t324 t325 t326 w0 _ ?side1 ?side2 A49.out).mono ?_);(case side1 => repeat (first|(with_reducible first|exact HI0.out|apply sA|apply sB|apply sC|apply sD|apply sE)|exact HI0.out));(case side2 => repeat (first|(with_reducible first|exact HB.out|apply bA|apply bB|apply bC|refine bD ?_ (IsS115.ge HI0.out))|exact HB.out));rintro e w52 ⟨rfl,hi,hb,hk⟩;refine ⟨_,rfl,?_⟩;have n0_:=Aside0.mk (KeepBut.trans (by repeat (first|(with_reducible first|exact HK.out|apply kA|apply kB|apply kC|apply kD)|exact HK.out)) hk (.inl rfl));have n1_:=Aside0.mk (hb);have n2_:=Aside0.mk (hi);clear HK;clear HB;clear HI0;have HK:=n0_;have HB:=n1_;have HI0:=n2_;clear n0_ n1_ n2_;(try clear hb);(try clear hb2);(try clear hk);(try clear hi);obtain ⟨ASz53_0,cSz53_0,HGz53,hgz53,HSz53_0⟩:=HI0.out;have hcz53_0:=cellS115_0 HGz53;have hcz53_1:=cellS115_1 HGz53;have hcz53_2:=cellS115_2 HGz53;have hfz53_1:=blk_frozen HGz53 1;have hfz53_2:=blk_frozen HGz53 2;clear HGz53 hgz53))
               go_ret
               exact ⟨by first|rfl|(simp [errW_none,errW_some] <;> rfl)|(simp [*,errW_none,errW_some] <;> rfl),by repeat (first|(with_reducible first|exact HI0.out|apply sA|apply sB|apply sC|apply sD|apply sE)|exact HI0.out),by repeat (first|(with_reducible first|exact HB.out|apply bA|apply bB|apply bC|refine bD ?_ (IsS115.ge HI0.out))|exact HB.out),by repeat (first|(with_reducible first|exact HK.out|apply kA|apply kB|apply kC|apply kD)|exact HK.out)⟩
              ·rw [if_neg c50] at H
               have c50b0 : (t324 == 37) = false:=beq_eq_false_iff_ne.mpr c50
               have c50b1 : (t324 != 37) = true:=bne_iff_ne.mpr c50
               simp only [Option.some.injEq,Prod.mk.injEq] at H
               obtain ⟨rfl,rfl,rfl⟩:=H
               go_wp2_with (first|((with_reducible refine gate_callee (f:=113) rfl ?_);refine goesL_ (some 73) rfl rfl Tryz.func113 (by kernel_rfl) rfl #[.pointer (some ⟨g,0,none⟩),.int .i64 0] rfl (by (try simp only [List.map_toArray,List.map_cons,List.map_nil]);first|done|rfl|(simp only [List.length_drop,List.length_take];rfl)) ?_;(with_reducible refine (spec_reader_identifies.calls kj27 g s0_0 x1001_27 x1002_27 0 false t320 t321 w0 _ ?side1 ?side2 A44.out).mono ?_);(case side1 => repeat (first|(with_reducible first|exact HI0.out|apply sA|apply sB|apply sC|apply sD|apply sE)|exact HI0.out));(case side2 => repeat (first|(with_reducible first|exact HB.out|apply bA|apply bB|apply bC|refine bD ?_ (IsS115.ge HI0.out))|exact HB.out));rintro e w54 ⟨rfl,hi,hb,hk⟩;refine ⟨_,rfl,?_⟩;have n0_:=Aside0.mk (KeepBut.trans (by repeat (first|(with_reducible first|exact HK.out|apply kA|apply kB|apply kC|apply kD)|exact HK.out)) hk (.inl rfl));have n1_:=Aside0.mk (hb);have n2_:=Aside0.mk (hi);clear HK;clear HB;clear HI0;have HK:=n0_;have HB:=n1_;have HI0:=n2_;clear n0_ n1_ n2_;(try clear hb);(try clear hb2);(try clear hk);(try clear hi))|((with_reducible refine gate_callee (f:=104) rfl ?_);refine goesL_ (some 78) rfl rfl Tryz.func104 (by kernel_rfl) rfl #[.pointer (some ⟨g,0,none⟩),.int .i64 0] rfl (by (try simp only [List.map_toArray,List.map_cons,List.map_nil]);first|done|rfl|(simp only [List.length_drop,List.length_take];rfl)) ?_;(with_reducible refine (spec_reader_peek.calls g s0_0 t320 t321 0 t324 t325 t326 w0 _ ?side1 ?side2 A49.out).mono ?_);(case side1 => repeat (first|(with_reducible first|exact HI0.out|apply sA|apply sB|apply sC|apply sD|apply sE)|exact HI0.out));(case side2 => repeat (first|(with_reducible first|exact HB.out|apply bA|apply bB|apply bC|refine bD ?_ (IsS115.ge HI0.out))|exact HB.out));rintro e w55 ⟨rfl,hi,hb,hk⟩;refine ⟨_,rfl,?_⟩;have n0_:=Aside0.mk (KeepBut.trans (by repeat (first|(with_reducible first|exact HK.out|apply kA|apply kB|apply kC|apply kD)|exact HK.out)) hk (.inl rfl));have n1_:=Aside0.mk (hb);have n2_:=Aside0.mk (hi);clear HK;clear HB;clear HI0;have HK:=n0_;have HB:=n1_;have HI0:=n2_;clear n0_ n1_ n2_;(try clear hb);(try clear hb2);(try clear hk);(try clear hi)))
               go_ret
               exact ⟨by first|rfl|(simp [errW_none,errW_some] <;> rfl)|(simp [*,errW_none,errW_some] <;> rfl),by repeat (first|(with_reducible first|exact HI0.out|apply sA|apply sB|apply sC|apply sD|apply sE)|exact HI0.out),by repeat (first|(with_reducible first|exact HB.out|apply bA|apply bB|apply bC|refine bD ?_ (IsS115.ge HI0.out))|exact HB.out),by repeat (first|(with_reducible first|exact HK.out|apply kA|apply kB|apply kC|apply kD)|exact HK.out)⟩
end Go.Proofs.YtlglijnaeaonpaaGreatDoor.PFnStyle
end
