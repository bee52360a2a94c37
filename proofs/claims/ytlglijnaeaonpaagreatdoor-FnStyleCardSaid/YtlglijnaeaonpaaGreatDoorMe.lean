/- FnStyle: a part of the proof (Me); in it lines that print.sh printed, those that are used. -/
import Derived.Test.YtlglijnaeaonpaaGreatDoorMa
section
set_option maxHeartbeats 8000000
set_option maxRecDepth 100000
set_option linter.unusedVariables false
set_option linter.unusedSimpArgs false
namespace Go.Proofs.YtlglijnaeaonpaaGreatDoor.PFnStyle
open Go.RowKit Go.Proofs.YtlglijnaeaonpaaGreatDoorW.PrintWords Go.Proofs.YtlglijnaeaonpaaGreatDoorW.PrintLast Go.Proofs.YtlglijnaeaonpaaGreatDoorW.PrintMore
attribute [local go_sem] max2_int min2_int max_two min_two max_three min_three max_four min_four
mutual
def spec_reader_codes.j1 : Nat → Int → List Int → Int → Bool → Option (ByteArray × Int × Bool)
 | 0,_,_,_,_ => none
 | k + 1,x3,x1000,x1001,x1002 => spec_reader_codes.l1 k x3 false x1000 x1001 x1002
def spec_reader_codes.j3 : Nat → Bool → List Int → Int → Bool → Option (ByteArray × Int × Bool)
 | 0,_,_,_,_ => none
 | k + 1,x4,x1000,x1001,x1002 => (spec_reader_peek.f x1000 x1001 x1002 0).bind fun bt334 => ((spec_hexValue.f k bt334.1).bind fun t337 => (if t337 ≥ 0 then (spec_reader_codes.j4 k x4 true x1000 bt334.2.1 bt334.2.2) else ((spec_reader_peek.f x1000 bt334.2.1 bt334.2.2 0).bind fun bt338 => (if bt338.1 = 63 then (spec_reader_codes.j4 k x4 true x1000 bt338.2.1 bt338.2.2) else ((spec_reader_peek.f x1000 bt338.2.1 bt338.2.2 0).bind fun bt341 => (if bt341.1 = 45 then (if x4 = true then (spec_reader_codes.j4 k x4 true x1000 bt341.2.1 bt341.2.2) else ((spec_reader_peek.f x1000 bt341.2.1 bt341.2.2 1).bind fun bt344 => ((spec_hexValue.f k bt344.1).bind fun t347 => (spec_reader_codes.j4 k x4 (decide (t347 < 0)) x1000 bt344.2.1 bt344.2.2)))) else (spec_reader_codes.j4 k x4 false x1000 bt341.2.1 bt341.2.2)))))))
def spec_reader_codes.j4 : Nat → Bool → Bool → List Int → Int → Bool → Option (ByteArray × Int × Bool)
 | 0,_,_,_,_,_ => none
 | k + 1,x4,x68,x1000,x1001,x1002 => if x68 = true then (spec_reader_codes.j5 k x4 x1000 x1001 true) else (spec_reader_codes.j5 k x4 x1000 x1001 x1002)
def spec_reader_codes.j5 : Nat → Bool → List Int → Int → Bool → Option (ByteArray × Int × Bool)
 | 0,_,_,_,_ => none
 | k + 1,x4,x1000,x1001,x1002 => if x4 = true then (spec_reader_codes.j6 k false x1000 x1001 x1002) else ((spec_reader_peek.f x1000 x1001 x1002 0).bind fun bt348 => (if bt348.1 = 45 then ((spec_reader_peek.f x1000 bt348.2.1 bt348.2.2 1).bind fun bt351 => ((spec_hexValue.f k bt351.1).bind fun t354 => (spec_reader_codes.j6 k (decide (t354 ≥ 0)) x1000 bt351.2.1 bt351.2.2))) else (spec_reader_codes.j6 k false x1000 bt348.2.1 bt348.2.2)))
def spec_reader_codes.j6 : Nat → Bool → List Int → Int → Bool → Option (ByteArray × Int × Bool)
 | 0,_,_,_,_ => none
 | k + 1,x84,x1000,x1001,x1002 => if x84 = true then (spec_reader_codes.l2 k 0 x1000 (wrap64 (x1001 + 1)) x1002) else (some ((⟨#[114,97,110,103,101]⟩ : ByteArray),x1001,x1002))
def spec_reader_codes.j8 : Nat → List Int → Int → Bool → Option (ByteArray × Int × Bool)
 | 0,_,_,_ => none
 | k + 1,x1000,x1001,x1002 => (spec_reader_peek.f x1000 x1001 x1002 0).bind fun bt359 => ((spec_hexValue.f k bt359.1).bind fun t362 => (if t362 ≥ 0 then (some ((⟨#[114,97,110,103,101]⟩ : ByteArray),bt359.2.1,true)) else (some ((⟨#[114,97,110,103,101]⟩ : ByteArray),bt359.2.1,bt359.2.2))))
def spec_reader_codes.l2 : Nat → Int → List Int → Int → Bool → Option (ByteArray × Int × Bool)
 | 0,_,_,_,_ => none
 | k + 1,x5,x1000,x1001,x1002 => if x5 < 6 then ((spec_reader_peek.f x1000 x1001 x1002 0).bind fun bt355 => ((spec_hexValue.f k bt355.1).bind fun t358 => (if t358 ≥ 0 then (spec_reader_codes.l2 k (wrap64 (x5 + 1)) x1000 (wrap64 (bt355.2.1 + 1)) bt355.2.2) else (spec_reader_codes.j8 k x1000 bt355.2.1 bt355.2.2)))) else (spec_reader_codes.j8 k x1000 x1001 x1002)
def spec_reader_codes.l1 : Nat → Int → Bool → List Int → Int → Bool → Option (ByteArray × Int × Bool)
 | 0,_,_,_,_,_ => none
 | k + 1,x3,x4,x1000,x1001,x1002 => if x3 < 6 then ((spec_reader_peek.f x1000 x1001 x1002 0).bind fun bt331 => (if bt331.1 = 63 then (spec_reader_codes.l1 k (wrap64 (x3 + 1)) true x1000 (wrap64 (bt331.2.1 + 1)) bt331.2.2) else (spec_reader_codes.j3 k x4 x1000 bt331.2.1 bt331.2.2))) else (spec_reader_codes.j3 k x4 x1000 x1001 x1002)
def spec_reader_codes.l0 : Nat → Int → List Int → Int → Bool → Option (ByteArray × Int × Bool)
 | 0,_,_,_,_ => none
 | k + 1,x3,x1000,x1001,x1002 => if x3 < 6 then ((spec_reader_peek.f x1000 x1001 x1002 0).bind fun bt327 => ((spec_hexValue.f k bt327.1).bind fun t330 => (if t330 ≥ 0 then (spec_reader_codes.l0 k (wrap64 (x3 + 1)) x1000 (wrap64 (bt327.2.1 + 1)) bt327.2.2) else (spec_reader_codes.j1 k x3 x1000 bt327.2.1 bt327.2.2)))) else (spec_reader_codes.j1 k x3 x1000 x1001 x1002)
end
def spec_reader_codes.f (k : Nat) (s0_0 : List Int) (s0_1 : Int) (s0_2 : Bool) : Option (ByteArray × Int × Bool):=spec_reader_codes.l0 k 0 s0_0 (wrap64 (s0_1 + 2)) s0_2
theorem spec_reader_codes.calls (k : Nat) (g : Nat) (s0_0 : List Int) (s0_1 : Int) (s0_2 : Bool) (r1 : ByteArray) (r2 : Int) (r3 : Bool) (w0 w : World) (hI : IsS115 w0 w g s0_0 s0_1 s0_2) (hB : Below w0.heap.size w0 w) (h : spec_reader_codes.f k s0_0 s0_1 s0_2 = some (r1,r2,r3)) :
  Calls Tryz.prog 112 #[.pointer (some ⟨g,0,none⟩)] w fun e w' => e = .returned (.string r1) ∧ IsS115 w0 w' g s0_0 r2 r3 ∧ Below w0.heap.size w0 w' ∧ KeepBut w w' g none:=by
 have HI0:=Aside0.mk hI
 have HK:=Aside0.mk (KeepBut.refl w g none)
 have HL:=Aside0.mk hB.size
 clear hI
 have HW0:=Aside0.mk hB.size
 have HB:=Aside0.mk hB
 clear hB
 have H : (spec_reader_codes.l0 k 0 s0_0 (wrap64 (s0_1 + 2)) s0_2) = some (r1,r2,r3):=h
 clear h
 have HC2:=Aside0.mk H
 clear H
 obtain ⟨ASz3_0,cSz3_0,HGz3,hgz3,HSz3_0⟩:=HI0.out
 have hcz3_0:=cellS115_0 HGz3
 have hcz3_1:=cellS115_1 HGz3
 have hcz3_2:=cellS115_2 HGz3
 have hfz3_1:=blk_frozen HGz3 1
 have hfz3_2:=blk_frozen HGz3 2
 clear HGz3 hgz3
 go_enter Tryz.func112,Tryz.ntmps112
 go_upto_block 0 with (fail)
 go_cut [3] (fun v3 wc => ∃ (kq : Nat) (x3_1 : Int) (x1001_1 : Int) (x1002_1 : Bool),v3 = .int .i64 x3_1 ∧ Aside0 (spec_reader_codes.j1 kq x3_1 s0_0 x1001_1 x1002_1 = some (r1,r2,r3)) ∧ Aside0 (kq ≤ k) ∧ Aside0 (IsS115 w0 wc g s0_0 x1001_1 x1002_1) ∧ Aside0 (KeepBut w wc g none) ∧ Aside0 (Below w0.heap.size w0 wc))
 case first =>
  have H:=HC2.out
  clear HC2
  have H':=Aside0.mk H
  clear H
  go_wp2
  go_loopg [3] k (fun kq v3 w' => ∃ (x3_1 : Int) (x1001_1 : Int) (x1002_1 : Bool),v3 = .int .i64 x3_1 ∧ Aside0 (spec_reader_codes.l0 kq x3_1 s0_0 x1001_1 x1002_1 = some (r1,r2,r3)) ∧ Aside0 (kq ≤ k) ∧ Aside0 (IsS115 w0 w' g s0_0 x1001_1 x1002_1) ∧ Aside0 (KeepBut w w' g none) ∧ Aside0 (Below w0.heap.size w0 w'))
  case atStart => exact ⟨(0),(wrap64 (s0_1 + 2)),(s0_2),(by first|rfl|(simp;done)|(simp [*];done)),H',⟨Nat.le_refl _⟩,⟨by repeat (first|(with_reducible first|exact HI0.out|apply sA|apply sB|apply sC|apply sD|apply sE)|exact HI0.out)⟩,⟨by repeat (first|(with_reducible first|exact HK.out|apply kA|apply kB|apply kC|apply kD)|exact HK.out)⟩,⟨by repeat (first|(with_reducible first|exact HB.out|apply bA|apply bB|apply bC|refine bD ?_ (IsS115.ge HI0.out))|exact HB.out)⟩⟩
  case round =>
   clear H'
   try clear c1
   try clear p2
   try clear hcz3_0
   try clear hcz3_1
   try clear hcz3_2
   try clear hfz3_1
   try clear hfz3_2
   obtain ⟨x3_1,x1001_1,x1002_1,rfl,HA,HK1,HI0,HK,HB⟩:=hrel
   cases gk with
   | zero => exact absurd HA.out (by simp [spec_reader_codes.l0])
   | succ k1 =>
    have H:=HA.out
    clear HA
    simp only [spec_reader_codes.l0] at H
    by_cases c4 : x3_1 < 6
    ·rw [if_pos c4] at H
     have c4b0 : decide (x3_1 < 6) = true:=decide_eq_true c4
     clear c4
     (first|rw [c4b0]|(simp only [i64_w,i32_w];rw [c4b0])|skip)
     replace H:=Option.bind_eq_some_iff.mp H
     obtain ⟨⟨t327,t328,t329⟩,A50,H⟩:=H
     replace H : ((spec_hexValue.f k1 t327).bind fun t330 => (if t330 ≥ 0 then (spec_reader_codes.l0 k1 (wrap64 (x3_1 + 1)) s0_0 (wrap64 (t328 + 1)) t329) else (spec_reader_codes.j1 k1 x3_1 s0_0 t328 t329))) = some (r1,r2,r3):=H
     have A5:=Aside0.mk A50
     clear A50
     replace H:=Option.bind_eq_some_iff.mp H
     obtain ⟨t330,A60,H⟩:=H
     replace H : (if t330 ≥ 0 then (spec_reader_codes.l0 k1 (wrap64 (x3_1 + 1)) s0_0 (wrap64 (t328 + 1)) t329) else (spec_reader_codes.j1 k1 x3_1 s0_0 t328 t329)) = some (r1,r2,r3):=H
     have A6:=Aside0.mk A60
     clear A60
     by_cases c7 : t330 ≥ 0
     ·rw [if_pos c7] at H
      have c7b0 : decide (0 ≤ t330) = true:=decide_eq_true c7
      clear c7
      have H':=Aside0.mk H
      clear H
      go_wp2_with (first|(go_at_call 104;(with_reducible refine (spec_reader_peek.calls g s0_0 x1001_1 x1002_1 0 t327 t328 t329 w0 _ ?side1 ?side2 A5.out).mono ?_);(case side1 => repeat (first|(with_reducible first|exact HI0.out|apply sA|apply sB|apply sC|apply sD|apply sE)|exact HI0.out));(case side2 => repeat (first|(with_reducible first|exact HB.out|apply bA|apply bB|apply bC|refine bD ?_ (IsS115.ge HI0.out))|exact HB.out));rintro e w8 ⟨rfl,hi,hb,hk⟩;have n0_:=Aside0.mk (KeepBut.trans (by repeat (first|(with_reducible first|exact HK.out|apply kA|apply kB|apply kC|apply kD)|exact HK.out)) hk (.inl rfl));have n1_:=Aside0.mk (hb);have n2_:=Aside0.mk (hi);clear HK;clear HB;clear HI0;have HK:=n0_;have HB:=n1_;have HI0:=n2_;clear n0_ n1_ n2_;(try clear hb);(try clear hb2);(try clear hk);(try clear hi))|(go_at_call 111;(with_reducible refine (spec_hexValue.calls k1 t327 t330 _ A6.out).mono ?_);rintro e w' ⟨rfl,⟨nd,rfl⟩⟩;(try (rw [drewN_self w8];generalize hq_ : World.drewN w8 _ = w8;have n0_ : Aside0 (IsS115 w0 w8 g s0_0 t328 t329):=⟨by rw [← hq_];exact (by repeat (first|(with_reducible first|exact HI0.out|apply sA|apply sB|apply sC|apply sD|apply sE)|exact HI0.out))⟩;have n1_ : Aside0 (KeepBut w w8 g none):=⟨by rw [← hq_];exact (by repeat (first|(with_reducible first|exact HK.out|apply kA|apply kB|apply kC|apply kD)|exact HK.out))⟩;have n2_ : Aside0 (Below w0.heap.size w0 w8):=⟨by rw [← hq_];exact (by repeat (first|(with_reducible first|exact HB.out|apply bA|apply bB|apply bC|refine bD ?_ (IsS115.ge HI0.out))|exact HB.out))⟩;clear HI0 HK HB hq_;have HI0:=n0_;have HK:=n1_;have HB:=n2_;clear n0_ n1_ n2_));obtain ⟨ASz9_0,cSz9_0,HGz9,hgz9,HSz9_0⟩:=HI0.out;have hcz9_0:=cellS115_0 HGz9;have hcz9_1:=cellS115_1 HGz9;have hcz9_2:=cellS115_2 HGz9;have hfz9_1:=blk_frozen HGz9 1;have hfz9_2:=blk_frozen HGz9 2;clear HGz9 hgz9))
      go_roundg k1
      case measure => have:=HK1.out;omega
      case rel => exact ⟨(wrap64 (x3_1 + 1)),(wrap64 (t328 + 1)),(t329),(by first|rfl|(simp;done)|(simp [*];done)),H',⟨by have:=HK1.out;omega⟩,⟨by repeat (first|(with_reducible first|exact HI0.out|apply sA|apply sB|apply sC|apply sD|apply sE)|exact HI0.out)⟩,⟨by repeat (first|(with_reducible first|exact HK.out|apply kA|apply kB|apply kC|apply kD)|exact HK.out)⟩,⟨by repeat (first|(with_reducible first|exact HB.out|apply bA|apply bB|apply bC|refine bD ?_ (IsS115.ge HI0.out))|exact HB.out)⟩⟩
     ·rw [if_neg c7] at H
      have c7b0 : decide (0 ≤ t330) = false:=decide_eq_false c7
      clear c7
      have H':=Aside0.mk H
      clear H
      go_wp2_with (first|(go_at_call 104;(with_reducible refine (spec_reader_peek.calls g s0_0 x1001_1 x1002_1 0 t327 t328 t329 w0 _ ?side1 ?side2 A5.out).mono ?_);(case side1 => repeat (first|(with_reducible first|exact HI0.out|apply sA|apply sB|apply sC|apply sD|apply sE)|exact HI0.out));(case side2 => repeat (first|(with_reducible first|exact HB.out|apply bA|apply bB|apply bC|refine bD ?_ (IsS115.ge HI0.out))|exact HB.out));rintro e w10 ⟨rfl,hi,hb,hk⟩;have n0_:=Aside0.mk (KeepBut.trans (by repeat (first|(with_reducible first|exact HK.out|apply kA|apply kB|apply kC|apply kD)|exact HK.out)) hk (.inl rfl));have n1_:=Aside0.mk (hb);have n2_:=Aside0.mk (hi);clear HK;clear HB;clear HI0;have HK:=n0_;have HB:=n1_;have HI0:=n2_;clear n0_ n1_ n2_;(try clear hb);(try clear hb2);(try clear hk);(try clear hi))|(go_at_call 111;(with_reducible refine (spec_hexValue.calls k1 t327 t330 _ A6.out).mono ?_);rintro e w' ⟨rfl,⟨nd,rfl⟩⟩))
      go_meet
      case rel => exact ⟨_,(x3_1),(t328),(t329),(by first|rfl|(simp;done)|(simp [*];done)),H',⟨by have:=HK1.out;first|omega|exact Nat.le_refl _⟩,⟨by repeat (first|(with_reducible first|exact HI0.out|apply sA|apply sB|apply sC|apply sD|apply sE)|exact HI0.out)⟩,⟨by repeat (first|(with_reducible first|exact HK.out|apply kA|apply kB|apply kC|apply kD)|exact HK.out)⟩,⟨by repeat (first|(with_reducible first|exact HB.out|apply bA|apply bB|apply bC|refine bD ?_ (IsS115.ge HI0.out))|exact HB.out)⟩⟩
    ·rw [if_neg c4] at H
     have c4b0 : decide (x3_1 < 6) = false:=decide_eq_false c4
     clear c4
     (first|rw [c4b0]|(simp only [i64_w,i32_w];rw [c4b0])|skip)
     have H':=Aside0.mk H
     clear H
     go_wp2
     go_meet
     case rel => exact ⟨_,(x3_1),(x1001_1),(x1002_1),(by first|rfl|(simp;done)|(simp [*];done)),H',⟨by have:=HK1.out;first|omega|exact Nat.le_refl _⟩,⟨by repeat (first|(with_reducible first|exact HI0.out|apply sA|apply sB|apply sC|apply sD|apply sE)|exact HI0.out)⟩,⟨by repeat (first|(with_reducible first|exact HK.out|apply kA|apply kB|apply kC|apply kD)|exact HK.out)⟩,⟨by repeat (first|(with_reducible first|exact HB.out|apply bA|apply bB|apply bC|refine bD ?_ (IsS115.ge HI0.out))|exact HB.out)⟩⟩
 case rest =>
  clear HC2
  try clear c1
  try clear p2
  try clear c4
  try clear c4b0
  try clear p6
  try clear c7
  try clear c7b0
  try clear hcz3_0
  try clear hcz3_1
  try clear hcz3_2
  try clear hcz9_0
  try clear hcz9_1
  try clear hcz9_2
  try clear hfz3_1
  try clear hfz3_2
  try clear hfz9_1
  try clear hfz9_2
  try clear p2
  obtain ⟨kq,x3_1,x1001_1,x1002_1,rfl,HA,HJ1,HI0,HK,HB⟩:=hcut
  cases kq with
  | zero => exact absurd HA.out (by simp [spec_reader_codes.j1])
  | succ kj1 =>
   have H:=HA.out
   clear HA
   simp only [spec_reader_codes.j1] at H
   have HC11:=Aside0.mk H
   clear H
   go_upto_block 2 with (fail)
   go_cut [4] (fun v4 wc => ∃ (kq : Nat) (x4_10 : Bool) (x1001_10 : Int) (x1002_10 : Bool),v4 = .bool x4_10 ∧ Aside0 (spec_reader_codes.j3 kq x4_10 s0_0 x1001_10 x1002_10 = some (r1,r2,r3)) ∧ Aside0 (kq ≤ kj1) ∧ Aside0 (IsS115 w0 wc g s0_0 x1001_10 x1002_10) ∧ Aside0 (KeepBut w wc g none) ∧ Aside0 (Below w0.heap.size w0 wc))
   case first =>
    have H:=HC11.out
    clear HC11
    have H':=Aside0.mk H
    clear H
    go_wp2
    go_loopg [3,4] kj1 (fun kq v3 v4 w' => ∃ (x3_2 : Int) (x4_2 : Bool) (x1001_2 : Int) (x1002_2 : Bool),v3 = .int .i64 x3_2 ∧ v4 = .bool x4_2 ∧ Aside0 (spec_reader_codes.l1 kq x3_2 x4_2 s0_0 x1001_2 x1002_2 = some (r1,r2,r3)) ∧ Aside0 (kq ≤ kj1) ∧ Aside0 (IsS115 w0 w' g s0_0 x1001_2 x1002_2) ∧ Aside0 (KeepBut w w' g none) ∧ Aside0 (Below w0.heap.size w0 w'))
    case atStart => exact ⟨(x3_1),(false),(x1001_1),(x1002_1),(by first|rfl|(simp;done)|(simp [*];done)),(by first|rfl|(simp;done)|(simp [*];done)),H',⟨Nat.le_refl _⟩,⟨by repeat (first|(with_reducible first|exact HI0.out|apply sA|apply sB|apply sC|apply sD|apply sE)|exact HI0.out)⟩,⟨by repeat (first|(with_reducible first|exact HK.out|apply kA|apply kB|apply kC|apply kD)|exact HK.out)⟩,⟨by repeat (first|(with_reducible first|exact HB.out|apply bA|apply bB|apply bC|refine bD ?_ (IsS115.ge HI0.out))|exact HB.out)⟩⟩
    case round =>
     clear H'
     try clear c1
     try clear p2
     try clear c4
     try clear c4b0
     try clear p6
     try clear c7
     try clear c7b0
     try clear c11
     try clear hcz3_0
     try clear hcz3_1
     try clear hcz3_2
     try clear hcz9_0
     try clear hcz9_1
     try clear hcz9_2
     try clear hfz3_1
     try clear hfz3_2
     try clear hfz9_1
     try clear hfz9_2
     try clear p2
     try clear p6
     obtain ⟨x3_2,x4_2,x1001_2,x1002_2,rfl,rfl,HA,HK2,HI0,HK,HB⟩:=hrel
     cases gk with
     | zero => exact absurd HA.out (by simp [spec_reader_codes.l1])
     | succ k2 =>
      have H:=HA.out
      clear HA
      simp only [spec_reader_codes.l1] at H
      by_cases c12 : x3_2 < 6
      ·rw [if_pos c12] at H
       have c12b0 : decide (x3_2 < 6) = true:=decide_eq_true c12
       clear c12
       (first|rw [c12b0]|(simp only [i64_w,i32_w];rw [c12b0])|skip)
       replace H:=Option.bind_eq_some_iff.mp H
       obtain ⟨⟨t331,t332,t333⟩,A130,H⟩:=H
       replace H : (if t331 = 63 then (spec_reader_codes.l1 k2 (wrap64 (x3_2 + 1)) true s0_0 (wrap64 (t332 + 1)) t333) else (spec_reader_codes.j3 k2 x4_2 s0_0 t332 t333)) = some (r1,r2,r3):=H
       have A13:=Aside0.mk A130
       clear A130
       by_cases c14 : t331 = 63
       ·rw [if_pos c14] at H
        have c14b0 : (t331 == 63) = true:=beq_iff_eq.mpr c14
        have c14b1 : (t331 != 63) = false:=bne_eq_false_iff_eq.mpr c14
        clear c14
        have H':=Aside0.mk H
        clear H
        go_wp2_with (first|(go_at_call 104;(with_reducible refine (spec_reader_peek.calls g s0_0 x1001_2 x1002_2 0 t331 t332 t333 w0 _ ?side1 ?side2 A13.out).mono ?_);(case side1 => repeat (first|(with_reducible first|exact HI0.out|apply sA|apply sB|apply sC|apply sD|apply sE)|exact HI0.out));(case side2 => repeat (first|(with_reducible first|exact HB.out|apply bA|apply bB|apply bC|refine bD ?_ (IsS115.ge HI0.out))|exact HB.out));rintro e w15 ⟨rfl,hi,hb,hk⟩;have n0_:=Aside0.mk (KeepBut.trans (by repeat (first|(with_reducible first|exact HK.out|apply kA|apply kB|apply kC|apply kD)|exact HK.out)) hk (.inl rfl));have n1_:=Aside0.mk (hb);have n2_:=Aside0.mk (hi);clear HK;clear HB;clear HI0;have HK:=n0_;have HB:=n1_;have HI0:=n2_;clear n0_ n1_ n2_;(try clear hb);(try clear hb2);(try clear hk);(try clear hi);obtain ⟨ASz16_0,cSz16_0,HGz16,hgz16,HSz16_0⟩:=HI0.out;have hcz16_0:=cellS115_0 HGz16;have hcz16_1:=cellS115_1 HGz16;have hcz16_2:=cellS115_2 HGz16;have hfz16_1:=blk_frozen HGz16 1;have hfz16_2:=blk_frozen HGz16 2;clear HGz16 hgz16))
        go_roundg k2
        case measure => have:=HJ1.out;have:=HK2.out;omega
        case rel => exact ⟨(wrap64 (x3_2 + 1)),(true),(wrap64 (t332 + 1)),(t333),(by first|rfl|(simp;done)|(simp [*];done)),(by first|rfl|(simp;done)|(simp [*];done)),H',⟨by have:=HJ1.out;have:=HK2.out;omega⟩,⟨by repeat (first|(with_reducible first|exact HI0.out|apply sA|apply sB|apply sC|apply sD|apply sE)|exact HI0.out)⟩,⟨by repeat (first|(with_reducible first|exact HK.out|apply kA|apply kB|apply kC|apply kD)|exact HK.out)⟩,⟨by repeat (first|(with_reducible first|exact HB.out|apply bA|apply bB|apply bC|refine bD ?_ (IsS115.ge HI0.out))|exact HB.out)⟩⟩
       ·rw [if_neg c14] at H
        have c14b0 : (t331 == 63) = false:=beq_eq_false_iff_ne.mpr c14
        have c14b1 : (t331 != 63) = true:=bne_iff_ne.mpr c14
        have H':=Aside0.mk H
        clear H
        go_wp2_with (first|(go_at_call 104;(with_reducible refine (spec_reader_peek.calls g s0_0 x1001_2 x1002_2 0 t331 t332 t333 w0 _ ?side1 ?side2 A13.out).mono ?_);(case side1 => repeat (first|(with_reducible first|exact HI0.out|apply sA|apply sB|apply sC|apply sD|apply sE)|exact HI0.out));(case side2 => repeat (first|(with_reducible first|exact HB.out|apply bA|apply bB|apply bC|refine bD ?_ (IsS115.ge HI0.out))|exact HB.out));rintro e w17 ⟨rfl,hi,hb,hk⟩;have n0_:=Aside0.mk (KeepBut.trans (by repeat (first|(with_reducible first|exact HK.out|apply kA|apply kB|apply kC|apply kD)|exact HK.out)) hk (.inl rfl));have n1_:=Aside0.mk (hb);have n2_:=Aside0.mk (hi);clear HK;clear HB;clear HI0;have HK:=n0_;have HB:=n1_;have HI0:=n2_;clear n0_ n1_ n2_;(try clear hb);(try clear hb2);(try clear hk);(try clear hi)))
        go_meet
        case rel => exact ⟨_,(x4_2),(t332),(t333),(by first|rfl|(simp;done)|(simp [*];done)),H',⟨by have:=HJ1.out;have:=HK2.out;first|omega|exact Nat.le_refl _⟩,⟨by repeat (first|(with_reducible first|exact HI0.out|apply sA|apply sB|apply sC|apply sD|apply sE)|exact HI0.out)⟩,⟨by repeat (first|(with_reducible first|exact HK.out|apply kA|apply kB|apply kC|apply kD)|exact HK.out)⟩,⟨by repeat (first|(with_reducible first|exact HB.out|apply bA|apply bB|apply bC|refine bD ?_ (IsS115.ge HI0.out))|exact HB.out)⟩⟩
      ·rw [if_neg c12] at H
       have c12b0 : decide (x3_2 < 6) = false:=decide_eq_false c12
       clear c12
       (first|rw [c12b0]|(simp only [i64_w,i32_w];rw [c12b0])|skip)
       have H':=Aside0.mk H
       clear H
       go_wp2
       go_meet
       case rel => exact ⟨_,(x4_2),(x1001_2),(x1002_2),(by first|rfl|(simp;done)|(simp [*];done)),H',⟨by have:=HJ1.out;have:=HK2.out;first|omega|exact Nat.le_refl _⟩,⟨by repeat (first|(with_reducible first|exact HI0.out|apply sA|apply sB|apply sC|apply sD|apply sE)|exact HI0.out)⟩,⟨by repeat (first|(with_reducible first|exact HK.out|apply kA|apply kB|apply kC|apply kD)|exact HK.out)⟩,⟨by repeat (first|(with_reducible first|exact HB.out|apply bA|apply bB|apply bC|refine bD ?_ (IsS115.ge HI0.out))|exact HB.out)⟩⟩
   case rest =>
    clear HC11
    try clear c1
    try clear p2
    try clear c4
    try clear c4b0
    try clear p6
    try clear c7
    try clear c7b0
    try clear c11
    try clear c12
    try clear c12b0
    try clear c14
    try clear c14b0
    try clear c14b1
    try clear hcz16_0
    try clear hcz16_1
    try clear hcz16_2
    try clear hcz3_0
    try clear hcz3_1
    try clear hcz3_2
    try clear hcz9_0
    try clear hcz9_1
    try clear hcz9_2
    try clear hfz16_1
    try clear hfz16_2
    try clear hfz3_1
    try clear hfz3_2
    try clear hfz9_1
    try clear hfz9_2
    try clear p2
    try clear p6
    obtain ⟨kq,x4_10,x1001_10,x1002_10,rfl,HA,HJ10,HI0,HK,HB⟩:=hcut
    cases kq with
    | zero => exact absurd HA.out (by simp [spec_reader_codes.j3])
    | succ kj10 =>
     have H:=HA.out
     clear HA
     simp only [spec_reader_codes.j3] at H
     have HC18:=Aside0.mk H
     clear H
     go_upto_region 11 with (fail)
     go_cut [68] (fun v68 wc => ∃ (kq : Nat) (x68_17 : Bool) (x1001_17 : Int) (x1002_17 : Bool),v68 = .bool x68_17 ∧ Aside0 (spec_reader_codes.j4 kq x4_10 x68_17 s0_0 x1001_17 x1002_17 = some (r1,r2,r3)) ∧ Aside0 (kq ≤ kj10) ∧ Aside0 (IsS115 w0 wc g s0_0 x1001_17 x1002_17) ∧ Aside0 (KeepBut w wc g none) ∧ Aside0 (Below w0.heap.size w0 wc))
     case first =>
      have H:=HC18.out
      clear HC18
      replace H:=Option.bind_eq_some_iff.mp H
      obtain ⟨⟨t334,t335,t336⟩,A190,H⟩:=H
      replace H : ((spec_hexValue.f kj10 t334).bind fun t337 => (if t337 ≥ 0 then (spec_reader_codes.j4 kj10 x4_10 true s0_0 t335 t336) else ((spec_reader_peek.f s0_0 t335 t336 0).bind fun bt338 => (if bt338.1 = 63 then (spec_reader_codes.j4 kj10 x4_10 true s0_0 bt338.2.1 bt338.2.2) else ((spec_reader_peek.f s0_0 bt338.2.1 bt338.2.2 0).bind fun bt341 => (if bt341.1 = 45 then (if x4_10 = true then (spec_reader_codes.j4 kj10 x4_10 true s0_0 bt341.2.1 bt341.2.2) else ((spec_reader_peek.f s0_0 bt341.2.1 bt341.2.2 1).bind fun bt344 => ((spec_hexValue.f kj10 bt344.1).bind fun t347 => (spec_reader_codes.j4 kj10 x4_10 (decide (t347 < 0)) s0_0 bt344.2.1 bt344.2.2)))) else (spec_reader_codes.j4 kj10 x4_10 false s0_0 bt341.2.1 bt341.2.2))))))) = some (r1,r2,r3):=H
      have A19:=Aside0.mk A190
      clear A190
      replace H:=Option.bind_eq_some_iff.mp H
      obtain ⟨t337,A200,H⟩:=H
      replace H : (if t337 ≥ 0 then (spec_reader_codes.j4 kj10 x4_10 true s0_0 t335 t336) else ((spec_reader_peek.f s0_0 t335 t336 0).bind fun bt338 => (if bt338.1 = 63 then (spec_reader_codes.j4 kj10 x4_10 true s0_0 bt338.2.1 bt338.2.2) else ((spec_reader_peek.f s0_0 bt338.2.1 bt338.2.2 0).bind fun bt341 => (if bt341.1 = 45 then (if x4_10 = true then (spec_reader_codes.j4 kj10 x4_10 true s0_0 bt341.2.1 bt341.2.2) else ((spec_reader_peek.f s0_0 bt341.2.1 bt341.2.2 1).bind fun bt344 => ((spec_hexValue.f kj10 bt344.1).bind fun t347 => (spec_reader_codes.j4 kj10 x4_10 (decide (t347 < 0)) s0_0 bt344.2.1 bt344.2.2)))) else (spec_reader_codes.j4 kj10 x4_10 false s0_0 bt341.2.1 bt341.2.2)))))) = some (r1,r2,r3):=H
      have A20:=Aside0.mk A200
      clear A200
      by_cases c21 : t337 ≥ 0
      ·rw [if_pos c21] at H
       have c21b0 : decide (0 ≤ t337) = true:=decide_eq_true c21
       clear c21
       (first|rw [c21b0]|(simp only [i64_w,i32_w];rw [c21b0])|skip)
       have H':=Aside0.mk H
       clear H
       go_wp2_with (first|((with_reducible refine gate_callee (f:=104) rfl ?_);refine goesL_ (some 47) rfl rfl Tryz.func104 (by kernel_rfl) rfl #[.pointer (some ⟨g,0,none⟩),.int .i64 0] rfl (by (try simp only [List.map_toArray,List.map_cons,List.map_nil]);first|done|rfl|(simp only [List.length_drop,List.length_take];rfl)) ?_;(with_reducible refine (spec_reader_peek.calls g s0_0 x1001_10 x1002_10 0 t334 t335 t336 w0 _ ?side1 ?side2 A19.out).mono ?_);(case side1 => repeat (first|(with_reducible first|exact HI0.out|apply sA|apply sB|apply sC|apply sD|apply sE)|exact HI0.out));(case side2 => repeat (first|(with_reducible first|exact HB.out|apply bA|apply bB|apply bC|refine bD ?_ (IsS115.ge HI0.out))|exact HB.out));rintro e w22 ⟨rfl,hi,hb,hk⟩;refine ⟨_,rfl,?_⟩;have n0_:=Aside0.mk (KeepBut.trans (by repeat (first|(with_reducible first|exact HK.out|apply kA|apply kB|apply kC|apply kD)|exact HK.out)) hk (.inl rfl));have n1_:=Aside0.mk (hb);have n2_:=Aside0.mk (hi);clear HK;clear HB;clear HI0;have HK:=n0_;have HB:=n1_;have HI0:=n2_;clear n0_ n1_ n2_;(try clear hb);(try clear hb2);(try clear hk);(try clear hi))|((with_reducible refine gate_callee (f:=111) rfl ?_);refine goesL_ (some 48) rfl rfl Tryz.func111 (by kernel_rfl) rfl #[.int .u8 t334] rfl (by (try simp only [List.map_toArray,List.map_cons,List.map_nil]);first|done|rfl|(simp only [List.length_drop,List.length_take];rfl)) ?_;(with_reducible refine (spec_hexValue.calls kj10 t334 t337 _ A20.out).mono ?_);rintro e w' ⟨rfl,⟨nd,rfl⟩⟩;refine ⟨_,rfl,?_⟩))
       go_meet
       case rel => exact ⟨_,(true),(t335),(t336),(by first|rfl|(simp;done)|(simp [*];done)),H',⟨by have:=HJ1.out;have:=HJ10.out;first|omega|exact Nat.le_refl _⟩,⟨by repeat (first|(with_reducible first|exact HI0.out|apply sA|apply sB|apply sC|apply sD|apply sE)|exact HI0.out)⟩,⟨by repeat (first|(with_reducible first|exact HK.out|apply kA|apply kB|apply kC|apply kD)|exact HK.out)⟩,⟨by repeat (first|(with_reducible first|exact HB.out|apply bA|apply bB|apply bC|refine bD ?_ (IsS115.ge HI0.out))|exact HB.out)⟩⟩
      ·rw [if_neg c21] at H
       have c21b0 : decide (0 ≤ t337) = false:=decide_eq_false c21
       clear c21
       (first|rw [c21b0]|(simp only [i64_w,i32_w];rw [c21b0])|skip)
       replace H:=Option.bind_eq_some_iff.mp H
       obtain ⟨⟨t338,t339,t340⟩,A230,H⟩:=H
       replace H : (if t338 = 63 then (spec_reader_codes.j4 kj10 x4_10 true s0_0 t339 t340) else ((spec_reader_peek.f s0_0 t339 t340 0).bind fun bt341 => (if bt341.1 = 45 then (if x4_10 = true then (spec_reader_codes.j4 kj10 x4_10 true s0_0 bt341.2.1 bt341.2.2) else ((spec_reader_peek.f s0_0 bt341.2.1 bt341.2.2 1).bind fun bt344 => ((spec_hexValue.f kj10 bt344.1).bind fun t347 => (spec_reader_codes.j4 kj10 x4_10 (decide (t347 < 0)) s0_0 bt344.2.1 bt344.2.2)))) else (spec_reader_codes.j4 kj10 x4_10 false s0_0 bt341.2.1 bt341.2.2)))) = some (r1,r2,r3):=H
       have A23:=Aside0.mk A230
       clear A230
       by_cases c24 : t338 = 63
       ·rw [if_pos c24] at H
        have c24b0 : (t338 == 63) = true:=beq_iff_eq.mpr c24
        have c24b1 : (t338 != 63) = false:=bne_eq_false_iff_eq.mpr c24
        clear c24
        have H':=Aside0.mk H
        clear H
        go_wp2_with (first|((with_reducible refine gate_callee (f:=104) rfl ?_);refine goesL_ (some 47) rfl rfl Tryz.func104 (by kernel_rfl) rfl #[.pointer (some ⟨g,0,none⟩),.int .i64 0] rfl (by (try simp only [List.map_toArray,List.map_cons,List.map_nil]);first|done|rfl|(simp only [List.length_drop,List.length_take];rfl)) ?_;(with_reducible refine (spec_reader_peek.calls g s0_0 x1001_10 x1002_10 0 t334 t335 t336 w0 _ ?side1 ?side2 A19.out).mono ?_);(case side1 => repeat (first|(with_reducible first|exact HI0.out|apply sA|apply sB|apply sC|apply sD|apply sE)|exact HI0.out));(case side2 => repeat (first|(with_reducible first|exact HB.out|apply bA|apply bB|apply bC|refine bD ?_ (IsS115.ge HI0.out))|exact HB.out));rintro e w25 ⟨rfl,hi,hb,hk⟩;refine ⟨_,rfl,?_⟩;have n0_:=Aside0.mk (KeepBut.trans (by repeat (first|(with_reducible first|exact HK.out|apply kA|apply kB|apply kC|apply kD)|exact HK.out)) hk (.inl rfl));have n1_:=Aside0.mk (hb);have n2_:=Aside0.mk (hi);clear HK;clear HB;clear HI0;have HK:=n0_;have HB:=n1_;have HI0:=n2_;clear n0_ n1_ n2_;(try clear hb);(try clear hb2);(try clear hk);(try clear hi))|((with_reducible refine gate_callee (f:=111) rfl ?_);refine goesL_ (some 48) rfl rfl Tryz.func111 (by kernel_rfl) rfl #[.int .u8 t334] rfl (by (try simp only [List.map_toArray,List.map_cons,List.map_nil]);first|done|rfl|(simp only [List.length_drop,List.length_take];rfl)) ?_;(with_reducible refine (spec_hexValue.calls kj10 t334 t337 _ A20.out).mono ?_);rintro e w' ⟨rfl,⟨nd,rfl⟩⟩;refine ⟨_,rfl,?_⟩)|(go_at_call 104;(with_reducible refine (spec_reader_peek.calls g s0_0 t335 t336 0 t338 t339 t340 w0 _ ?side1 ?side2 A23.out).mono ?_);(case side1 => repeat (first|(with_reducible first|exact HI0.out|apply sA|apply sB|apply sC|apply sD|apply sE)|exact HI0.out));(case side2 => repeat (first|(with_reducible first|exact HB.out|apply bA|apply bB|apply bC|refine bD ?_ (IsS115.ge HI0.out))|exact HB.out));rintro e w26 ⟨rfl,hi,hb,hk⟩;have n0_:=Aside0.mk (KeepBut.trans (by repeat (first|(with_reducible first|exact HK.out|apply kA|apply kB|apply kC|apply kD)|exact HK.out)) hk (.inl rfl));have n1_:=Aside0.mk (hb);have n2_:=Aside0.mk (hi);clear HK;clear HB;clear HI0;have HK:=n0_;have HB:=n1_;have HI0:=n2_;clear n0_ n1_ n2_;(try clear hb);(try clear hb2);(try clear hk);(try clear hi)))
        go_meet
        case rel => exact ⟨_,(true),(t339),(t340),(by first|rfl|(simp;done)|(simp [*];done)),H',⟨by have:=HJ1.out;have:=HJ10.out;first|omega|exact Nat.le_refl _⟩,⟨by repeat (first|(with_reducible first|exact HI0.out|apply sA|apply sB|apply sC|apply sD|apply sE)|exact HI0.out)⟩,⟨by repeat (first|(with_reducible first|exact HK.out|apply kA|apply kB|apply kC|apply kD)|exact HK.out)⟩,⟨by repeat (first|(with_reducible first|exact HB.out|apply bA|apply bB|apply bC|refine bD ?_ (IsS115.ge HI0.out))|exact HB.out)⟩⟩
       ·rw [if_neg c24] at H
        have c24b0 : (t338 == 63) = false:=beq_eq_false_iff_ne.mpr c24
        have c24b1 : (t338 != 63) = true:=bne_iff_ne.mpr c24
        replace H:=Option.bind_eq_some_iff.mp H
        obtain ⟨⟨t341,t342,t343⟩,A270,H⟩:=H
        replace H : (if t341 = 45 then (if x4_10 = true then (spec_reader_codes.j4 kj10 x4_10 true s0_0 t342 t343) else ((spec_reader_peek.f s0_0 t342 t343 1).bind fun bt344 => ((spec_hexValue.f kj10 bt344.1).bind fun t347 => (spec_reader_codes.j4 kj10 x4_10 (decide (t347 < 0)) s0_0 bt344.2.1 bt344.2.2)))) else (spec_reader_codes.j4 kj10 x4_10 false s0_0 t342 t343)) = some (r1,r2,r3):=H
        have A27:=Aside0.mk A270
        clear A270
        by_cases c28 : t341 = 45
        ·rw [if_pos c28] at H
         have c28b0 : (t341 == 45) = true:=beq_iff_eq.mpr c28
         have c28b1 : (t341 != 45) = false:=bne_eq_false_iff_eq.mpr c28
         clear c28
         by_cases c29 : x4_10 = true
         ·subst c29
          have H1 : (spec_reader_codes.j4 kj10 true true s0_0 t342 t343) = some (r1,r2,r3):=by rw [if_pos rfl] at H;exact H
          clear H
          have H:=H1
          clear H1
          have H':=Aside0.mk H
          clear H
          go_wp2_with (first|((with_reducible refine gate_callee (f:=104) rfl ?_);refine goesL_ (some 47) rfl rfl Tryz.func104 (by kernel_rfl) rfl #[.pointer (some ⟨g,0,none⟩),.int .i64 0] rfl (by (try simp only [List.map_toArray,List.map_cons,List.map_nil]);first|done|rfl|(simp only [List.length_drop,List.length_take];rfl)) ?_;(with_reducible refine (spec_reader_peek.calls g s0_0 x1001_10 x1002_10 0 t334 t335 t336 w0 _ ?side1 ?side2 A19.out).mono ?_);(case side1 => repeat (first|(with_reducible first|exact HI0.out|apply sA|apply sB|apply sC|apply sD|apply sE)|exact HI0.out));(case side2 => repeat (first|(with_reducible first|exact HB.out|apply bA|apply bB|apply bC|refine bD ?_ (IsS115.ge HI0.out))|exact HB.out));rintro e w30 ⟨rfl,hi,hb,hk⟩;refine ⟨_,rfl,?_⟩;have n0_:=Aside0.mk (KeepBut.trans (by repeat (first|(with_reducible first|exact HK.out|apply kA|apply kB|apply kC|apply kD)|exact HK.out)) hk (.inl rfl));have n1_:=Aside0.mk (hb);have n2_:=Aside0.mk (hi);clear HK;clear HB;clear HI0;have HK:=n0_;have HB:=n1_;have HI0:=n2_;clear n0_ n1_ n2_;(try clear hb);(try clear hb2);(try clear hk);(try clear hi))|((with_reducible refine gate_callee (f:=111) rfl ?_);refine goesL_ (some 48) rfl rfl Tryz.func111 (by kernel_rfl) rfl #[.int .u8 t334] rfl (by (try simp only [List.map_toArray,List.map_cons,List.map_nil]);first|done|rfl|(simp only [List.length_drop,List.length_take];rfl)) ?_;(with_reducible refine (spec_hexValue.calls kj10 t334 t337 _ A20.out).mono ?_);rintro e w' ⟨rfl,⟨nd,rfl⟩⟩;refine ⟨_,rfl,?_⟩)|(go_at_call 104;(with_reducible refine (spec_reader_peek.calls g s0_0 t335 t336 0 t338 t339 t340 w0 _ ?side1 ?side2 A23.out).mono ?_);(case side1 => repeat (first|(with_reducible first|exact HI0.out|apply sA|apply sB|apply sC|apply sD|apply sE)|exact HI0.out));(case side2 => repeat (first|(with_reducible first|exact HB.out|apply bA|apply bB|apply bC|refine bD ?_ (IsS115.ge HI0.out))|exact HB.out));rintro e w31 ⟨rfl,hi,hb,hk⟩;have n0_:=Aside0.mk (KeepBut.trans (by repeat (first|(with_reducible first|exact HK.out|apply kA|apply kB|apply kC|apply kD)|exact HK.out)) hk (.inl rfl));have n1_:=Aside0.mk (hb);have n2_:=Aside0.mk (hi);clear HK;clear HB;clear HI0;have HK:=n0_;have HB:=n1_;have HI0:=n2_;clear n0_ n1_ n2_;(try clear hb);(try clear hb2);(try clear hk);(try clear hi))|(go_at_call 104;(with_reducible refine (spec_reader_peek.calls g s0_0 t339 t340 0 t341 t342 t343 w0 _ ?side1 ?side2 A27.out).mono ?_);(case side1 => repeat (first|(with_reducible first|exact HI0.out|apply sA|apply sB|apply sC|apply sD|apply sE)|exact HI0.out));(case side2 => repeat (first|(with_reducible first|exact HB.out|apply bA|apply bB|apply bC|refine bD ?_ (IsS115.ge HI0.out))|exact HB.out));rintro e w32 ⟨rfl,hi,hb,hk⟩;have n0_:=Aside0.mk (KeepBut.trans (by repeat (first|(with_reducible first|exact HK.out|apply kA|apply kB|apply kC|apply kD)|exact HK.out)) hk (.inl rfl));have n1_:=Aside0.mk (hb);have n2_:=Aside0.mk (hi);clear HK;clear HB;clear HI0;have HK:=n0_;have HB:=n1_;have HI0:=n2_;clear n0_ n1_ n2_;(try clear hb);(try clear hb2);(try clear hk);(try clear hi)))
          go_meet
          case rel => exact ⟨_,(true),(t342),(t343),(by first|rfl|(simp;done)|(simp [*];done)),H',⟨by have:=HJ1.out;have:=HJ10.out;first|omega|exact Nat.le_refl _⟩,⟨by repeat (first|(with_reducible first|exact HI0.out|apply sA|apply sB|apply sC|apply sD|apply sE)|exact HI0.out)⟩,⟨by repeat (first|(with_reducible first|exact HK.out|apply kA|apply kB|apply kC|apply kD)|exact HK.out)⟩,⟨by repeat (first|(with_reducible first|exact HB.out|apply bA|apply bB|apply bC|refine bD ?_ (IsS115.ge HI0.out))|exact HB.out)⟩⟩
         ·replace c29:=Bool.eq_false_iff.mpr c29
          subst c29
          have H1 : ((spec_reader_peek.f s0_0 t342 t343 1).bind fun bt344 => ((spec_hexValue.f kj10 bt344.1).bind fun t347 => (spec_reader_codes.j4 kj10 false (decide (t347 < 0)) s0_0 bt344.2.1 bt344.2.2))) = some (r1,r2,r3):=by rw [if_neg (show ¬ (false = true) by decide)] at H;exact H
          clear H
          have H:=H1
          clear H1
          replace H:=Option.bind_eq_some_iff.mp H
          obtain ⟨⟨t344,t345,t346⟩,A330,H⟩:=H
          replace H : ((spec_hexValue.f kj10 t344).bind fun t347 => (spec_reader_codes.j4 kj10 false (decide (t347 < 0)) s0_0 t345 t346)) = some (r1,r2,r3):=H
          have A33:=Aside0.mk A330
          clear A330
          replace H:=Option.bind_eq_some_iff.mp H
          obtain ⟨t347,A340,H⟩:=H
          replace H : (spec_reader_codes.j4 kj10 false (decide (t347 < 0)) s0_0 t345 t346) = some (r1,r2,r3):=H
          have A34:=Aside0.mk A340
          clear A340
          have H':=Aside0.mk H
          clear H
          go_wp2_with (first|((with_reducible refine gate_callee (f:=104) rfl ?_);refine goesL_ (some 47) rfl rfl Tryz.func104 (by kernel_rfl) rfl #[.pointer (some ⟨g,0,none⟩),.int .i64 0] rfl (by (try simp only [List.map_toArray,List.map_cons,List.map_nil]);first|done|rfl|(simp only [List.length_drop,List.length_take];rfl)) ?_;(with_reducible refine (spec_reader_peek.calls g s0_0 x1001_10 x1002_10 0 t334 t335 t336 w0 _ ?side1 ?side2 A19.out).mono ?_);(case side1 => repeat (first|(with_reducible first|exact HI0.out|apply sA|apply sB|apply sC|apply sD|apply sE)|exact HI0.out));(case side2 => repeat (first|(with_reducible first|exact HB.out|apply bA|apply bB|apply bC|refine bD ?_ (IsS115.ge HI0.out))|exact HB.out));rintro e w35 ⟨rfl,hi,hb,hk⟩;refine ⟨_,rfl,?_⟩;have n0_:=Aside0.mk (KeepBut.trans (by repeat (first|(with_reducible first|exact HK.out|apply kA|apply kB|apply kC|apply kD)|exact HK.out)) hk (.inl rfl));have n1_:=Aside0.mk (hb);have n2_:=Aside0.mk (hi);clear HK;clear HB;clear HI0;have HK:=n0_;have HB:=n1_;have HI0:=n2_;clear n0_ n1_ n2_;(try clear hb);(try clear hb2);(try clear hk);(try clear hi))|((with_reducible refine gate_callee (f:=111) rfl ?_);refine goesL_ (some 48) rfl rfl Tryz.func111 (by kernel_rfl) rfl #[.int .u8 t334] rfl (by (try simp only [List.map_toArray,List.map_cons,List.map_nil]);first|done|rfl|(simp only [List.length_drop,List.length_take];rfl)) ?_;(with_reducible refine (spec_hexValue.calls kj10 t334 t337 _ A20.out).mono ?_);rintro e w' ⟨rfl,⟨nd,rfl⟩⟩;refine ⟨_,rfl,?_⟩)|(go_at_call 104;(with_reducible refine (spec_reader_peek.calls g s0_0 t335 t336 0 t338 t339 t340 w0 _ ?side1 ?side2 A23.out).mono ?_);(case side1 => repeat (first|(with_reducible first|exact HI0.out|apply sA|apply sB|apply sC|apply sD|apply sE)|exact HI0.out));(case side2 => repeat (first|(with_reducible first|exact HB.out|apply bA|apply bB|apply bC|refine bD ?_ (IsS115.ge HI0.out))|exact HB.out));rintro e w36 ⟨rfl,hi,hb,hk⟩;have n0_:=Aside0.mk (KeepBut.trans (by repeat (first|(with_reducible first|exact HK.out|apply kA|apply kB|apply kC|apply kD)|exact HK.out)) hk (.inl rfl));have n1_:=Aside0.mk (hb);have n2_:=Aside0.mk (hi);clear HK;clear HB;clear HI0;have HK:=n0_;have HB:=n1_;have HI0:=n2_;clear n0_ n1_ n2_;(try clear hb);(try clear hb2);(try clear hk);(try clear hi))|(go_at_call 104;(with_reducible refine (spec_reader_peek.calls g s0_0 t339 t340 0 t341 t342 t343 w0 _ ?side1 ?side2 A27.out).mono ?_);(case side1 => repeat (first|(with_reducible first|exact HI0.out|apply sA|apply sB|apply sC|apply sD|apply sE)|exact HI0.out));(case side2 => repeat (first|(with_reducible first|exact HB.out|apply bA|apply bB|apply bC|refine bD ?_ (IsS115.ge HI0.out))|exact HB.out));rintro e w37 ⟨rfl,hi,hb,hk⟩;have n0_:=Aside0.mk (KeepBut.trans (by repeat (first|(with_reducible first|exact HK.out|apply kA|apply kB|apply kC|apply kD)|exact HK.out)) hk (.inl rfl));have n1_:=Aside0.mk (hb);have n2_:=Aside0.mk (hi);clear HK;clear HB;clear HI0;have HK:=n0_;have HB:=n1_;have HI0:=n2_;clear n0_ n1_ n2_;(try clear hb);(try clear hb2);(try clear hk);(try clear hi))|(go_at_call 104;(with_reducible refine (spec_reader_peek.calls g s0_0 t342 t343 1 t344 t345 t346 w0 _ ?side1 ?side2 A33.out).mono ?_);(case side1 => repeat (first|(with_reducible first|exact HI0.out|apply sA|apply sB|apply sC|apply sD|apply sE)|exact HI0.out));(case side2 => repeat (first|(with_reducible first|exact HB.out|apply bA|apply bB|apply bC|refine bD ?_ (IsS115.ge HI0.out))|exact HB.out));rintro e w38 ⟨rfl,hi,hb,hk⟩;have n0_:=Aside0.mk (KeepBut.trans (by repeat (first|(with_reducible first|exact HK.out|apply kA|apply kB|apply kC|apply kD)|exact HK.out)) hk (.inl rfl));have n1_:=Aside0.mk (hb);have n2_:=Aside0.mk (hi);clear HK;clear HB;clear HI0;have HK:=n0_;have HB:=n1_;have HI0:=n2_;clear n0_ n1_ n2_;(try clear hb);(try clear hb2);(try clear hk);(try clear hi))|(go_at_call 111;(with_reducible refine (spec_hexValue.calls kj10 t344 t347 _ A34.out).mono ?_);rintro e w' ⟨rfl,⟨nd,rfl⟩⟩))
          go_meet
          case rel => exact ⟨_,(decide (t347 < 0)),(t345),(t346),(by first|rfl|(simp;done)|(simp [*];done)),H',⟨by have:=HJ1.out;have:=HJ10.out;first|omega|exact Nat.le_refl _⟩,⟨by repeat (first|(with_reducible first|exact HI0.out|apply sA|apply sB|apply sC|apply sD|apply sE)|exact HI0.out)⟩,⟨by repeat (first|(with_reducible first|exact HK.out|apply kA|apply kB|apply kC|apply kD)|exact HK.out)⟩,⟨by repeat (first|(with_reducible first|exact HB.out|apply bA|apply bB|apply bC|refine bD ?_ (IsS115.ge HI0.out))|exact HB.out)⟩⟩
        ·rw [if_neg c28] at H
         have c28b0 : (t341 == 45) = false:=beq_eq_false_iff_ne.mpr c28
         have c28b1 : (t341 != 45) = true:=bne_iff_ne.mpr c28
         have H':=Aside0.mk H
         clear H
         go_wp2_with (first|((with_reducible refine gate_callee (f:=104) rfl ?_);refine goesL_ (some 47) rfl rfl Tryz.func104 (by kernel_rfl) rfl #[.pointer (some ⟨g,0,none⟩),.int .i64 0] rfl (by (try simp only [List.map_toArray,List.map_cons,List.map_nil]);first|done|rfl|(simp only [List.length_drop,List.length_take];rfl)) ?_;(with_reducible refine (spec_reader_peek.calls g s0_0 x1001_10 x1002_10 0 t334 t335 t336 w0 _ ?side1 ?side2 A19.out).mono ?_);(case side1 => repeat (first|(with_reducible first|exact HI0.out|apply sA|apply sB|apply sC|apply sD|apply sE)|exact HI0.out));(case side2 => repeat (first|(with_reducible first|exact HB.out|apply bA|apply bB|apply bC|refine bD ?_ (IsS115.ge HI0.out))|exact HB.out));rintro e w39 ⟨rfl,hi,hb,hk⟩;refine ⟨_,rfl,?_⟩;have n0_:=Aside0.mk (KeepBut.trans (by repeat (first|(with_reducible first|exact HK.out|apply kA|apply kB|apply kC|apply kD)|exact HK.out)) hk (.inl rfl));have n1_:=Aside0.mk (hb);have n2_:=Aside0.mk (hi);clear HK;clear HB;clear HI0;have HK:=n0_;have HB:=n1_;have HI0:=n2_;clear n0_ n1_ n2_;(try clear hb);(try clear hb2);(try clear hk);(try clear hi))|((with_reducible refine gate_callee (f:=111) rfl ?_);refine goesL_ (some 48) rfl rfl Tryz.func111 (by kernel_rfl) rfl #[.int .u8 t334] rfl (by (try simp only [List.map_toArray,List.map_cons,List.map_nil]);first|done|rfl|(simp only [List.length_drop,List.length_take];rfl)) ?_;(with_reducible refine (spec_hexValue.calls kj10 t334 t337 _ A20.out).mono ?_);rintro e w' ⟨rfl,⟨nd,rfl⟩⟩;refine ⟨_,rfl,?_⟩)|(go_at_call 104;(with_reducible refine (spec_reader_peek.calls g s0_0 t335 t336 0 t338 t339 t340 w0 _ ?side1 ?side2 A23.out).mono ?_);(case side1 => repeat (first|(with_reducible first|exact HI0.out|apply sA|apply sB|apply sC|apply sD|apply sE)|exact HI0.out));(case side2 => repeat (first|(with_reducible first|exact HB.out|apply bA|apply bB|apply bC|refine bD ?_ (IsS115.ge HI0.out))|exact HB.out));rintro e w40 ⟨rfl,hi,hb,hk⟩;have n0_:=Aside0.mk (KeepBut.trans (by repeat (first|(with_reducible first|exact HK.out|apply kA|apply kB|apply kC|apply kD)|exact HK.out)) hk (.inl rfl));have n1_:=Aside0.mk (hb);have n2_:=Aside0.mk (hi);clear HK;clear HB;clear HI0;have HK:=n0_;have HB:=n1_;have HI0:=n2_;clear n0_ n1_ n2_;(try clear hb);(try clear hb2);(try clear hk);(try clear hi))|(go_at_call 104;(with_reducible refine (spec_reader_peek.calls g s0_0 t339 t340 0 t341 t342 t343 w0 _ ?side1 ?side2 A27.out).mono ?_);(case side1 => repeat (first|(with_reducible first|exact HI0.out|apply sA|apply sB|apply sC|apply sD|apply sE)|exact HI0.out));(case side2 => repeat (first|(with_reducible first|exact HB.out|apply bA|apply bB|apply bC|refine bD ?_ (IsS115.ge HI0.out))|exact HB.out));rintro e w41 ⟨rfl,hi,hb,hk⟩;have n0_:=Aside0.mk (KeepBut.trans (by repeat (first|(with_reducible first|exact HK.out|apply kA|apply kB|apply kC|apply kD)|exact HK.out)) hk (.inl rfl));have n1_:=Aside0.mk (hb);have n2_:=Aside0.mk (hi);clear HK;clear HB;clear HI0;have HK:=n0_;have HB:=n1_;have HI0:=n2_;clear n0_ n1_ n2_;(try clear hb);(try clear hb2);(try clear hk);(try clear hi)))
         go_meet
         case rel => exact ⟨_,(false),(t342),(t343),(by first|rfl|(simp;done)|(simp [*];done)),H',⟨by have:=HJ1.out;have:=HJ10.out;first|omega|exact Nat.le_refl _⟩,⟨by repeat (first|(with_reducible first|exact HI0.out|apply sA|apply sB|apply sC|apply sD|apply sE)|exact HI0.out)⟩,⟨by repeat (first|(with_reducible first|exact HK.out|apply kA|apply kB|apply kC|apply kD)|exact HK.out)⟩,⟨by repeat (first|(with_reducible first|exact HB.out|apply bA|apply bB|apply bC|refine bD ?_ (IsS115.ge HI0.out))|exact HB.out)⟩⟩
     case rest =>
      clear HC18
      try clear c1
      try clear c2
      try clear p2
      try clear c4
      try clear c4b0
      try clear p6
      try clear c7
      try clear c7b0
      try clear c10
      try clear c11
      try clear c12
      try clear c12b0
      try clear c14
      try clear c14b0
      try clear c14b1
      try clear c21
      try clear c21b0
      try clear c24
      try clear c24b0
      try clear c24b1
      try clear c28
      try clear c28b0
      try clear c28b1
      try clear c29
      try clear hcz16_0
      try clear hcz16_1
      try clear hcz16_2
      try clear hcz3_0
      try clear hcz3_1
      try clear hcz3_2
      try clear hcz9_0
      try clear hcz9_1
      try clear hcz9_2
      try clear hfz16_1
      try clear hfz16_2
      try clear hfz3_1
      try clear hfz3_2
      try clear hfz9_1
      try clear hfz9_2
      try clear p2
      try clear p6
      obtain ⟨kq,x68_17,x1001_17,x1002_17,rfl,HA,HJ17,HI0,HK,HB⟩:=hcut
      cases kq with
      | zero => exact absurd HA.out (by simp [spec_reader_codes.j4])
      | succ kj17 =>
       have H:=HA.out
       clear HA
       simp only [spec_reader_codes.j4] at H
       have HC42:=Aside0.mk H
       clear H
       go_upto_if 68 with (fail)
       go_cut [] (fun wc => ∃ (kq : Nat) (x1002_41 : Bool),Aside0 (spec_reader_codes.j5 kq x4_10 s0_0 x1001_17 x1002_41 = some (r1,r2,r3)) ∧ Aside0 (kq ≤ kj17) ∧ Aside0 (IsS115 w0 wc g s0_0 x1001_17 x1002_41) ∧ Aside0 (KeepBut w wc g none) ∧ Aside0 (Below w0.heap.size w0 wc))
       case first =>
        have H:=HC42.out
        clear HC42
        by_cases c43 : x68_17 = true
        ·subst c43
         have H1 : (spec_reader_codes.j5 kj17 x4_10 s0_0 x1001_17 true) = some (r1,r2,r3):=by rw [if_pos rfl] at H;exact H
         clear H
         have H:=H1
         clear H1
         have H':=Aside0.mk H
         clear H
         obtain ⟨ASz44_0,cSz44_0,HGz44,hgz44,HSz44_0⟩:=HI0.out
         have hcz44_0:=cellS115_0 HGz44
         have hcz44_1:=cellS115_1 HGz44
         have hcz44_2:=cellS115_2 HGz44
         have hfz44_1:=blk_frozen HGz44 1
         have hfz44_2:=blk_frozen HGz44 2
         clear HGz44 hgz44
         go_wp2
         go_meet
         case rel => exact ⟨_,(true),H',⟨by have:=HJ1.out;have:=HJ10.out;have:=HJ17.out;first|omega|exact Nat.le_refl _⟩,⟨by repeat (first|(with_reducible first|exact HI0.out|apply sA|apply sB|apply sC|apply sD|apply sE)|exact HI0.out)⟩,⟨by repeat (first|(with_reducible first|exact HK.out|apply kA|apply kB|apply kC|apply kD)|exact HK.out)⟩,⟨by repeat (first|(with_reducible first|exact HB.out|apply bA|apply bB|apply bC|refine bD ?_ (IsS115.ge HI0.out))|exact HB.out)⟩⟩
        ·replace c43:=Bool.eq_false_iff.mpr c43
         subst c43
         have H1 : (spec_reader_codes.j5 kj17 x4_10 s0_0 x1001_17 x1002_17) = some (r1,r2,r3):=by rw [if_neg (show ¬ (false = true) by decide)] at H;exact H
         clear H
         have H:=H1
         clear H1
         have H':=Aside0.mk H
         clear H
         go_wp2
         go_meet
         case rel => exact ⟨_,(x1002_17),H',⟨by have:=HJ1.out;have:=HJ10.out;have:=HJ17.out;first|omega|exact Nat.le_refl _⟩,⟨by repeat (first|(with_reducible first|exact HI0.out|apply sA|apply sB|apply sC|apply sD|apply sE)|exact HI0.out)⟩,⟨by repeat (first|(with_reducible first|exact HK.out|apply kA|apply kB|apply kC|apply kD)|exact HK.out)⟩,⟨by repeat (first|(with_reducible first|exact HB.out|apply bA|apply bB|apply bC|refine bD ?_ (IsS115.ge HI0.out))|exact HB.out)⟩⟩
       case rest =>
        clear HC42
        try clear c1
        try clear c2
        try clear p2
        try clear c4
        try clear c4b0
        try clear p6
        try clear c7
        try clear c7b0
        try clear c10
        try clear c11
        try clear c12
        try clear c12b0
        try clear c14
        try clear c14b0
        try clear c14b1
        try clear c21
        try clear c21b0
        try clear c24
        try clear c24b0
        try clear c24b1
        try clear c28
        try clear c28b0
        try clear c28b1
        try clear c29
        try clear c43
        try clear hcz16_0
        try clear hcz16_1
        try clear hcz16_2
        try clear hcz3_0
        try clear hcz3_1
        try clear hcz3_2
        try clear hcz44_0
        try clear hcz44_1
        try clear hcz44_2
        try clear hcz9_0
        try clear hcz9_1
        try clear hcz9_2
        try clear hfz16_1
        try clear hfz16_2
        try clear hfz3_1
        try clear hfz3_2
        try clear hfz44_1
        try clear hfz44_2
        try clear hfz9_1
        try clear hfz9_2
        try clear p2
        try clear p6
        obtain ⟨kq,x1002_41,HA,HJ41,HI0,HK,HB⟩:=hcut
        cases kq with
        | zero => exact absurd HA.out (by simp [spec_reader_codes.j5])
        | succ kj41 =>
         have H:=HA.out
         clear HA
         simp only [spec_reader_codes.j5] at H
         have HC45:=Aside0.mk H
         clear H
         go_upto_region 13 with (fail)
         go_cut [84] (fun v84 wc => ∃ (kq : Nat) (x84_44 : Bool) (x1001_44 : Int) (x1002_44 : Bool),v84 = .bool x84_44 ∧ Aside0 (spec_reader_codes.j6 kq x84_44 s0_0 x1001_44 x1002_44 = some (r1,r2,r3)) ∧ Aside0 (kq ≤ kj41) ∧ Aside0 (IsS115 w0 wc g s0_0 x1001_44 x1002_44) ∧ Aside0 (KeepBut w wc g none) ∧ Aside0 (Below w0.heap.size w0 wc))
         case first =>
          have H:=HC45.out
          clear HC45
          by_cases c46 : x4_10 = true
          ·subst c46
           have H1 : (spec_reader_codes.j6 kj41 false s0_0 x1001_17 x1002_41) = some (r1,r2,r3):=by rw [if_pos rfl] at H;exact H
           clear H
           have H:=H1
           clear H1
           have H':=Aside0.mk H
           clear H
           go_wp2
           go_meet
           case rel => exact ⟨_,(false),(x1001_17),(x1002_41),(by first|rfl|(simp;done)|(simp [*];done)),H',⟨by have:=HJ1.out;have:=HJ10.out;have:=HJ17.out;have:=HJ41.out;first|omega|exact Nat.le_refl _⟩,⟨by repeat (first|(with_reducible first|exact HI0.out|apply sA|apply sB|apply sC|apply sD|apply sE)|exact HI0.out)⟩,⟨by repeat (first|(with_reducible first|exact HK.out|apply kA|apply kB|apply kC|apply kD)|exact HK.out)⟩,⟨by repeat (first|(with_reducible first|exact HB.out|apply bA|apply bB|apply bC|refine bD ?_ (IsS115.ge HI0.out))|exact HB.out)⟩⟩
          ·replace c46:=Bool.eq_false_iff.mpr c46
           subst c46
           have H1 : ((spec_reader_peek.f s0_0 x1001_17 x1002_41 0).bind fun bt348 => (if bt348.1 = 45 then ((spec_reader_peek.f s0_0 bt348.2.1 bt348.2.2 1).bind fun bt351 => ((spec_hexValue.f kj41 bt351.1).bind fun t354 => (spec_reader_codes.j6 kj41 (decide (t354 ≥ 0)) s0_0 bt351.2.1 bt351.2.2))) else (spec_reader_codes.j6 kj41 false s0_0 bt348.2.1 bt348.2.2))) = some (r1,r2,r3):=by rw [if_neg (show ¬ (false = true) by decide)] at H;exact H
           clear H
           have H:=H1
           clear H1
           replace H:=Option.bind_eq_some_iff.mp H
           obtain ⟨⟨t348,t349,t350⟩,A470,H⟩:=H
           replace H : (if t348 = 45 then ((spec_reader_peek.f s0_0 t349 t350 1).bind fun bt351 => ((spec_hexValue.f kj41 bt351.1).bind fun t354 => (spec_reader_codes.j6 kj41 (decide (t354 ≥ 0)) s0_0 bt351.2.1 bt351.2.2))) else (spec_reader_codes.j6 kj41 false s0_0 t349 t350)) = some (r1,r2,r3):=H
           have A47:=Aside0.mk A470
           clear A470
           by_cases c48 : t348 = 45
           ·rw [if_pos c48] at H
            have c48b0 : (t348 == 45) = true:=beq_iff_eq.mpr c48
            have c48b1 : (t348 != 45) = false:=bne_eq_false_iff_eq.mpr c48
            clear c48
            (first|rw [c48b0]|(simp only [i64_w,i32_w];rw [c48b0])|skip)
            replace H:=Option.bind_eq_some_iff.mp H
            obtain ⟨⟨t351,t352,t353⟩,A490,H⟩:=H
            replace H : ((spec_hexValue.f kj41 t351).bind fun t354 => (spec_reader_codes.j6 kj41 (decide (t354 ≥ 0)) s0_0 t352 t353)) = some (r1,r2,r3):=H
            have A49:=Aside0.mk A490
            clear A490
            replace H:=Option.bind_eq_some_iff.mp H
            obtain ⟨t354,A500,H⟩:=H
            replace H : (spec_reader_codes.j6 kj41 (decide (t354 ≥ 0)) s0_0 t352 t353) = some (r1,r2,r3):=H
            have A50:=Aside0.mk A500
            clear A500
            have H':=Aside0.mk H
            clear H
            go_wp2_with (first|(go_at_call 104;(with_reducible refine (spec_reader_peek.calls g s0_0 x1001_17 x1002_41 0 t348 t349 t350 w0 _ ?side1 ?side2 A47.out).mono ?_);(case side1 => repeat (first|(with_reducible first|exact HI0.out|apply sA|apply sB|apply sC|apply sD|apply sE)|exact HI0.out));(case side2 => repeat (first|(with_reducible first|exact HB.out|apply bA|apply bB|apply bC|refine bD ?_ (IsS115.ge HI0.out))|exact HB.out));rintro e w51 ⟨rfl,hi,hb,hk⟩;have n0_:=Aside0.mk (KeepBut.trans (by repeat (first|(with_reducible first|exact HK.out|apply kA|apply kB|apply kC|apply kD)|exact HK.out)) hk (.inl rfl));have n1_:=Aside0.mk (hb);have n2_:=Aside0.mk (hi);clear HK;clear HB;clear HI0;have HK:=n0_;have HB:=n1_;have HI0:=n2_;clear n0_ n1_ n2_;(try clear hb);(try clear hb2);(try clear hk);(try clear hi))|(go_at_call 104;(with_reducible refine (spec_reader_peek.calls g s0_0 t349 t350 1 t351 t352 t353 w0 _ ?side1 ?side2 A49.out).mono ?_);(case side1 => repeat (first|(with_reducible first|exact HI0.out|apply sA|apply sB|apply sC|apply sD|apply sE)|exact HI0.out));(case side2 => repeat (first|(with_reducible first|exact HB.out|apply bA|apply bB|apply bC|refine bD ?_ (IsS115.ge HI0.out))|exact HB.out));rintro e w52 ⟨rfl,hi,hb,hk⟩;have n0_:=Aside0.mk (KeepBut.trans (by repeat (first|(with_reducible first|exact HK.out|apply kA|apply kB|apply kC|apply kD)|exact HK.out)) hk (.inl rfl));have n1_:=Aside0.mk (hb);have n2_:=Aside0.mk (hi);clear HK;clear HB;clear HI0;have HK:=n0_;have HB:=n1_;have HI0:=n2_;clear n0_ n1_ n2_;(try clear hb);(try clear hb2);(try clear hk);(try clear hi))|(go_at_call 111;(with_reducible refine (spec_hexValue.calls kj41 t351 t354 _ A50.out).mono ?_);rintro e w' ⟨rfl,⟨nd,rfl⟩⟩))
            go_meet
            case rel => exact ⟨_,(decide (t354 ≥ 0)),(t352),(t353),(by first|rfl|(simp;done)|(simp [*];done)),H',⟨by have:=HJ1.out;have:=HJ10.out;have:=HJ17.out;have:=HJ41.out;first|omega|exact Nat.le_refl _⟩,⟨by repeat (first|(with_reducible first|exact HI0.out|apply sA|apply sB|apply sC|apply sD|apply sE)|exact HI0.out)⟩,⟨by repeat (first|(with_reducible first|exact HK.out|apply kA|apply kB|apply kC|apply kD)|exact HK.out)⟩,⟨by repeat (first|(with_reducible first|exact HB.out|apply bA|apply bB|apply bC|refine bD ?_ (IsS115.ge HI0.out))|exact HB.out)⟩⟩
           ·rw [if_neg c48] at H
            have c48b0 : (t348 == 45) = false:=beq_eq_false_iff_ne.mpr c48
            have c48b1 : (t348 != 45) = true:=bne_iff_ne.mpr c48
            (first|rw [c48b0]|(simp only [i64_w,i32_w];rw [c48b0])|skip)
            have H':=Aside0.mk H
            clear H
            go_wp2_with (first|(go_at_call 104;(with_reducible refine (spec_reader_peek.calls g s0_0 x1001_17 x1002_41 0 t348 t349 t350 w0 _ ?side1 ?side2 A47.out).mono ?_);(case side1 => repeat (first|(with_reducible first|exact HI0.out|apply sA|apply sB|apply sC|apply sD|apply sE)|exact HI0.out));(case side2 => repeat (first|(with_reducible first|exact HB.out|apply bA|apply bB|apply bC|refine bD ?_ (IsS115.ge HI0.out))|exact HB.out));rintro e w53 ⟨rfl,hi,hb,hk⟩;have n0_:=Aside0.mk (KeepBut.trans (by repeat (first|(with_reducible first|exact HK.out|apply kA|apply kB|apply kC|apply kD)|exact HK.out)) hk (.inl rfl));have n1_:=Aside0.mk (hb);have n2_:=Aside0.mk (hi);clear HK;clear HB;clear HI0;have HK:=n0_;have HB:=n1_;have HI0:=n2_;clear n0_ n1_ n2_;(try clear hb);(try clear hb2);(try clear hk);(try clear hi)))
            go_meet
            case rel => exact ⟨_,(false),(t349),(t350),(by first|rfl|(simp;done)|(simp [*];done)),H',⟨by have:=HJ1.out;have:=HJ10.out;have:=HJ17.out;have:=HJ41.out;first|omega|exact Nat.le_refl _⟩,⟨by repeat (first|(with_reducible first|exact HI0.out|apply sA|apply sB|apply sC|apply sD|apply sE)|exact HI0.out)⟩,⟨by repeat (first|(with_reducible first|exact HK.out|apply kA|apply kB|apply kC|apply kD)|exact HK.out)⟩,⟨by repeat (first|(with_reducible first|exact HB.out|apply bA|apply bB|apply bC|refine bD ?_ (IsS115.ge HI0.out))|exact HB.out)⟩⟩
         case rest =>
          clear HC45
          try clear c1
          try clear c2
          try clear p2
          try clear c4
          try clear c4b0
          try clear p6
          try clear c7
          try clear c7b0
          try clear c10
          try clear c11
          try clear c12
          try clear c12b0
          try clear c14
          try clear c14b0
          try clear c14b1
          try clear c21
          try clear c21b0
          try clear c24
          try clear c24b0
          try clear c24b1
          try clear c28
          try clear c28b0
          try clear c28b1
          try clear c29
          try clear c43
          try clear c46
          try clear c48
          try clear c48b0
          try clear c48b1
          try clear hcz16_0
          try clear hcz16_1
          try clear hcz16_2
          try clear hcz3_0
          try clear hcz3_1
          try clear hcz3_2
          try clear hcz44_0
          try clear hcz44_1
          try clear hcz44_2
          try clear hcz9_0
          try clear hcz9_1
          try clear hcz9_2
          try clear hfz16_1
          try clear hfz16_2
          try clear hfz3_1
          try clear hfz3_2
          try clear hfz44_1
          try clear hfz44_2
          try clear hfz9_1
          try clear hfz9_2
          try clear p2
          try clear p6
          obtain ⟨kq,x84_44,x1001_44,x1002_44,rfl,HA,HJ44,HI0,HK,HB⟩:=hcut
          cases kq with
          | zero => exact absurd HA.out (by simp [spec_reader_codes.j6])
          | succ kj44 =>
           have H:=HA.out
           clear HA
           simp only [spec_reader_codes.j6] at H
           by_cases c54 : x84_44 = true
           ·subst c54
            have H1 : (spec_reader_codes.l2 kj44 0 s0_0 (wrap64 (x1001_44 + 1)) x1002_44) = some (r1,r2,r3):=by rw [if_pos rfl] at H;exact H
            clear H
            have H:=H1
            clear H1
            have HC55:=Aside0.mk H
            clear H
            obtain ⟨ASz56_0,cSz56_0,HGz56,hgz56,HSz56_0⟩:=HI0.out
            have hcz56_0:=cellS115_0 HGz56
            have hcz56_1:=cellS115_1 HGz56
            have hcz56_2:=cellS115_2 HGz56
            have hfz56_1:=blk_frozen HGz56 1
            have hfz56_2:=blk_frozen HGz56 2
            clear HGz56 hgz56
            go_upto_block 4 with (fail)
            go_cut [] (fun wc => ∃ (kq : Nat) (x1001_54 : Int) (x1002_54 : Bool),Aside0 (spec_reader_codes.j8 kq s0_0 x1001_54 x1002_54 = some (r1,r2,r3)) ∧ Aside0 (kq ≤ kj44) ∧ Aside0 (IsS115 w0 wc g s0_0 x1001_54 x1002_54) ∧ Aside0 (KeepBut w wc g none) ∧ Aside0 (Below w0.heap.size w0 wc))
            case first =>
             have H:=HC55.out
             clear HC55
             have H':=Aside0.mk H
             clear H
             go_wp2
             go_loopg [5] kj44 (fun kq v5 w' => ∃ (x5_6 : Int) (x1001_6 : Int) (x1002_6 : Bool),v5 = .int .i64 x5_6 ∧ Aside0 (spec_reader_codes.l2 kq x5_6 s0_0 x1001_6 x1002_6 = some (r1,r2,r3)) ∧ Aside0 (kq ≤ kj44) ∧ Aside0 (IsS115 w0 w' g s0_0 x1001_6 x1002_6) ∧ Aside0 (KeepBut w w' g none) ∧ Aside0 (Below w0.heap.size w0 w'))
             case atStart => exact ⟨(0),(wrap64 (x1001_44 + 1)),(x1002_44),(by first|rfl|(simp;done)|(simp [*];done)),H',⟨Nat.le_refl _⟩,⟨by repeat (first|(with_reducible first|exact HI0.out|apply sA|apply sB|apply sC|apply sD|apply sE)|exact HI0.out)⟩,⟨by repeat (first|(with_reducible first|exact HK.out|apply kA|apply kB|apply kC|apply kD)|exact HK.out)⟩,⟨by repeat (first|(with_reducible first|exact HB.out|apply bA|apply bB|apply bC|refine bD ?_ (IsS115.ge HI0.out))|exact HB.out)⟩⟩
             case round =>
              clear H'
              try clear c1
              try clear c2
              try clear p2
              try clear c4
              try clear c4b0
              try clear c5
              try clear p6
              try clear c7
              try clear c7b0
              try clear c10
              try clear c11
              try clear c12
              try clear c12b0
              try clear c14
              try clear c14b0
              try clear c14b1
              try clear c21
              try clear c21b0
              try clear c24
              try clear c24b0
              try clear c24b1
              try clear c28
              try clear c28b0
              try clear c28b1
              try clear c29
              try clear c43
              try clear c46
              try clear c48
              try clear c48b0
              try clear c48b1
              try clear c54
              try clear hcz16_0
              try clear hcz16_1
              try clear hcz16_2
              try clear hcz3_0
              try clear hcz3_1
              try clear hcz3_2
              try clear hcz44_0
              try clear hcz44_1
              try clear hcz44_2
              try clear hcz56_0
              try clear hcz56_1
              try clear hcz56_2
              try clear hcz9_0
              try clear hcz9_1
              try clear hcz9_2
              try clear hfz16_1
              try clear hfz16_2
              try clear hfz3_1
              try clear hfz3_2
              try clear hfz44_1
              try clear hfz44_2
              try clear hfz56_1
              try clear hfz56_2
              try clear hfz9_1
              try clear hfz9_2
              try clear p2
              try clear p6
              obtain ⟨x5_6,x1001_6,x1002_6,rfl,HA,HK6,HI0,HK,HB⟩:=hrel
              cases gk with
              | zero => exact absurd HA.out (by simp [spec_reader_codes.l2])
              | succ k6 =>
               have H:=HA.out
               clear HA
               simp only [spec_reader_codes.l2] at H
               by_cases c57 : x5_6 < 6
               ·rw [if_pos c57] at H
                have c57b0 : decide (x5_6 < 6) = true:=decide_eq_true c57
                clear c57
                (first|rw [c57b0]|(simp only [i64_w,i32_w];rw [c57b0])|skip)
                replace H:=Option.bind_eq_some_iff.mp H
                obtain ⟨⟨t355,t356,t357⟩,A580,H⟩:=H
                replace H : ((spec_hexValue.f k6 t355).bind fun t358 => (if t358 ≥ 0 then (spec_reader_codes.l2 k6 (wrap64 (x5_6 + 1)) s0_0 (wrap64 (t356 + 1)) t357) else (spec_reader_codes.j8 k6 s0_0 t356 t357))) = some (r1,r2,r3):=H
                have A58:=Aside0.mk A580
                clear A580
                replace H:=Option.bind_eq_some_iff.mp H
                obtain ⟨t358,A590,H⟩:=H
                replace H : (if t358 ≥ 0 then (spec_reader_codes.l2 k6 (wrap64 (x5_6 + 1)) s0_0 (wrap64 (t356 + 1)) t357) else (spec_reader_codes.j8 k6 s0_0 t356 t357)) = some (r1,r2,r3):=H
                have A59:=Aside0.mk A590
                clear A590
                by_cases c60 : t358 ≥ 0
                ·rw [if_pos c60] at H
                 have c60b0 : decide (0 ≤ t358) = true:=decide_eq_true c60
                 clear c60
                 have H':=Aside0.mk H
                 clear H
                 go_wp2_with (first|(go_at_call 104;(with_reducible refine (spec_reader_peek.calls g s0_0 x1001_6 x1002_6 0 t355 t356 t357 w0 _ ?side1 ?side2 A58.out).mono ?_);(case side1 => repeat (first|(with_reducible first|exact HI0.out|apply sA|apply sB|apply sC|apply sD|apply sE)|exact HI0.out));(case side2 => repeat (first|(with_reducible first|exact HB.out|apply bA|apply bB|apply bC|refine bD ?_ (IsS115.ge HI0.out))|exact HB.out));rintro e w61 ⟨rfl,hi,hb,hk⟩;have n0_:=Aside0.mk (KeepBut.trans (by repeat (first|(with_reducible first|exact HK.out|apply kA|apply kB|apply kC|apply kD)|exact HK.out)) hk (.inl rfl));have n1_:=Aside0.mk (hb);have n2_:=Aside0.mk (hi);clear HK;clear HB;clear HI0;have HK:=n0_;have HB:=n1_;have HI0:=n2_;clear n0_ n1_ n2_;(try clear hb);(try clear hb2);(try clear hk);(try clear hi))|(go_at_call 111;(with_reducible refine (spec_hexValue.calls k6 t355 t358 _ A59.out).mono ?_);rintro e w' ⟨rfl,⟨nd,rfl⟩⟩;(try (rw [drewN_self w61];generalize hq_ : World.drewN w61 _ = w61;have n0_ : Aside0 (IsS115 w0 w61 g s0_0 t356 t357):=⟨by rw [← hq_];exact (by repeat (first|(with_reducible first|exact HI0.out|apply sA|apply sB|apply sC|apply sD|apply sE)|exact HI0.out))⟩;have n1_ : Aside0 (KeepBut w w61 g none):=⟨by rw [← hq_];exact (by repeat (first|(with_reducible first|exact HK.out|apply kA|apply kB|apply kC|apply kD)|exact HK.out))⟩;have n2_ : Aside0 (Below w0.heap.size w0 w61):=⟨by rw [← hq_];exact (by repeat (first|(with_reducible first|exact HB.out|apply bA|apply bB|apply bC|refine bD ?_ (IsS115.ge HI0.out))|exact HB.out))⟩;clear HI0 HK HB hq_;have HI0:=n0_;have HK:=n1_;have HB:=n2_;clear n0_ n1_ n2_));obtain ⟨ASz62_0,cSz62_0,HGz62,hgz62,HSz62_0⟩:=HI0.out;have hcz62_0:=cellS115_0 HGz62;have hcz62_1:=cellS115_1 HGz62;have hcz62_2:=cellS115_2 HGz62;have hfz62_1:=blk_frozen HGz62 1;have hfz62_2:=blk_frozen HGz62 2;clear HGz62 hgz62))
                 go_roundg k6
                 case measure => have:=HJ1.out;have:=HJ10.out;have:=HJ17.out;have:=HJ41.out;have:=HJ44.out;have:=HK6.out;omega
                 case rel => exact ⟨(wrap64 (x5_6 + 1)),(wrap64 (t356 + 1)),(t357),(by first|rfl|(simp;done)|(simp [*];done)),H',⟨by have:=HJ1.out;have:=HJ10.out;have:=HJ17.out;have:=HJ41.out;have:=HJ44.out;have:=HK6.out;omega⟩,⟨by repeat (first|(with_reducible first|exact HI0.out|apply sA|apply sB|apply sC|apply sD|apply sE)|exact HI0.out)⟩,⟨by repeat (first|(with_reducible first|exact HK.out|apply kA|apply kB|apply kC|apply kD)|exact HK.out)⟩,⟨by repeat (first|(with_reducible first|exact HB.out|apply bA|apply bB|apply bC|refine bD ?_ (IsS115.ge HI0.out))|exact HB.out)⟩⟩
                ·rw [if_neg c60] at H
                 have c60b0 : decide (0 ≤ t358) = false:=decide_eq_false c60
                 clear c60
                 have H':=Aside0.mk H
                 clear H
                 go_wp2_with (first|(go_at_call 104;(with_reducible refine (spec_reader_peek.calls g s0_0 x1001_6 x1002_6 0 t355 t356 t357 w0 _ ?side1 ?side2 A58.out).mono ?_);(case side1 => repeat (first|(with_reducible first|exact HI0.out|apply sA|apply sB|apply sC|apply sD|apply sE)|exact HI0.out));(case side2 => repeat (first|(with_reducible first|exact HB.out|apply bA|apply bB|apply bC|refine bD ?_ (IsS115.ge HI0.out))|exact HB.out));rintro e w63 ⟨rfl,hi,hb,hk⟩;have n0_:=Aside0.mk (KeepBut.trans (by repeat (first|(with_reducible first|exact HK.out|apply kA|apply kB|apply kC|apply kD)|exact HK.out)) hk (.inl rfl));have n1_:=Aside0.mk (hb);have n2_:=Aside0.mk (hi);clear HK;clear HB;clear HI0;have HK:=n0_;have HB:=n1_;have HI0:=n2_;clear n0_ n1_ n2_;(try clear hb);(try clear hb2);(try clear hk);(try clear hi))|(go_at_call 111;(with_reducible refine (spec_hexValue.calls k6 t355 t358 _ A59.out).mono ?_);rintro e w' ⟨rfl,⟨nd,rfl⟩⟩))
                 go_meet
                 case rel => exact ⟨_,(t356),(t357),H',⟨by have:=HJ1.out;have:=HJ10.out;have:=HJ17.out;have:=HJ41.out;have:=HJ44.out;have:=HK6.out;first|omega|exact Nat.le_refl _⟩,⟨by repeat (first|(with_reducible first|exact HI0.out|apply sA|apply sB|apply sC|apply sD|apply sE)|exact HI0.out)⟩,⟨by repeat (first|(with_reducible first|exact HK.out|apply kA|apply kB|apply kC|apply kD)|exact HK.out)⟩,⟨by repeat (first|(with_reducible first|exact HB.out|apply bA|apply bB|apply bC|refine bD ?_ (IsS115.ge HI0.out))|exact HB.out)⟩⟩
               ·rw [if_neg c57] at H
                have c57b0 : decide (x5_6 < 6) = false:=decide_eq_false c57
                clear c57
                (first|rw [c57b0]|(simp only [i64_w,i32_w];rw [c57b0])|skip)
                have H':=Aside0.mk H
                clear H
                go_wp2
                go_meet
                case rel => exact ⟨_,(x1001_6),(x1002_6),H',⟨by have:=HJ1.out;have:=HJ10.out;have:=HJ17.out;have:=HJ41.out;have:=HJ44.out;have:=HK6.out;first|omega|exact Nat.le_refl _⟩,⟨by repeat (first|(with_reducible first|exact HI0.out|apply sA|apply sB|apply sC|apply sD|apply sE)|exact HI0.out)⟩,⟨by repeat (first|(with_reducible first|exact HK.out|apply kA|apply kB|apply kC|apply kD)|exact HK.out)⟩,⟨by repeat (first|(with_reducible first|exact HB.out|apply bA|apply bB|apply bC|refine bD ?_ (IsS115.ge HI0.out))|exact HB.out)⟩⟩
            case rest =>
             clear HC55
             try clear c1
             try clear c2
             try clear p2
             try clear c4
             try clear c4b0
             try clear c5
             try clear c6
             try clear p6
             try clear c7
             try clear c7b0
             try clear c10
             try clear c11
             try clear c12
             try clear c12b0
             try clear c14
             try clear c14b0
             try clear c14b1
             try clear c21
             try clear c21b0
             try clear c24
             try clear c24b0
             try clear c24b1
             try clear c28
             try clear c28b0
             try clear c28b1
             try clear c29
             try clear c43
             try clear c46
             try clear c48
             try clear c48b0
             try clear c48b1
             try clear c54
             try clear c57
             try clear c57b0
             try clear c60
             try clear c60b0
             try clear hcz16_0
             try clear hcz16_1
             try clear hcz16_2
             try clear hcz3_0
             try clear hcz3_1
             try clear hcz3_2
             try clear hcz44_0
             try clear hcz44_1
             try clear hcz44_2
             try clear hcz56_0
             try clear hcz56_1
             try clear hcz56_2
             try clear hcz62_0
             try clear hcz62_1
             try clear hcz62_2
             try clear hcz9_0
             try clear hcz9_1
             try clear hcz9_2
             try clear hfz16_1
             try clear hfz16_2
             try clear hfz3_1
             try clear hfz3_2
             try clear hfz44_1
             try clear hfz44_2
             try clear hfz56_1
             try clear hfz56_2
             try clear hfz62_1
             try clear hfz62_2
             try clear hfz9_1
             try clear hfz9_2
             try clear p2
             try clear p6
             obtain ⟨kq,x1001_54,x1002_54,HA,HJ54,HI0,HK,HB⟩:=hcut
             cases kq with
             | zero => exact absurd HA.out (by simp [spec_reader_codes.j8])
             | succ kj54 =>
              have H:=HA.out
              clear HA
              simp only [spec_reader_codes.j8] at H
              replace H:=Option.bind_eq_some_iff.mp H
              obtain ⟨⟨t359,t360,t361⟩,A640,H⟩:=H
              replace H : ((spec_hexValue.f kj54 t359).bind fun t362 => (if t362 ≥ 0 then (some ((⟨#[114,97,110,103,101]⟩ : ByteArray),t360,true)) else (some ((⟨#[114,97,110,103,101]⟩ : ByteArray),t360,t361)))) = some (r1,r2,r3):=H
              have A64:=Aside0.mk A640
              clear A640
              replace H:=Option.bind_eq_some_iff.mp H
              obtain ⟨t362,A650,H⟩:=H
              replace H : (if t362 ≥ 0 then (some ((⟨#[114,97,110,103,101]⟩ : ByteArray),t360,true)) else (some ((⟨#[114,97,110,103,101]⟩ : ByteArray),t360,t361))) = some (r1,r2,r3):=H
              have A65:=Aside0.mk A650
              clear A650
              by_cases c66 : t362 ≥ 0
              ·rw [if_pos c66] at H
               have c66b0 : decide (0 ≤ t362) = true:=decide_eq_true c66
               clear c66
               simp only [Option.some.injEq,Prod.mk.injEq] at H
               obtain ⟨rfl,rfl,rfl⟩:=H
               go_wp2_with (first|((with_reducible refine gate_callee (f:=104) rfl ?_);refine goesL_ (some 110) rfl rfl Tryz.func104 (by kernel_rfl) rfl #[.pointer (some ⟨g,0,none⟩),.int .i64 0] rfl (by (try simp only [List.map_toArray,List.map_cons,List.map_nil]);first|done|rfl|(simp only [List.length_drop,List.length_take];rfl)) ?_;(with_reducible refine (spec_reader_peek.calls g s0_0 x1001_54 x1002_54 0 t359 t360 t361 w0 _ ?side1 ?side2 A64.out).mono ?_);(case side1 => repeat (first|(with_reducible first|exact HI0.out|apply sA|apply sB|apply sC|apply sD|apply sE)|exact HI0.out));(case side2 => repeat (first|(with_reducible first|exact HB.out|apply bA|apply bB|apply bC|refine bD ?_ (IsS115.ge HI0.out))|exact HB.out));rintro e w67 ⟨rfl,hi,hb,hk⟩;refine ⟨_,rfl,?_⟩;have n0_:=Aside0.mk (KeepBut.trans (by repeat (first|(with_reducible first|exact HK.out|apply kA|apply kB|apply kC|apply kD)|exact HK.out)) hk (.inl rfl));have n1_:=Aside0.mk (hb);have n2_:=Aside0.mk (hi);clear HK;clear HB;clear HI0;have HK:=n0_;have HB:=n1_;have HI0:=n2_;clear n0_ n1_ n2_;(try clear hb);(try clear hb2);(try clear hk);(try clear hi))|((with_reducible refine gate_callee (f:=111) rfl ?_);refine goesL_ (some 111) rfl rfl Tryz.func111 (by kernel_rfl) rfl #[.int .u8 t359] rfl (by (try simp only [List.map_toArray,List.map_cons,List.map_nil]);first|done|rfl|(simp only [List.length_drop,List.length_take];rfl)) ?_;(with_reducible refine (spec_hexValue.calls kj54 t359 t362 _ A65.out).mono ?_);rintro e w' ⟨rfl,⟨nd,rfl⟩⟩;refine ⟨_,rfl,?_⟩;(try (rw [drewN_self w67];generalize hq_ : World.drewN w67 _ = w67;have n0_ : Aside0 (IsS115 w0 w67 g s0_0 t360 t361):=⟨by rw [← hq_];exact (by repeat (first|(with_reducible first|exact HI0.out|apply sA|apply sB|apply sC|apply sD|apply sE)|exact HI0.out))⟩;have n1_ : Aside0 (KeepBut w w67 g none):=⟨by rw [← hq_];exact (by repeat (first|(with_reducible first|exact HK.out|apply kA|apply kB|apply kC|apply kD)|exact HK.out))⟩;have n2_ : Aside0 (Below w0.heap.size w0 w67):=⟨by rw [← hq_];exact (by repeat (first|(with_reducible first|exact HB.out|apply bA|apply bB|apply bC|refine bD ?_ (IsS115.ge HI0.out))|exact HB.out))⟩;clear HI0 HK HB hq_;have HI0:=n0_;have HK:=n1_;have HB:=n2_;clear n0_ n1_ n2_));obtain ⟨ASz68_0,cSz68_0,HGz68,hgz68,HSz68_0⟩:=HI0.out;have hcz68_0:=cellS115_0 HGz68;have hcz68_1:=cellS115_1 HGz68;have hcz68_2:=cellS115_2 HGz68;have hfz68_1:=blk_frozen HGz68 1;have hfz68_2:=blk_frozen HGz68 2;clear HGz68 hgz68))
               go_ret
               exact ⟨by first|rfl|(simp [errW_none,errW_some] <;> rfl)|(simp [*,errW_none,errW_some] <;> rfl),by repeat (first|(with_reducible first|exact HI0.out|apply sA|apply sB|apply sC|apply sD|apply sE)|exact HI0.out),by repeat (first|(with_reducible first|exact HB.out|apply bA|apply bB|apply bC|refine bD ?_ (IsS115.ge HI0.out))|exact HB.out),by repeat (first|(with_reducible first|exact HK.out|apply kA|apply kB|apply kC|apply kD)|exact HK.out)⟩
              ·rw [if_neg c66] at H
               have c66b0 : decide (0 ≤ t362) = false:=decide_eq_false c66
               clear c66
               simp only [Option.some.injEq,Prod.mk.injEq] at H
               obtain ⟨rfl,rfl,rfl⟩:=H
               go_wp2_with (first|((with_reducible refine gate_callee (f:=104) rfl ?_);refine goesL_ (some 110) rfl rfl Tryz.func104 (by kernel_rfl) rfl #[.pointer (some ⟨g,0,none⟩),.int .i64 0] rfl (by (try simp only [List.map_toArray,List.map_cons,List.map_nil]);first|done|rfl|(simp only [List.length_drop,List.length_take];rfl)) ?_;(with_reducible refine (spec_reader_peek.calls g s0_0 x1001_54 x1002_54 0 t359 t360 t361 w0 _ ?side1 ?side2 A64.out).mono ?_);(case side1 => repeat (first|(with_reducible first|exact HI0.out|apply sA|apply sB|apply sC|apply sD|apply sE)|exact HI0.out));(case side2 => repeat (first|(with_reducible first|exact HB.out|apply bA|apply bB|apply bC|refine bD ?_ (IsS115.ge HI0.out))|exact HB.out));rintro e w69 ⟨rfl,hi,hb,hk⟩;refine ⟨_,rfl,?_⟩;have n0_:=Aside0.mk (KeepBut.trans (by repeat (first|(with_reducible first|exact HK.out|apply kA|apply kB|apply kC|apply kD)|exact HK.out)) hk (.inl rfl));have n1_:=Aside0.mk (hb);have n2_:=Aside0.mk (hi);clear HK;clear HB;clear HI0;have HK:=n0_;have HB:=n1_;have HI0:=n2_;clear n0_ n1_ n2_;(try clear hb);(try clear hb2);(try clear hk);(try clear hi))|((with_reducible refine gate_callee (f:=111) rfl ?_);refine goesL_ (some 111) rfl rfl Tryz.func111 (by kernel_rfl) rfl #[.int .u8 t359] rfl (by (try simp only [List.map_toArray,List.map_cons,List.map_nil]);first|done|rfl|(simp only [List.length_drop,List.length_take];rfl)) ?_;(with_reducible refine (spec_hexValue.calls kj54 t359 t362 _ A65.out).mono ?_);rintro e w' ⟨rfl,⟨nd,rfl⟩⟩;refine ⟨_,rfl,?_⟩))
               go_ret
               exact ⟨by first|rfl|(simp [errW_none,errW_some] <;> rfl)|(simp [*,errW_none,errW_some] <;> rfl),by repeat (first|(with_reducible first|exact HI0.out|apply sA|apply sB|apply sC|apply sD|apply sE)|exact HI0.out),by repeat (first|(with_reducible first|exact HB.out|apply bA|apply bB|apply bC|refine bD ?_ (IsS115.ge HI0.out))|exact HB.out),by repeat (first|(with_reducible first|exact HK.out|apply kA|apply kB|apply kC|apply kD)|exact HK.out)⟩
           ·replace c54:=Bool.eq_false_iff.mpr c54
            subst c54
            have H1 : (some ((⟨#[114,97,110,103,101]⟩ : ByteArray),x1001_44,x1002_44)) = some (r1,r2,r3):=by rw [if_neg (show ¬ (false = true) by decide)] at H;exact H
            clear H
            have H:=H1
            clear H1
            simp only [Option.some.injEq,Prod.mk.injEq] at H
            obtain ⟨rfl,rfl,rfl⟩:=H
            go_wp2
            go_ret
            exact ⟨by first|rfl|(simp [errW_none,errW_some] <;> rfl)|(simp [*,errW_none,errW_some] <;> rfl),by repeat (first|(with_reducible first|exact HI0.out|apply sA|apply sB|apply sC|apply sD|apply sE)|exact HI0.out),by repeat (first|(with_reducible first|exact HB.out|apply bA|apply bB|apply bC|refine bD ?_ (IsS115.ge HI0.out))|exact HB.out),by repeat (first|(with_reducible first|exact HK.out|apply kA|apply kB|apply kC|apply kD)|exact HK.out)⟩
end Go.Proofs.YtlglijnaeaonpaaGreatDoor.PFnStyle
end
