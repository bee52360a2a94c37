/- FnStyle: a part of the proof (Mp); in it lines that print.sh printed, those that are used. -/
import Derived.Test.YtlglijnaeaonpaaGreatDoorMa
import Derived.Test.YtlglijnaeaonpaaGreatDoorMo
import Derived.Lib.RabinKarpLaws
section
set_option maxHeartbeats 8000000
set_option maxRecDepth 100000
set_option linter.unusedVariables false
set_option linter.unusedSimpArgs false
namespace Go.Proofs.YtlglijnaeaonpaaGreatDoor.PFnStyle
open Go.RowKit Go.Proofs.YtlglijnaeaonpaaGreatDoorW.PrintWords Go.Proofs.YtlglijnaeaonpaaGreatDoorW.PrintLast Go.Proofs.YtlglijnaeaonpaaGreatDoorW.PrintMore
attribute [local go_sem] max2_int min2_int max_two min_two max_three min_three max_four min_four
def spec_HasText.l0 : Nat → ByteArray → ByteArray → Int → Option (Bool)
 | 0,_,_,_ => none
 | k + 1,x0,x1,x5 => if (wrap64 (x5 + (x1.size : Int))) ≤ (x0.size : Int) then (if 0 ≤ x5 then (if x5 ≤ (wrap64 (x5 + (x1.size : Int))) then (if (x0.extract (x5 : Int).toNat ((wrap64 (x5 + (x1.size : Int))) : Int).toNat).toList = x1.toList then (some true) else (spec_HasText.l0 k x0 x1 (wrap64 (x5 + 1)))) else (none)) else (none)) else (some false)
def spec_HasText.f (k : Nat) (a0 : ByteArray) (a1 : ByteArray) : Option (Bool):=spec_HasText.l0 k a0 a1 0
theorem spec_HasText.calls (k : Nat) (a0 : ByteArray) (a1 : ByteArray) (r : Bool) (w : World) (h : spec_HasText.f k a0 a1 = some r) :
  Calls Tryz.prog 69 #[.string a0,.string a1] w fun e w' => e = .returned (.bool r) ∧ Drawn0 w w':=by
 have H : (spec_HasText.l0 k a0 a1 0) = some r:=h
 clear h
 have H':=Aside0.mk H
 clear H
 go_enter Tryz.func69,Tryz.ntmps69
 go_wp2
 go_loopg [5] k (fun kq v5 w' => ∃ (x5_1 : Int),v5 = .int .i64 x5_1 ∧ Aside0 (spec_HasText.l0 kq a0 a1 x5_1 = some r) ∧ Aside0 (kq ≤ k) ∧ Drawn0 w w')
 case atStart => exact ⟨(0),(by first|rfl|(simp;done)|(simp [*];done)),H',⟨Nat.le_refl _⟩,by repeat (first|exact Drawn0.refl _|apply Drawn0.step)⟩
 case round =>
  clear H'
  try clear p2
  obtain ⟨x5_1,rfl,HA,HK1,⟨m1,rfl⟩⟩:=hrel
  cases gk with
  | zero => exact absurd HA.out (by simp [spec_HasText.l0])
  | succ k1 =>
   have H:=HA.out
   clear HA
   simp only [spec_HasText.l0] at H
   by_cases c3 : (wrap64 (x5_1 + (a1.size : Int))) ≤ (a0.size : Int)
   ·rw [if_pos c3] at H
    have c3b0 : decide ((wrap64 (x5_1 + (a1.size : Int))) ≤ (a0.size : Int)) = true:=decide_eq_true c3
    clear c3
    by_cases c4 : 0 ≤ x5_1
    ·rw [if_pos c4] at H
     have c4b0:=eq_true c4
     have c4b1 : decide (0 ≤ x5_1) = true:=decide_eq_true c4
     clear c4
     by_cases c5 : x5_1 ≤ (wrap64 (x5_1 + (a1.size : Int)))
     ·rw [if_pos c5] at H
      have c5b0:=eq_true c5
      have c5b1 : decide (x5_1 ≤ (wrap64 (x5_1 + (a1.size : Int)))) = true:=decide_eq_true c5
      have c6b0:=eq_true (of_decide_eq_true (by first|(with_reducible assumption)|assumption) : (wrap64 (x5_1 + (a1.size : Int))) ≤ (a0.size : Int))
      by_cases c7 : (a0.extract (x5_1 : Int).toNat ((wrap64 (x5_1 + (a1.size : Int))) : Int).toNat).toList = a1.toList
      ·rw [if_pos c7] at H
       have c7b0 : ((a0.extract (x5_1 : Int).toNat ((wrap64 (x5_1 + (a1.size : Int))) : Int).toNat).toList == a1.toList) = true:=beq_iff_eq.mpr c7
       have c7b1 : ((a0.extract (x5_1 : Int).toNat ((wrap64 (x5_1 + (a1.size : Int))) : Int).toNat).toList != a1.toList) = false:=bne_eq_false_iff_eq.mpr c7
       clear c7
       obtain rfl:=Option.some.inj H
       go_wp2
       go_ret
       exact ⟨by first|rfl|(simp;done)|(simp [*];done),by repeat (first|exact Drawn0.refl _|apply Drawn0.step)⟩
      ·rw [if_neg c7] at H
       have c7b0 : ((a0.extract (x5_1 : Int).toNat ((wrap64 (x5_1 + (a1.size : Int))) : Int).toNat).toList == a1.toList) = false:=beq_eq_false_iff_ne.mpr c7
       have c7b1 : ((a0.extract (x5_1 : Int).toNat ((wrap64 (x5_1 + (a1.size : Int))) : Int).toNat).toList != a1.toList) = true:=bne_iff_ne.mpr c7
       have H':=Aside0.mk H
       clear H
       go_wp2
       go_roundg k1
       case measure => have:=HK1.out;omega
       case rel => exact ⟨(wrap64 (x5_1 + 1)),(by first|rfl|(simp;done)|(simp [*];done)),H',⟨by have:=HK1.out;omega⟩,by repeat (first|exact Drawn0.refl _|apply Drawn0.step)⟩
     ·rw [if_neg c5] at H
      exact absurd H (by simp)
    ·rw [if_neg c4] at H
     exact absurd H (by simp)
   ·rw [if_neg c3] at H
    have c3b0 : decide ((wrap64 (x5_1 + (a1.size : Int))) ≤ (a0.size : Int)) = false:=decide_eq_false c3
    clear c3
    obtain rfl:=Option.some.inj H
    go_wp2
    go_ret
    exact ⟨by first|rfl|(simp;done)|(simp [*];done),by repeat (first|exact Drawn0.refl _|apply Drawn0.step)⟩
mutual
def spec_closes.l0 : Nat → List ByteArray → List (S55) → Int → Int → Option (Bool)
 | 0,_,_,_,_ => none
 | k + 1,x3,x7,x8,x9 => if x9 < x8 then (if 0 ≤ x9 then (if x9 < (x7.length : Int) then (if ((rd_T55 x7 x9).f0).toList = ([40] : List UInt8) then (spec_closes.j1 k x3 x7 x8 x9 ((rd_T55 x7 x9).f0) (((rd_T55 x7 x9).f0).toList == ([40] : List UInt8)) ((rd_T55 x7 x9).f0) ((rd_T55 x7 x9).f1) ((rd_T55 x7 x9).f2) ((rd_T55 x7 x9).f3) ((rd_T55 x7 x9).f4) ((rd_T55 x7 x9).f5)) else (spec_closes.j1 k x3 x7 x8 x9 ((rd_T55 x7 x9).f0) (((rd_T55 x7 x9).f0).toList == ([102,117,110,99,116,105,111,110] : List UInt8)) ((rd_T55 x7 x9).f0) ((rd_T55 x7 x9).f1) ((rd_T55 x7 x9).f2) ((rd_T55 x7 x9).f3) ((rd_T55 x7 x9).f4) ((rd_T55 x7 x9).f5))) else (none)) else (none)) else (some ((x3.length : Int) == 0))
def spec_closes.j1 : Nat → List ByteArray → List (S55) → Int → Int → ByteArray → Bool → ByteArray → List Int → List Int → List Int → List Int → ByteArray → Option (Bool)
 | 0,_,_,_,_,_,_,_,_,_,_,_,_ => none
 | k + 1,x3,x7,x8,x9,x14,x15,x493000,x493001,x493002,x493003,x493004,x493005 => if x15 = true then (if x3.length < 8796093022208 then (spec_closes.l0 k (x3 ++ [(⟨#[41]⟩ : ByteArray)]) x7 x8 (wrap64 (x9 + 1))) else (none)) else (if x14.toList = ([91] : List UInt8) then (if x3.length < 8796093022208 then (spec_closes.l0 k (x3 ++ [(⟨#[93]⟩ : ByteArray)]) x7 x8 (wrap64 (x9 + 1))) else (none)) else (if x14.toList = ([41] : List UInt8) then (spec_closes.j2 k x3 x7 x8 x9 (x14.toList == ([41] : List UInt8)) x493000 x493001 x493002 x493003 x493004 x493005) else (spec_closes.j2 k x3 x7 x8 x9 (x14.toList == ([93] : List UInt8)) x493000 x493001 x493002 x493003 x493004 x493005)))
def spec_closes.j2 : Nat → List ByteArray → List (S55) → Int → Int → Bool → ByteArray → List Int → List Int → List Int → List Int → ByteArray → Option (Bool)
 | 0,_,_,_,_,_,_,_,_,_,_,_ => none
 | k + 1,x3,x7,x8,x9,x26,x493000,x493001,x493002,x493003,x493004,x493005 => if x26 = true then (if (x3.length : Int) = 0 then (some false) else (if 0 ≤ (wrap64 ((x3.length : Int) - 1)) then (if (wrap64 ((x3.length : Int) - 1)) < (x3.length : Int) then (if (rdOf ByteArray.empty x3 (wrap64 ((x3.length : Int) - 1))).toList = x493000.toList then (if (wrap64 ((x3.length : Int) - 1)) ≤ (x3.length : Int) then (spec_closes.l0 k (x3.take ((wrap64 ((x3.length : Int) - 1)) : Int).toNat) x7 x8 (wrap64 (x9 + 1))) else (none)) else (some false)) else (none)) else (none))) else (spec_closes.l0 k x3 x7 x8 (wrap64 (x9 + 1)))
end
def spec_closes.f (k : Nat) (l0 : List (S55)) : Option (Bool):=spec_closes.l0 k (([] : List ByteArray)) l0 (l0.length : Int) 0
theorem spec_closes.calls (k : Nat) (A0 : Option Addr) (c0 : Nat) (l0 : List (S55)) (r : Bool) (w : World) (hr0 : Kd.C k55 w A0 l0.length l0) (hc0 : l0.length ≤ c0) (h : spec_closes.f k l0 = some r) :
  Calls Tryz.prog 70 #[.slice A0 l0.length c0] w fun e w' => e = .returned (.bool r) ∧ Below w.heap.size w w':=by
 have hu55:=Tryz.underlying55
 have HR0:=Aside0.mk hr0
 have HC0:=Aside0.mk hc0
 clear hr0 hc0
 have HB:=Aside0.mk (Below.refl w.heap.size w)
 have H : (spec_closes.l0 k (([] : List ByteArray)) l0 (l0.length : Int) 0) = some r:=h
 clear h
 obtain ⟨y488,hy488⟩ : ∃ y_ : List ByteArray,y_ = (([] : List ByteArray)):=⟨_,rfl⟩
 replace H : (spec_closes.l0 k y488 l0 (l0.length : Int) 0) = some r:=by first|(rw [hy488];with_reducible exact H)|(have H2_:=(Option.bind_some _ _).symm.trans H;rw [hy488];with_reducible exact H2_)|(have H2_:=(Option.bind_some _ _).symm.trans H;with_reducible exact H2_)|with_reducible exact H|(rw [hy488];exact H)|exact H
 have Ny488:=Aside0.mk hy488
 clear hy488
 have H':=Aside0.mk H
 clear H
 go_enter Tryz.func70,Tryz.ntmps70
 go_wp2_with (first|((with_reducible refine gate_dst (N:=6) rfl ?_);(try (refine gate_guard (by rfl) ?_;dsimp only));refine Kd.R_lit Kd.string _ 9 ?hg (N:=6) ?hd (xs:=([] : List ByteArray)) (inner:=[]) (ok:=fun _ => True) (okp:=fun _ => True) ?hr ?hp (fun _ hk => hk) trivial (Below.refl _ _) (Nat.le_refl _) (by simp) ?_;(case hd => rfl);(case hg => rfl);(case hr => first|(go_simp;done)|(go_simp;rfl));(case hp => exact (Reps.none _ _));intro v489 w2 ho3 hb hg_ hnew_;clear hg_ hnew_;(first|rw [← Ny488.out] at ho3|(simp only [Int.reduceToNat] at ho3;rw [← Ny488.out] at ho3));have n0_:=Aside0.mk (Kd.R_lower ho3 (below_size (by repeat (first|(with_reducible first|exact HB.out|apply bA|apply bB|apply bC)|exact HB.out))));have n1_:=Aside0.mk (below_step (by repeat (first|(with_reducible first|exact HB.out|apply bA|apply bB|apply bC)|exact HB.out)) hb);clear HB;have HO490:=n0_;have HB:=n1_;clear n0_ n1_;clear hb ho3))
 repeat (go_quiet (first|((with_reducible refine gate_dst (N:=6) rfl ?_);(try (refine gate_guard (by rfl) ?_;dsimp only));refine Kd.R_lit Kd.string _ 9 ?hg (N:=6) ?hd (xs:=([] : List ByteArray)) (inner:=[]) (ok:=fun _ => True) (okp:=fun _ => True) ?hr ?hp (fun _ hk => hk) trivial (Below.refl _ _) (Nat.le_refl _) (by simp) ?_;(case hd => rfl);(case hg => rfl);(case hr => first|(go_simp;done)|(go_simp;rfl));(case hp => exact (Reps.none _ _));intro v489 w2 ho3 hb hg_ hnew_;clear hg_ hnew_;(first|rw [← Ny488.out] at ho3|(simp only [Int.reduceToNat] at ho3;rw [← Ny488.out] at ho3));have n0_:=Aside0.mk (Kd.R_lower ho3 (below_size (by repeat (first|(with_reducible first|exact HB.out|apply bA|apply bB|apply bC)|exact HB.out))));have n1_:=Aside0.mk (below_step (by repeat (first|(with_reducible first|exact HB.out|apply bA|apply bB|apply bC)|exact HB.out)) hb);clear HB;have HO490:=n0_;have HB:=n1_;clear n0_ n1_;clear hb ho3));try go_wp2_with (first|((with_reducible refine gate_dst (N:=6) rfl ?_);(try (refine gate_guard (by rfl) ?_;dsimp only));refine Kd.R_lit Kd.string _ 9 ?hg (N:=6) ?hd (xs:=([] : List ByteArray)) (inner:=[]) (ok:=fun _ => True) (okp:=fun _ => True) ?hr ?hp (fun _ hk => hk) trivial (Below.refl _ _) (Nat.le_refl _) (by simp) ?_;(case hd => rfl);(case hg => rfl);(case hr => first|(go_simp;done)|(go_simp;rfl));(case hp => exact (Reps.none _ _));intro v489 w2 ho3 hb hg_ hnew_;clear hg_ hnew_;(first|rw [← Ny488.out] at ho3|(simp only [Int.reduceToNat] at ho3;rw [← Ny488.out] at ho3));have n0_:=Aside0.mk (Kd.R_lower ho3 (below_size (by repeat (first|(with_reducible first|exact HB.out|apply bA|apply bB|apply bC)|exact HB.out))));have n1_:=Aside0.mk (below_step (by repeat (first|(with_reducible first|exact HB.out|apply bA|apply bB|apply bC)|exact HB.out)) hb);clear HB;have HO490:=n0_;have HB:=n1_;clear n0_ n1_;clear hb ho3)))
 go_loopg [3,9] k (fun kq v3 v9 w' => ∃ (x3_1 : List ByteArray) (x9_1 : Int),v9 = .int .i64 x9_1 ∧ Aside0 (spec_closes.l0 kq x3_1 l0 (l0.length : Int) x9_1 = some r) ∧ Aside0 (kq ≤ k) ∧ Aside0 (Kd.R Kd.string 9 w' w.heap.size (fun _ => True) v3 x3_1) ∧ Aside0 (Below w.heap.size w w'))
 case atStart => exact ⟨(y488),(0),(by first|rfl|(simp;done)|(simp [*];done)),H',⟨Nat.le_refl _⟩,⟨by (with_reducible repeat (first|apply Kd.R_alloc|apply Kd.R_drewN|apply Kd.R_drew));exact HO490.out⟩,⟨by repeat (first|(with_reducible first|exact HB.out|apply bA|apply bB|apply bC)|exact HB.out)⟩⟩
 case round =>
  clear H'
  try clear p2
  obtain ⟨x3_1,x9_1,rfl,HA,HK1,HO_3,HB⟩:=hrel
  cases gk with
  | zero => exact absurd HA.out (by simp [spec_closes.l0])
  | succ k1 =>
   have H:=HA.out
   clear HA
   simp only [spec_closes.l0] at H
   by_cases c4 : x9_1 < (l0.length : Int)
   ·rw [if_pos c4] at H
    have c4b0 : decide (x9_1 < (l0.length : Int)) = true:=decide_eq_true c4
    clear c4
    by_cases c5 : 0 ≤ x9_1
    ·rw [if_pos c5] at H
     have c5b0 : decide (0 ≤ x9_1) = true:=decide_eq_true c5
     clear c5
     by_cases c6 : x9_1 < (l0.length : Int)
     ·rw [if_pos c6] at H
      have c6b0 : decide (x9_1 < (l0.length : Int)) = true:=decide_eq_true c6
      clear c6
      have HC7:=Aside0.mk H
      clear H
      have p491 : 0 ≤ (x9_1 : Int):=of_decide_eq_true (by first|(with_reducible assumption)|assumption)
      have q491 : x9_1 < (l0.length : Int):=of_decide_eq_true (by first|(with_reducible assumption)|assumption)
      obtain ⟨ad491,A491_1,c491_1,A491_2,c491_2,A491_3,c491_3,A491_4,c491_4,e491,hx491_0,hx491_1,hx491_2,hx491_3,hx491_4,hx491_5,hl491_1,hi491_1,hl491_2,hi491_2,hl491_3,hi491_3,hl491_4,hi491_4⟩:=at_T55 HR0.out x9_1 p491 q491
      cases e491
      replace hx491_0:=(HB.out.cell (World.block_lt_of_cell? w _ hx491_0)).trans hx491_0
      replace hx491_1:=(HB.out.cell (World.block_lt_of_cell? w _ hx491_1)).trans hx491_1
      replace hx491_2:=(HB.out.cell (World.block_lt_of_cell? w _ hx491_2)).trans hx491_2
      replace hx491_3:=(HB.out.cell (World.block_lt_of_cell? w _ hx491_3)).trans hx491_3
      replace hx491_4:=(HB.out.cell (World.block_lt_of_cell? w _ hx491_4)).trans hx491_4
      replace hx491_5:=(HB.out.cell (World.block_lt_of_cell? w _ hx491_5)).trans hx491_5
      have HR491_1:=Aside0.mk hi491_1
      have HC491_1:=Aside0.mk hl491_1
      clear hi491_1 hl491_1
      have HR491_2:=Aside0.mk hi491_2
      have HC491_2:=Aside0.mk hl491_2
      clear hi491_2 hl491_2
      have HR491_3:=Aside0.mk hi491_3
      have HC491_3:=Aside0.mk hl491_3
      clear hi491_3 hl491_3
      have HR491_4:=Aside0.mk hi491_4
      have HC491_4:=Aside0.mk hl491_4
      clear hi491_4 hl491_4
      replace p491:=eq_true p491
      replace q491:=eq_true q491
      go_upto_if 15 with (first|((with_reducible refine gate_dst (N:=5) rfl ?_);(try (refine gate_guard (by rfl) ?_;dsimp only));refine box_event ?hg (N:=5) ?hd (cs:=#[.string (⟨#[]⟩ : ByteArray),.slice none 0 0,.slice none 0 0,.slice none 0 0,.slice none 0 0,.string (⟨#[]⟩ : ByteArray)]) (t:=55) ?hr ?_;(case hd => rfl);(case hg => rfl);(case hr => first|(go_simp;done)|(go_simp;rfl));intro gb492 hg w8 hbox hb;have n0_:=Aside0.mk (Kd.R_below (by (with_reducible repeat (first|apply Kd.R_alloc|apply Kd.R_drewN|apply Kd.R_drew));exact HO_3.out) hb);have n1_:=Aside0.mk (below_step (by repeat (first|(with_reducible first|exact HB.out|apply bA|apply bB|apply bC)|exact HB.out)) hb);have n2_:=Aside0.mk (hbox);have n3_:=Aside0.mk ((by rw [hg];exact (below_size (by repeat (first|(with_reducible first|exact HB.out|apply bA|apply bB|apply bC)|exact HB.out))) : w.heap.size ≤ gb492));have n4_:=Aside0.mk ((by rw [hg];exact (below_size (by repeat (first|(with_reducible first|exact HB.out|apply bA|apply bB|apply bC)|exact HB.out))) : w.heap.size ≤ gb492));clear HO_3;clear HB;have HO_3:=n0_;have HB:=n1_;have BK492:=n2_;have GW492:=n3_;have GE492:=n4_;clear n0_ n1_ n2_ n3_ n4_;clear hb hbox hg;have hcz9_0 : w8.cell? ⟨gb492,0,none⟩ = some (.string (⟨#[]⟩ : ByteArray)):=(blk_cell BK492.out 0).trans rfl;have hcz9_1 : w8.cell? ⟨gb492,1,none⟩ = some (.slice none 0 0):=(blk_cell BK492.out 1).trans rfl;have hcz9_2 : w8.cell? ⟨gb492,2,none⟩ = some (.slice none 0 0):=(blk_cell BK492.out 2).trans rfl;have hcz9_3 : w8.cell? ⟨gb492,3,none⟩ = some (.slice none 0 0):=(blk_cell BK492.out 3).trans rfl;have hcz9_4 : w8.cell? ⟨gb492,4,none⟩ = some (.slice none 0 0):=(blk_cell BK492.out 4).trans rfl;have hcz9_5 : w8.cell? ⟨gb492,5,none⟩ = some (.string (⟨#[]⟩ : ByteArray)):=(blk_cell BK492.out 5).trans rfl;have hfz9_0:=blk_frozen BK492.out 0;have hfz9_1:=blk_frozen BK492.out 1;have hfz9_2:=blk_frozen BK492.out 2;have hfz9_3:=blk_frozen BK492.out 3;have hfz9_4:=blk_frozen BK492.out 4;have hfz9_5:=blk_frozen BK492.out 5))
      repeat (go_quiet (first|((with_reducible refine gate_dst (N:=5) rfl ?_);(try (refine gate_guard (by rfl) ?_;dsimp only));refine box_event ?hg (N:=5) ?hd (cs:=#[.string (⟨#[]⟩ : ByteArray),.slice none 0 0,.slice none 0 0,.slice none 0 0,.slice none 0 0,.string (⟨#[]⟩ : ByteArray)]) (t:=55) ?hr ?_;(case hd => rfl);(case hg => rfl);(case hr => first|(go_simp;done)|(go_simp;rfl));intro gb492 hg w8 hbox hb;have n0_:=Aside0.mk (Kd.R_below (by (with_reducible repeat (first|apply Kd.R_alloc|apply Kd.R_drewN|apply Kd.R_drew));exact HO_3.out) hb);have n1_:=Aside0.mk (below_step (by repeat (first|(with_reducible first|exact HB.out|apply bA|apply bB|apply bC)|exact HB.out)) hb);have n2_:=Aside0.mk (hbox);have n3_:=Aside0.mk ((by rw [hg];exact (below_size (by repeat (first|(with_reducible first|exact HB.out|apply bA|apply bB|apply bC)|exact HB.out))) : w.heap.size ≤ gb492));have n4_:=Aside0.mk ((by rw [hg];exact (below_size (by repeat (first|(with_reducible first|exact HB.out|apply bA|apply bB|apply bC)|exact HB.out))) : w.heap.size ≤ gb492));clear HO_3;clear HB;have HO_3:=n0_;have HB:=n1_;have BK492:=n2_;have GW492:=n3_;have GE492:=n4_;clear n0_ n1_ n2_ n3_ n4_;clear hb hbox hg;have hcz9_0 : w8.cell? ⟨gb492,0,none⟩ = some (.string (⟨#[]⟩ : ByteArray)):=(blk_cell BK492.out 0).trans rfl;have hcz9_1 : w8.cell? ⟨gb492,1,none⟩ = some (.slice none 0 0):=(blk_cell BK492.out 1).trans rfl;have hcz9_2 : w8.cell? ⟨gb492,2,none⟩ = some (.slice none 0 0):=(blk_cell BK492.out 2).trans rfl;have hcz9_3 : w8.cell? ⟨gb492,3,none⟩ = some (.slice none 0 0):=(blk_cell BK492.out 3).trans rfl;have hcz9_4 : w8.cell? ⟨gb492,4,none⟩ = some (.slice none 0 0):=(blk_cell BK492.out 4).trans rfl;have hcz9_5 : w8.cell? ⟨gb492,5,none⟩ = some (.string (⟨#[]⟩ : ByteArray)):=(blk_cell BK492.out 5).trans rfl;have hfz9_0:=blk_frozen BK492.out 0;have hfz9_1:=blk_frozen BK492.out 1;have hfz9_2:=blk_frozen BK492.out 2;have hfz9_3:=blk_frozen BK492.out 3;have hfz9_4:=blk_frozen BK492.out 4;have hfz9_5:=blk_frozen BK492.out 5));go_upto_if 15 with (first|((with_reducible refine gate_dst (N:=5) rfl ?_);(try (refine gate_guard (by rfl) ?_;dsimp only));refine box_event ?hg (N:=5) ?hd (cs:=#[.string (⟨#[]⟩ : ByteArray),.slice none 0 0,.slice none 0 0,.slice none 0 0,.slice none 0 0,.string (⟨#[]⟩ : ByteArray)]) (t:=55) ?hr ?_;(case hd => rfl);(case hg => rfl);(case hr => first|(go_simp;done)|(go_simp;rfl));intro gb492 hg w8 hbox hb;have n0_:=Aside0.mk (Kd.R_below (by (with_reducible repeat (first|apply Kd.R_alloc|apply Kd.R_drewN|apply Kd.R_drew));exact HO_3.out) hb);have n1_:=Aside0.mk (below_step (by repeat (first|(with_reducible first|exact HB.out|apply bA|apply bB|apply bC)|exact HB.out)) hb);have n2_:=Aside0.mk (hbox);have n3_:=Aside0.mk ((by rw [hg];exact (below_size (by repeat (first|(with_reducible first|exact HB.out|apply bA|apply bB|apply bC)|exact HB.out))) : w.heap.size ≤ gb492));have n4_:=Aside0.mk ((by rw [hg];exact (below_size (by repeat (first|(with_reducible first|exact HB.out|apply bA|apply bB|apply bC)|exact HB.out))) : w.heap.size ≤ gb492));clear HO_3;clear HB;have HO_3:=n0_;have HB:=n1_;have BK492:=n2_;have GW492:=n3_;have GE492:=n4_;clear n0_ n1_ n2_ n3_ n4_;clear hb hbox hg;have hcz9_0 : w8.cell? ⟨gb492,0,none⟩ = some (.string (⟨#[]⟩ : ByteArray)):=(blk_cell BK492.out 0).trans rfl;have hcz9_1 : w8.cell? ⟨gb492,1,none⟩ = some (.slice none 0 0):=(blk_cell BK492.out 1).trans rfl;have hcz9_2 : w8.cell? ⟨gb492,2,none⟩ = some (.slice none 0 0):=(blk_cell BK492.out 2).trans rfl;have hcz9_3 : w8.cell? ⟨gb492,3,none⟩ = some (.slice none 0 0):=(blk_cell BK492.out 3).trans rfl;have hcz9_4 : w8.cell? ⟨gb492,4,none⟩ = some (.slice none 0 0):=(blk_cell BK492.out 4).trans rfl;have hcz9_5 : w8.cell? ⟨gb492,5,none⟩ = some (.string (⟨#[]⟩ : ByteArray)):=(blk_cell BK492.out 5).trans rfl;have hfz9_0:=blk_frozen BK492.out 0;have hfz9_1:=blk_frozen BK492.out 1;have hfz9_2:=blk_frozen BK492.out 2;have hfz9_3:=blk_frozen BK492.out 3;have hfz9_4:=blk_frozen BK492.out 4;have hfz9_5:=blk_frozen BK492.out 5)))
      (try simp only [Act.put,List.setIfInBounds_toArray,List.set_cons_zero,List.set_cons_succ])
      go_cut [15] (fun v15 wc => ∃ (kq : Nat) (x15_6 : Bool),v15 = .bool x15_6 ∧ Aside0 (spec_closes.j1 kq x3_1 l0 (l0.length : Int) x9_1 ((rd_T55 l0 x9_1).f0) x15_6 ((rd_T55 l0 x9_1).f0) ((rd_T55 l0 x9_1).f1) ((rd_T55 l0 x9_1).f2) ((rd_T55 l0 x9_1).f3) ((rd_T55 l0 x9_1).f4) ((rd_T55 l0 x9_1).f5) = some r) ∧ Aside0 (kq ≤ k1) ∧ Aside0 (Kd.R Kd.string 9 wc w.heap.size (fun _ => True) u3 x3_1) ∧ Aside0 (wc.heap[gb492]? = some (.cells #[.string ((rd_T55 l0 x9_1).f0),(.slice A491_1 ((rd_T55 l0 x9_1).f1).length c491_1),(.slice A491_2 ((rd_T55 l0 x9_1).f2).length c491_2),(.slice A491_3 ((rd_T55 l0 x9_1).f3).length c491_3),(.slice A491_4 ((rd_T55 l0 x9_1).f4).length c491_4),.string ((rd_T55 l0 x9_1).f5)] 55 (0,0))) ∧ Aside0 (Below w.heap.size w wc))
      case first =>
       have H:=HC7.out
       clear HC7
       by_cases c10 : ((rd_T55 l0 x9_1).f0).toList = ([40] : List UInt8)
       ·rw [if_pos c10] at H
        have c10b0 : (((rd_T55 l0 x9_1).f0).toList == ([40] : List UInt8)) = true:=beq_iff_eq.mpr c10
        have c10b1 : (((rd_T55 l0 x9_1).f0).toList != ([40] : List UInt8)) = false:=bne_eq_false_iff_eq.mpr c10
        clear c10
        (first|rw [c10b0]|(simp only [i64_w,i32_w];rw [c10b0])|skip)
        have H':=Aside0.mk H
        clear H
        go_wp2
        repeat (go_quiet (fail);try go_wp2)
        go_meet
        case rel => exact ⟨_,((((rd_T55 l0 x9_1).f0).toList == ([40] : List UInt8))),(by first|rfl|(simp;done)|(simp [*];done)),H',⟨by have:=HK1.out;first|omega|exact Nat.le_refl _⟩,⟨by (with_reducible repeat (first|apply Kd.R_alloc|apply Kd.R_drewN|apply Kd.R_drew));exact Kd.R_mono (Kd.R_far (p:=⟨gb492,5,none⟩) (Kd.R_far (p:=⟨gb492,4,none⟩) (Kd.R_far (p:=⟨gb492,3,none⟩) (Kd.R_far (p:=⟨gb492,2,none⟩) (Kd.R_far (p:=⟨gb492,1,none⟩) (Kd.R_far (p:=⟨gb492,0,none⟩) (Kd.R_types HO_3.out BK492.out (by decide)) (fun _ hk => hk.2) (.string ((rd_T55 l0 x9_1).f0))) (fun _ hk => hk.2) (.slice A491_1 ((rd_T55 l0 x9_1).f1).length c491_1)) (fun _ hk => hk.2) (.slice A491_2 ((rd_T55 l0 x9_1).f2).length c491_2)) (fun _ hk => hk.2) (.slice A491_3 ((rd_T55 l0 x9_1).f3).length c491_3)) (fun _ hk => hk.2) (.slice A491_4 ((rd_T55 l0 x9_1).f4).length c491_4)) (fun _ hk => hk.2) (.string ((rd_T55 l0 x9_1).f5))) (fun _ hk => trivial)⟩,⟨by (with_reducible repeat (first|refine blk_drewN ?_ _|refine blk_drew ?_|refine blk_alloc ?_ _));refine blk_put (cs:=#[.string ((rd_T55 l0 x9_1).f0),.slice A491_1 ((rd_T55 l0 x9_1).f1).length c491_1,.slice A491_2 ((rd_T55 l0 x9_1).f2).length c491_2,.slice A491_3 ((rd_T55 l0 x9_1).f3).length c491_3,.slice A491_4 ((rd_T55 l0 x9_1).f4).length c491_4,.string (⟨#[]⟩ : ByteArray)]) ?_ 5 _ rfl;(with_reducible repeat (first|refine blk_drewN ?_ _|refine blk_drew ?_|refine blk_alloc ?_ _));refine blk_put (cs:=#[.string ((rd_T55 l0 x9_1).f0),.slice A491_1 ((rd_T55 l0 x9_1).f1).length c491_1,.slice A491_2 ((rd_T55 l0 x9_1).f2).length c491_2,.slice A491_3 ((rd_T55 l0 x9_1).f3).length c491_3,.slice none 0 0,.string (⟨#[]⟩ : ByteArray)]) ?_ 4 _ rfl;(with_reducible repeat (first|refine blk_drewN ?_ _|refine blk_drew ?_|refine blk_alloc ?_ _));refine blk_put (cs:=#[.string ((rd_T55 l0 x9_1).f0),.slice A491_1 ((rd_T55 l0 x9_1).f1).length c491_1,.slice A491_2 ((rd_T55 l0 x9_1).f2).length c491_2,.slice none 0 0,.slice none 0 0,.string (⟨#[]⟩ : ByteArray)]) ?_ 3 _ rfl;(with_reducible repeat (first|refine blk_drewN ?_ _|refine blk_drew ?_|refine blk_alloc ?_ _));refine blk_put (cs:=#[.string ((rd_T55 l0 x9_1).f0),.slice A491_1 ((rd_T55 l0 x9_1).f1).length c491_1,.slice none 0 0,.slice none 0 0,.slice none 0 0,.string (⟨#[]⟩ : ByteArray)]) ?_ 2 _ rfl;(with_reducible repeat (first|refine blk_drewN ?_ _|refine blk_drew ?_|refine blk_alloc ?_ _));refine blk_put (cs:=#[.string ((rd_T55 l0 x9_1).f0),.slice none 0 0,.slice none 0 0,.slice none 0 0,.slice none 0 0,.string (⟨#[]⟩ : ByteArray)]) ?_ 1 _ rfl;(with_reducible repeat (first|refine blk_drewN ?_ _|refine blk_drew ?_|refine blk_alloc ?_ _));refine blk_put (cs:=#[.string (⟨#[]⟩ : ByteArray),.slice none 0 0,.slice none 0 0,.slice none 0 0,.slice none 0 0,.string (⟨#[]⟩ : ByteArray)]) ?_ 0 _ rfl;(with_reducible repeat (first|refine blk_drewN ?_ _|refine blk_drew ?_|refine blk_alloc ?_ _));exact BK492.out⟩,⟨by repeat (first|(with_reducible first|exact HB.out|apply bA|apply bB|apply bC|refine bD ?_ GE492.out)|exact HB.out)⟩⟩
       ·rw [if_neg c10] at H
        have c10b0 : (((rd_T55 l0 x9_1).f0).toList == ([40] : List UInt8)) = false:=beq_eq_false_iff_ne.mpr c10
        have c10b1 : (((rd_T55 l0 x9_1).f0).toList != ([40] : List UInt8)) = true:=bne_iff_ne.mpr c10
        (first|rw [c10b0]|(simp only [i64_w,i32_w];rw [c10b0])|skip)
        have H':=Aside0.mk H
        clear H
        go_wp2
        repeat (go_quiet (fail);try go_wp2)
        go_meet
        case rel => exact ⟨_,((((rd_T55 l0 x9_1).f0).toList == ([102,117,110,99,116,105,111,110] : List UInt8))),(by first|rfl|(simp;done)|(simp [*];done)),H',⟨by have:=HK1.out;first|omega|exact Nat.le_refl _⟩,⟨by (with_reducible repeat (first|apply Kd.R_alloc|apply Kd.R_drewN|apply Kd.R_drew));exact Kd.R_mono (Kd.R_far (p:=⟨gb492,5,none⟩) (Kd.R_far (p:=⟨gb492,4,none⟩) (Kd.R_far (p:=⟨gb492,3,none⟩) (Kd.R_far (p:=⟨gb492,2,none⟩) (Kd.R_far (p:=⟨gb492,1,none⟩) (Kd.R_far (p:=⟨gb492,0,none⟩) (Kd.R_types HO_3.out BK492.out (by decide)) (fun _ hk => hk.2) (.string ((rd_T55 l0 x9_1).f0))) (fun _ hk => hk.2) (.slice A491_1 ((rd_T55 l0 x9_1).f1).length c491_1)) (fun _ hk => hk.2) (.slice A491_2 ((rd_T55 l0 x9_1).f2).length c491_2)) (fun _ hk => hk.2) (.slice A491_3 ((rd_T55 l0 x9_1).f3).length c491_3)) (fun _ hk => hk.2) (.slice A491_4 ((rd_T55 l0 x9_1).f4).length c491_4)) (fun _ hk => hk.2) (.string ((rd_T55 l0 x9_1).f5))) (fun _ hk => trivial)⟩,⟨by (with_reducible repeat (first|refine blk_drewN ?_ _|refine blk_drew ?_|refine blk_alloc ?_ _));refine blk_put (cs:=#[.string ((rd_T55 l0 x9_1).f0),.slice A491_1 ((rd_T55 l0 x9_1).f1).length c491_1,.slice A491_2 ((rd_T55 l0 x9_1).f2).length c491_2,.slice A491_3 ((rd_T55 l0 x9_1).f3).length c491_3,.slice A491_4 ((rd_T55 l0 x9_1).f4).length c491_4,.string (⟨#[]⟩ : ByteArray)]) ?_ 5 _ rfl;(with_reducible repeat (first|refine blk_drewN ?_ _|refine blk_drew ?_|refine blk_alloc ?_ _));refine blk_put (cs:=#[.string ((rd_T55 l0 x9_1).f0),.slice A491_1 ((rd_T55 l0 x9_1).f1).length c491_1,.slice A491_2 ((rd_T55 l0 x9_1).f2).length c491_2,.slice A491_3 ((rd_T55 l0 x9_1).f3).length c491_3,.slice none 0 0,.string (⟨#[]⟩ : ByteArray)]) ?_ 4 _ rfl;(with_reducible repeat (first|refine blk_drewN ?_ _|refine blk_drew ?_|refine blk_alloc ?_ _));refine blk_put (cs:=#[.string ((rd_T55 l0 x9_1).f0),.slice A491_1 ((rd_T55 l0 x9_1).f1).length c491_1,.slice A491_2 ((rd_T55 l0 x9_1).f2).length c491_2,.slice none 0 0,.slice none 0 0,.string (⟨#[]⟩ : ByteArray)]) ?_ 3 _ rfl;(with_reducible repeat (first|refine blk_drewN ?_ _|refine blk_drew ?_|refine blk_alloc ?_ _));refine blk_put (cs:=#[.string ((rd_T55 l0 x9_1).f0),.slice A491_1 ((rd_T55 l0 x9_1).f1).length c491_1,.slice none 0 0,.slice none 0 0,.slice none 0 0,.string (⟨#[]⟩ : ByteArray)]) ?_ 2 _ rfl;(with_reducible repeat (first|refine blk_drewN ?_ _|refine blk_drew ?_|refine blk_alloc ?_ _));refine blk_put (cs:=#[.string ((rd_T55 l0 x9_1).f0),.slice none 0 0,.slice none 0 0,.slice none 0 0,.slice none 0 0,.string (⟨#[]⟩ : ByteArray)]) ?_ 1 _ rfl;(with_reducible repeat (first|refine blk_drewN ?_ _|refine blk_drew ?_|refine blk_alloc ?_ _));refine blk_put (cs:=#[.string (⟨#[]⟩ : ByteArray),.slice none 0 0,.slice none 0 0,.slice none 0 0,.slice none 0 0,.string (⟨#[]⟩ : ByteArray)]) ?_ 0 _ rfl;(with_reducible repeat (first|refine blk_drewN ?_ _|refine blk_drew ?_|refine blk_alloc ?_ _));exact BK492.out⟩,⟨by repeat (first|(with_reducible first|exact HB.out|apply bA|apply bB|apply bC|refine bD ?_ GE492.out)|exact HB.out)⟩⟩
      case rest =>
       clear HC7
       try clear c1
       try clear p2
       try clear c4
       try clear c4b0
       try clear p4
       try clear q4
       try clear hx4
       try clear c5
       try clear c5b0
       try clear c6
       try clear c6b0
       try clear c7
       try clear c10
       try clear c10b0
       try clear c10b1
       try clear hcz9_0
       try clear hcz9_1
       try clear hcz9_2
       try clear hcz9_3
       try clear hcz9_4
       try clear hcz9_5
       try clear hfz9_0
       try clear hfz9_1
       try clear hfz9_2
       try clear hfz9_3
       try clear hfz9_4
       try clear hfz9_5
       try clear hx491_0
       try clear hx491_1
       try clear hx491_2
       try clear hx491_3
       try clear hx491_4
       try clear hx491_5
       try clear p2
       try clear p491
       try clear q491
       obtain ⟨kq,x15_6,rfl,HA,HJ6,HO_3,BK492,HB⟩:=hcut
       cases kq with
       | zero => exact absurd HA.out (by simp [spec_closes.j1])
       | succ kj6 =>
        have H:=HA.out
        clear HA
        simp only [spec_closes.j1] at H
        by_cases c11 : x15_6 = true
        ·subst c11
         have H1 : (if x3_1.length < 8796093022208 then (spec_closes.l0 kj6 (x3_1 ++ [(⟨#[41]⟩ : ByteArray)]) l0 (l0.length : Int) (wrap64 (x9_1 + 1))) else (none)) = some r:=by rw [if_pos rfl] at H;exact H
         clear H
         have H:=H1
         clear H1
         by_cases c12 : x3_1.length < 8796093022208
         ·rw [if_pos c12] at H
          have LMc12:=Aside0.mk c12
          clear c12
          obtain ⟨y493,hy493⟩ : ∃ y_ : List ByteArray,y_ = (x3_1 ++ [(⟨#[41]⟩ : ByteArray)]):=⟨_,rfl⟩
          replace H : (spec_closes.l0 kj6 y493 l0 (l0.length : Int) (wrap64 (x9_1 + 1))) = some r:=by first|(rw [hy493];with_reducible exact H)|(have H2_:=(Option.bind_some _ _).symm.trans H;rw [hy493];with_reducible exact H2_)|(have H2_:=(Option.bind_some _ _).symm.trans H;with_reducible exact H2_)|with_reducible exact H|(rw [hy493];exact H)|exact H
          have Ny493:=Aside0.mk hy493
          clear hy493
          have H':=Aside0.mk H
          clear H
          go_wp2_with (first|((with_reducible refine gate_builtin (b:=.append) (xs:=#[.tmp 18,.tmp 19]) rfl ?_);(try (refine gate_guard (by rfl) ?_;dsimp only));at_builtin;refine Kd.R_append Kd.string (w0:=w) w.heap.size rfl (.tmp 18) (.tmp 19) 73 9 (.string ⟨#[]⟩) 16 rfl Tryz.underlying73 info9 rfl (by decide) (by omega) u3 x3_1 (⟨#[41]⟩ : ByteArray) [.string (⟨#[41]⟩ : ByteArray)] (fun _ => True) (fun _ => False) rfl rfl ?aP (fun _ hk => hk.elim) ?aF ?aO ?aB ?aS ?aL ?_;(case aP => exact rfl);(case aB => exact (by repeat (first|(with_reducible first|exact HB.out|apply bA|apply bB|apply bC|refine bD ?_ GE492.out)|exact HB.out)));(case aF => exact (fun _ _ => trivial));(case aO => exact (by (with_reducible repeat (first|apply Kd.R_alloc|apply Kd.R_drewN|apply Kd.R_drew));exact HO_3.out));(case aS => exact (below_size (by repeat (first|(with_reducible first|exact HB.out|apply bA|apply bB|apply bC|refine bD ?_ GE492.out)|exact HB.out))));(case aL => have:=LMc12.out;omega);intro v494 w13 ho hb hg hat;rw [← Ny493.out] at ho;have n0_:=Aside0.mk (blk_grown (g:=gb492) (o:=.cells #[.string ((rd_T55 l0 x9_1).f0),.slice A491_1 ((rd_T55 l0 x9_1).f1).length c491_1,.slice A491_2 ((rd_T55 l0 x9_1).f2).length c491_2,.slice A491_3 ((rd_T55 l0 x9_1).f3).length c491_3,.slice A491_4 ((rd_T55 l0 x9_1).f4).length c491_4,.string ((rd_T55 l0 x9_1).f5)] 55 (0,0)) (by (with_reducible repeat (first|refine blk_drewN ?_ _|refine blk_drew ?_|refine blk_alloc ?_ _));exact BK492.out) hg (Kd.R_ne HO_3.out BK492.out (by decide)));have n1_:=Aside0.mk (hb);have n2_:=Aside0.mk (ho);clear BK492;clear HB;clear HO_3;have BK492:=n0_;have HB:=n1_;have HO495:=n2_;clear n0_ n1_ n2_;clear ho hb hg hat))
          repeat (go_quiet (first|((with_reducible refine gate_builtin (b:=.append) (xs:=#[.tmp 18,.tmp 19]) rfl ?_);(try (refine gate_guard (by rfl) ?_;dsimp only));at_builtin;refine Kd.R_append Kd.string (w0:=w) w.heap.size rfl (.tmp 18) (.tmp 19) 73 9 (.string ⟨#[]⟩) 16 rfl Tryz.underlying73 info9 rfl (by decide) (by omega) u3 x3_1 (⟨#[41]⟩ : ByteArray) [.string (⟨#[41]⟩ : ByteArray)] (fun _ => True) (fun _ => False) rfl rfl ?aP (fun _ hk => hk.elim) ?aF ?aO ?aB ?aS ?aL ?_;(case aP => exact rfl);(case aB => exact (by repeat (first|(with_reducible first|exact HB.out|apply bA|apply bB|apply bC|refine bD ?_ GE492.out)|exact HB.out)));(case aF => exact (fun _ _ => trivial));(case aO => exact (by (with_reducible repeat (first|apply Kd.R_alloc|apply Kd.R_drewN|apply Kd.R_drew));exact HO_3.out));(case aS => exact (below_size (by repeat (first|(with_reducible first|exact HB.out|apply bA|apply bB|apply bC|refine bD ?_ GE492.out)|exact HB.out))));(case aL => have:=LMc12.out;omega);intro v494 w13 ho hb hg hat;rw [← Ny493.out] at ho;have n0_:=Aside0.mk (blk_grown (g:=gb492) (o:=.cells #[.string ((rd_T55 l0 x9_1).f0),.slice A491_1 ((rd_T55 l0 x9_1).f1).length c491_1,.slice A491_2 ((rd_T55 l0 x9_1).f2).length c491_2,.slice A491_3 ((rd_T55 l0 x9_1).f3).length c491_3,.slice A491_4 ((rd_T55 l0 x9_1).f4).length c491_4,.string ((rd_T55 l0 x9_1).f5)] 55 (0,0)) (by (with_reducible repeat (first|refine blk_drewN ?_ _|refine blk_drew ?_|refine blk_alloc ?_ _));exact BK492.out) hg (Kd.R_ne HO_3.out BK492.out (by decide)));have n1_:=Aside0.mk (hb);have n2_:=Aside0.mk (ho);clear BK492;clear HB;clear HO_3;have BK492:=n0_;have HB:=n1_;have HO495:=n2_;clear n0_ n1_ n2_;clear ho hb hg hat));try go_wp2_with (first|((with_reducible refine gate_builtin (b:=.append) (xs:=#[.tmp 18,.tmp 19]) rfl ?_);(try (refine gate_guard (by rfl) ?_;dsimp only));at_builtin;refine Kd.R_append Kd.string (w0:=w) w.heap.size rfl (.tmp 18) (.tmp 19) 73 9 (.string ⟨#[]⟩) 16 rfl Tryz.underlying73 info9 rfl (by decide) (by omega) u3 x3_1 (⟨#[41]⟩ : ByteArray) [.string (⟨#[41]⟩ : ByteArray)] (fun _ => True) (fun _ => False) rfl rfl ?aP (fun _ hk => hk.elim) ?aF ?aO ?aB ?aS ?aL ?_;(case aP => exact rfl);(case aB => exact (by repeat (first|(with_reducible first|exact HB.out|apply bA|apply bB|apply bC|refine bD ?_ GE492.out)|exact HB.out)));(case aF => exact (fun _ _ => trivial));(case aO => exact (by (with_reducible repeat (first|apply Kd.R_alloc|apply Kd.R_drewN|apply Kd.R_drew));exact HO_3.out));(case aS => exact (below_size (by repeat (first|(with_reducible first|exact HB.out|apply bA|apply bB|apply bC|refine bD ?_ GE492.out)|exact HB.out))));(case aL => have:=LMc12.out;omega);intro v494 w13 ho hb hg hat;rw [← Ny493.out] at ho;have n0_:=Aside0.mk (blk_grown (g:=gb492) (o:=.cells #[.string ((rd_T55 l0 x9_1).f0),.slice A491_1 ((rd_T55 l0 x9_1).f1).length c491_1,.slice A491_2 ((rd_T55 l0 x9_1).f2).length c491_2,.slice A491_3 ((rd_T55 l0 x9_1).f3).length c491_3,.slice A491_4 ((rd_T55 l0 x9_1).f4).length c491_4,.string ((rd_T55 l0 x9_1).f5)] 55 (0,0)) (by (with_reducible repeat (first|refine blk_drewN ?_ _|refine blk_drew ?_|refine blk_alloc ?_ _));exact BK492.out) hg (Kd.R_ne HO_3.out BK492.out (by decide)));have n1_:=Aside0.mk (hb);have n2_:=Aside0.mk (ho);clear BK492;clear HB;clear HO_3;have BK492:=n0_;have HB:=n1_;have HO495:=n2_;clear n0_ n1_ n2_;clear ho hb hg hat)))
          go_roundg kj6
          case measure => have:=HK1.out;have:=HJ6.out;omega
          case rel => exact ⟨(y493),(wrap64 (x9_1 + 1)),(by first|rfl|(simp;done)|(simp [*];done)),H',⟨by have:=HK1.out;have:=HJ6.out;omega⟩,⟨by (with_reducible repeat (first|apply Kd.R_alloc|apply Kd.R_drewN|apply Kd.R_drew));exact HO495.out⟩,⟨by repeat (first|(with_reducible first|exact HB.out|apply bA|apply bB|apply bC|refine bD ?_ GE492.out)|exact HB.out)⟩⟩
         ·rw [if_neg c12] at H
          exact absurd H (by simp)
        ·replace c11:=Bool.eq_false_iff.mpr c11
         subst c11
         have H1 : (if ((rd_T55 l0 x9_1).f0).toList = ([91] : List UInt8) then (if x3_1.length < 8796093022208 then (spec_closes.l0 kj6 (x3_1 ++ [(⟨#[93]⟩ : ByteArray)]) l0 (l0.length : Int) (wrap64 (x9_1 + 1))) else (none)) else (if ((rd_T55 l0 x9_1).f0).toList = ([41] : List UInt8) then (spec_closes.j2 kj6 x3_1 l0 (l0.length : Int) x9_1 (((rd_T55 l0 x9_1).f0).toList == ([41] : List UInt8)) ((rd_T55 l0 x9_1).f0) ((rd_T55 l0 x9_1).f1) ((rd_T55 l0 x9_1).f2) ((rd_T55 l0 x9_1).f3) ((rd_T55 l0 x9_1).f4) ((rd_T55 l0 x9_1).f5)) else (spec_closes.j2 kj6 x3_1 l0 (l0.length : Int) x9_1 (((rd_T55 l0 x9_1).f0).toList == ([93] : List UInt8)) ((rd_T55 l0 x9_1).f0) ((rd_T55 l0 x9_1).f1) ((rd_T55 l0 x9_1).f2) ((rd_T55 l0 x9_1).f3) ((rd_T55 l0 x9_1).f4) ((rd_T55 l0 x9_1).f5)))) = some r:=by rw [if_neg (show ¬ (false = true) by decide)] at H;exact H
         clear H
         have H:=H1
         clear H1
         by_cases c14 : ((rd_T55 l0 x9_1).f0).toList = ([91] : List UInt8)
         ·rw [if_pos c14] at H
          have c14b0 : (((rd_T55 l0 x9_1).f0).toList == ([91] : List UInt8)) = true:=beq_iff_eq.mpr c14
          have c14b1 : (((rd_T55 l0 x9_1).f0).toList != ([91] : List UInt8)) = false:=bne_eq_false_iff_eq.mpr c14
          clear c14
          by_cases c15 : x3_1.length < 8796093022208
          ·rw [if_pos c15] at H
           have LMc15:=Aside0.mk c15
           clear c15
           obtain ⟨y496,hy496⟩ : ∃ y_ : List ByteArray,y_ = (x3_1 ++ [(⟨#[93]⟩ : ByteArray)]):=⟨_,rfl⟩
           replace H : (spec_closes.l0 kj6 y496 l0 (l0.length : Int) (wrap64 (x9_1 + 1))) = some r:=by first|(rw [hy496];with_reducible exact H)|(have H2_:=(Option.bind_some _ _).symm.trans H;rw [hy496];with_reducible exact H2_)|(have H2_:=(Option.bind_some _ _).symm.trans H;with_reducible exact H2_)|with_reducible exact H|(rw [hy496];exact H)|exact H
           have Ny496:=Aside0.mk hy496
           clear hy496
           have H':=Aside0.mk H
           clear H
           go_wp2_with (first|((with_reducible refine gate_builtin (b:=.append) (xs:=#[.tmp 23,.tmp 24]) rfl ?_);(try (refine gate_guard (by rfl) ?_;dsimp only));at_builtin;refine Kd.R_append Kd.string (w0:=w) w.heap.size rfl (.tmp 23) (.tmp 24) 73 9 (.string ⟨#[]⟩) 16 rfl Tryz.underlying73 info9 rfl (by decide) (by omega) u3 x3_1 (⟨#[93]⟩ : ByteArray) [.string (⟨#[93]⟩ : ByteArray)] (fun _ => True) (fun _ => False) rfl rfl ?aP (fun _ hk => hk.elim) ?aF ?aO ?aB ?aS ?aL ?_;(case aP => exact rfl);(case aB => exact (by repeat (first|(with_reducible first|exact HB.out|apply bA|apply bB|apply bC|refine bD ?_ GE492.out)|exact HB.out)));(case aF => exact (fun _ _ => trivial));(case aO => exact (by (with_reducible repeat (first|apply Kd.R_alloc|apply Kd.R_drewN|apply Kd.R_drew));exact HO_3.out));(case aS => exact (below_size (by repeat (first|(with_reducible first|exact HB.out|apply bA|apply bB|apply bC|refine bD ?_ GE492.out)|exact HB.out))));(case aL => have:=LMc15.out;omega);intro v497 w16 ho hb hg hat;rw [← Ny496.out] at ho;have n0_:=Aside0.mk (blk_grown (g:=gb492) (o:=.cells #[.string ((rd_T55 l0 x9_1).f0),.slice A491_1 ((rd_T55 l0 x9_1).f1).length c491_1,.slice A491_2 ((rd_T55 l0 x9_1).f2).length c491_2,.slice A491_3 ((rd_T55 l0 x9_1).f3).length c491_3,.slice A491_4 ((rd_T55 l0 x9_1).f4).length c491_4,.string ((rd_T55 l0 x9_1).f5)] 55 (0,0)) (by (with_reducible repeat (first|refine blk_drewN ?_ _|refine blk_drew ?_|refine blk_alloc ?_ _));exact BK492.out) hg (Kd.R_ne HO_3.out BK492.out (by decide)));have n1_:=Aside0.mk (hb);have n2_:=Aside0.mk (ho);clear BK492;clear HB;clear HO_3;have BK492:=n0_;have HB:=n1_;have HO498:=n2_;clear n0_ n1_ n2_;clear ho hb hg hat))
           repeat (go_quiet (first|((with_reducible refine gate_builtin (b:=.append) (xs:=#[.tmp 23,.tmp 24]) rfl ?_);(try (refine gate_guard (by rfl) ?_;dsimp only));at_builtin;refine Kd.R_append Kd.string (w0:=w) w.heap.size rfl (.tmp 23) (.tmp 24) 73 9 (.string ⟨#[]⟩) 16 rfl Tryz.underlying73 info9 rfl (by decide) (by omega) u3 x3_1 (⟨#[93]⟩ : ByteArray) [.string (⟨#[93]⟩ : ByteArray)] (fun _ => True) (fun _ => False) rfl rfl ?aP (fun _ hk => hk.elim) ?aF ?aO ?aB ?aS ?aL ?_;(case aP => exact rfl);(case aB => exact (by repeat (first|(with_reducible first|exact HB.out|apply bA|apply bB|apply bC|refine bD ?_ GE492.out)|exact HB.out)));(case aF => exact (fun _ _ => trivial));(case aO => exact (by (with_reducible repeat (first|apply Kd.R_alloc|apply Kd.R_drewN|apply Kd.R_drew));exact HO_3.out));(case aS => exact (below_size (by repeat (first|(with_reducible first|exact HB.out|apply bA|apply bB|apply bC|refine bD ?_ GE492.out)|exact HB.out))));(case aL => have:=LMc15.out;omega);intro v497 w16 ho hb hg hat;rw [← Ny496.out] at ho;have n0_:=Aside0.mk (blk_grown (g:=gb492) (o:=.cells #[.string ((rd_T55 l0 x9_1).f0),.slice A491_1 ((rd_T55 l0 x9_1).f1).length c491_1,.slice A491_2 ((rd_T55 l0 x9_1).f2).length c491_2,.slice A491_3 ((rd_T55 l0 x9_1).f3).length c491_3,.slice A491_4 ((rd_T55 l0 x9_1).f4).length c491_4,.string ((rd_T55 l0 x9_1).f5)] 55 (0,0)) (by (with_reducible repeat (first|refine blk_drewN ?_ _|refine blk_drew ?_|refine blk_alloc ?_ _));exact BK492.out) hg (Kd.R_ne HO_3.out BK492.out (by decide)));have n1_:=Aside0.mk (hb);have n2_:=Aside0.mk (ho);clear BK492;clear HB;clear HO_3;have BK492:=n0_;have HB:=n1_;have HO498:=n2_;clear n0_ n1_ n2_;clear ho hb hg hat));try go_wp2_with (first|((with_reducible refine gate_builtin (b:=.append) (xs:=#[.tmp 23,.tmp 24]) rfl ?_);(try (refine gate_guard (by rfl) ?_;dsimp only));at_builtin;refine Kd.R_append Kd.string (w0:=w) w.heap.size rfl (.tmp 23) (.tmp 24) 73 9 (.string ⟨#[]⟩) 16 rfl Tryz.underlying73 info9 rfl (by decide) (by omega) u3 x3_1 (⟨#[93]⟩ : ByteArray) [.string (⟨#[93]⟩ : ByteArray)] (fun _ => True) (fun _ => False) rfl rfl ?aP (fun _ hk => hk.elim) ?aF ?aO ?aB ?aS ?aL ?_;(case aP => exact rfl);(case aB => exact (by repeat (first|(with_reducible first|exact HB.out|apply bA|apply bB|apply bC|refine bD ?_ GE492.out)|exact HB.out)));(case aF => exact (fun _ _ => trivial));(case aO => exact (by (with_reducible repeat (first|apply Kd.R_alloc|apply Kd.R_drewN|apply Kd.R_drew));exact HO_3.out));(case aS => exact (below_size (by repeat (first|(with_reducible first|exact HB.out|apply bA|apply bB|apply bC|refine bD ?_ GE492.out)|exact HB.out))));(case aL => have:=LMc15.out;omega);intro v497 w16 ho hb hg hat;rw [← Ny496.out] at ho;have n0_:=Aside0.mk (blk_grown (g:=gb492) (o:=.cells #[.string ((rd_T55 l0 x9_1).f0),.slice A491_1 ((rd_T55 l0 x9_1).f1).length c491_1,.slice A491_2 ((rd_T55 l0 x9_1).f2).length c491_2,.slice A491_3 ((rd_T55 l0 x9_1).f3).length c491_3,.slice A491_4 ((rd_T55 l0 x9_1).f4).length c491_4,.string ((rd_T55 l0 x9_1).f5)] 55 (0,0)) (by (with_reducible repeat (first|refine blk_drewN ?_ _|refine blk_drew ?_|refine blk_alloc ?_ _));exact BK492.out) hg (Kd.R_ne HO_3.out BK492.out (by decide)));have n1_:=Aside0.mk (hb);have n2_:=Aside0.mk (ho);clear BK492;clear HB;clear HO_3;have BK492:=n0_;have HB:=n1_;have HO498:=n2_;clear n0_ n1_ n2_;clear ho hb hg hat)))
           go_roundg kj6
           case measure => have:=HK1.out;have:=HJ6.out;omega
           case rel => exact ⟨(y496),(wrap64 (x9_1 + 1)),(by first|rfl|(simp;done)|(simp [*];done)),H',⟨by have:=HK1.out;have:=HJ6.out;omega⟩,⟨by (with_reducible repeat (first|apply Kd.R_alloc|apply Kd.R_drewN|apply Kd.R_drew));exact HO498.out⟩,⟨by repeat (first|(with_reducible first|exact HB.out|apply bA|apply bB|apply bC|refine bD ?_ GE492.out)|exact HB.out)⟩⟩
          ·rw [if_neg c15] at H
           exact absurd H (by simp)
         ·rw [if_neg c14] at H
          have c14b0 : (((rd_T55 l0 x9_1).f0).toList == ([91] : List UInt8)) = false:=beq_eq_false_iff_ne.mpr c14
          have c14b1 : (((rd_T55 l0 x9_1).f0).toList != ([91] : List UInt8)) = true:=bne_iff_ne.mpr c14
          have HC17:=Aside0.mk H
          clear H
          go_upto_if 26 with (fail)
          repeat (go_quiet (fail);go_upto_if 26 with (fail))
          go_cut [26] (fun v26 wc => ∃ (kq : Nat) (x26_16 : Bool),v26 = .bool x26_16 ∧ Aside0 (spec_closes.j2 kq x3_1 l0 (l0.length : Int) x9_1 x26_16 ((rd_T55 l0 x9_1).f0) ((rd_T55 l0 x9_1).f1) ((rd_T55 l0 x9_1).f2) ((rd_T55 l0 x9_1).f3) ((rd_T55 l0 x9_1).f4) ((rd_T55 l0 x9_1).f5) = some r) ∧ Aside0 (kq ≤ kj6) ∧ Aside0 (Kd.R Kd.string 9 wc w.heap.size (fun _ => True) u3 x3_1) ∧ Aside0 (wc.heap[gb492]? = some (.cells #[.string ((rd_T55 l0 x9_1).f0),(.slice A491_1 ((rd_T55 l0 x9_1).f1).length c491_1),(.slice A491_2 ((rd_T55 l0 x9_1).f2).length c491_2),(.slice A491_3 ((rd_T55 l0 x9_1).f3).length c491_3),(.slice A491_4 ((rd_T55 l0 x9_1).f4).length c491_4),.string ((rd_T55 l0 x9_1).f5)] 55 (0,0))) ∧ Aside0 (Below w.heap.size w wc))
          case first =>
           have H:=HC17.out
           clear HC17
           by_cases c18 : ((rd_T55 l0 x9_1).f0).toList = ([41] : List UInt8)
           ·rw [if_pos c18] at H
            have c18b0 : (((rd_T55 l0 x9_1).f0).toList == ([41] : List UInt8)) = true:=beq_iff_eq.mpr c18
            have c18b1 : (((rd_T55 l0 x9_1).f0).toList != ([41] : List UInt8)) = false:=bne_eq_false_iff_eq.mpr c18
            clear c18
            (first|rw [c18b0]|(simp only [i64_w,i32_w];rw [c18b0])|skip)
            have H':=Aside0.mk H
            clear H
            go_wp2
            repeat (go_quiet (fail);try go_wp2)
            go_meet
            case rel => exact ⟨_,((((rd_T55 l0 x9_1).f0).toList == ([41] : List UInt8))),(by first|rfl|(simp;done)|(simp [*];done)),H',⟨by have:=HK1.out;have:=HJ6.out;first|omega|exact Nat.le_refl _⟩,⟨by (with_reducible repeat (first|apply Kd.R_alloc|apply Kd.R_drewN|apply Kd.R_drew));exact HO_3.out⟩,⟨by (with_reducible repeat (first|refine blk_drewN ?_ _|refine blk_drew ?_|refine blk_alloc ?_ _));exact BK492.out⟩,⟨by repeat (first|(with_reducible first|exact HB.out|apply bA|apply bB|apply bC|refine bD ?_ GE492.out)|exact HB.out)⟩⟩
           ·rw [if_neg c18] at H
            have c18b0 : (((rd_T55 l0 x9_1).f0).toList == ([41] : List UInt8)) = false:=beq_eq_false_iff_ne.mpr c18
            have c18b1 : (((rd_T55 l0 x9_1).f0).toList != ([41] : List UInt8)) = true:=bne_iff_ne.mpr c18
            (first|rw [c18b0]|(simp only [i64_w,i32_w];rw [c18b0])|skip)
            have H':=Aside0.mk H
            clear H
            go_wp2
            repeat (go_quiet (fail);try go_wp2)
            go_meet
            case rel => exact ⟨_,((((rd_T55 l0 x9_1).f0).toList == ([93] : List UInt8))),(by first|rfl|(simp;done)|(simp [*];done)),H',⟨by have:=HK1.out;have:=HJ6.out;first|omega|exact Nat.le_refl _⟩,⟨by (with_reducible repeat (first|apply Kd.R_alloc|apply Kd.R_drewN|apply Kd.R_drew));exact HO_3.out⟩,⟨by (with_reducible repeat (first|refine blk_drewN ?_ _|refine blk_drew ?_|refine blk_alloc ?_ _));exact BK492.out⟩,⟨by repeat (first|(with_reducible first|exact HB.out|apply bA|apply bB|apply bC|refine bD ?_ GE492.out)|exact HB.out)⟩⟩
          case rest =>
           clear HC17
           try clear c1
           try clear p2
           try clear c4
           try clear c4b0
           try clear p4
           try clear q4
           try clear hx4
           try clear c5
           try clear c5b0
           try clear c6
           try clear c6b0
           try clear p6
           try clear c7
           try clear c10
           try clear c10b0
           try clear c10b1
           try clear c11
           try clear c12
           try clear c14
           try clear c14b0
           try clear c14b1
           try clear c15
           try clear c18
           try clear c18b0
           try clear c18b1
           try clear hcz9_0
           try clear hcz9_1
           try clear hcz9_2
           try clear hcz9_3
           try clear hcz9_4
           try clear hcz9_5
           try clear hfz9_0
           try clear hfz9_1
           try clear hfz9_2
           try clear hfz9_3
           try clear hfz9_4
           try clear hfz9_5
           try clear hx491_0
           try clear hx491_1
           try clear hx491_2
           try clear hx491_3
           try clear hx491_4
           try clear hx491_5
           try clear p2
           try clear p4
           try clear p491
           try clear q4
           try clear q491
           obtain ⟨kq,x26_16,rfl,HA,HJ16,HO_3,BK492,HB⟩:=hcut
           cases kq with
           | zero => exact absurd HA.out (by simp [spec_closes.j2])
           | succ kj16 =>
            have H:=HA.out
            clear HA
            simp only [spec_closes.j2] at H
            by_cases c19 : x26_16 = true
            ·subst c19
             have H1 : (if (x3_1.length : Int) = 0 then (some false) else (if 0 ≤ (wrap64 ((x3_1.length : Int) - 1)) then (if (wrap64 ((x3_1.length : Int) - 1)) < (x3_1.length : Int) then (if (rdOf ByteArray.empty x3_1 (wrap64 ((x3_1.length : Int) - 1))).toList = ((rd_T55 l0 x9_1).f0).toList then (if (wrap64 ((x3_1.length : Int) - 1)) ≤ (x3_1.length : Int) then (spec_closes.l0 kj16 (x3_1.take ((wrap64 ((x3_1.length : Int) - 1)) : Int).toNat) l0 (l0.length : Int) (wrap64 (x9_1 + 1))) else (none)) else (some false)) else (none)) else (none))) = some r:=by rw [if_pos rfl] at H;exact H
             clear H
             have H:=H1
             clear H1
             by_cases c20 : (x3_1.length : Int) = 0
             ·rw [if_pos c20] at H
              have c20b0 : ((x3_1.length : Int) == 0) = true:=beq_iff_eq.mpr c20
              have c20b1 : ((x3_1.length : Int) != 0) = false:=bne_eq_false_iff_eq.mpr c20
              clear c20
              obtain rfl:=Option.some.inj H
              obtain ⟨Ao21,co21,eo21⟩:=Kd.R_slice HO_3.out
              subst eo21
              go_wp2
              repeat (go_quiet (fail);try go_wp2)
              go_ret
              exact ⟨by first|rfl|(simp [errW_none,errW_some] <;> rfl)|(simp [*,errW_none,errW_some] <;> rfl),by repeat (first|(with_reducible first|exact HB.out|apply bA|apply bB|apply bC|refine bD ?_ GE492.out)|exact HB.out)⟩
             ·rw [if_neg c20] at H
              have c20b0 : ((x3_1.length : Int) == 0) = false:=beq_eq_false_iff_ne.mpr c20
              have c20b1 : ((x3_1.length : Int) != 0) = true:=bne_iff_ne.mpr c20
              have c20b2 : ¬ (x3_1 = []):=fun h_ => c20 (by rw [h_];rfl)
              obtain ⟨ji22,hji22⟩ : ∃ j_ : Int,(wrap64 ((x3_1.length : Int) - 1)) = j_:=⟨_,rfl⟩
              replace H : (if 0 ≤ (ji22) then (if (ji22) < (x3_1.length : Int) then (if (rdOf ByteArray.empty x3_1 (ji22)).toList = ((rd_T55 l0 x9_1).f0).toList then (if (ji22) ≤ (x3_1.length : Int) then (spec_closes.l0 kj16 (x3_1.take ((ji22) : Int).toNat) l0 (l0.length : Int) (wrap64 (x9_1 + 1))) else (none)) else (some false)) else (none)) else (none)) = some r:=by first|(rw [hji22] at H;exact H)|(simp only [hji22] at H ⊢;exact H)
              have hji22w : (IntKind.i64.wrap ((x3_1.length : Int) - 1)) = ji22:=(i64_w _).trans hji22
              by_cases c23 : 0 ≤ (ji22)
              ·rw [if_pos c23] at H
               have c23b0 : decide (0 ≤ (ji22)) = true:=decide_eq_true c23
               clear c23
               by_cases c24 : (ji22) < (x3_1.length : Int)
               ·rw [if_pos c24] at H
                have c24b0 : decide ((ji22) < (x3_1.length : Int)) = true:=decide_eq_true c24
                clear c24
                by_cases c25 : (rdOf ByteArray.empty x3_1 (ji22)).toList = ((rd_T55 l0 x9_1).f0).toList
                ·rw [if_pos c25] at H
                 have c25b0 : ((rdOf ByteArray.empty x3_1 (ji22)).toList == ((rd_T55 l0 x9_1).f0).toList) = true:=beq_iff_eq.mpr c25
                 have c25b1 : ((rdOf ByteArray.empty x3_1 (ji22)).toList != ((rd_T55 l0 x9_1).f0).toList) = false:=bne_eq_false_iff_eq.mpr c25
                 clear c25
                 by_cases c26 : (ji22) ≤ (x3_1.length : Int)
                 ·rw [if_pos c26] at H
                  have c26b0:=eq_true c26
                  have c26b1 : decide ((ji22) ≤ (x3_1.length : Int)) = true:=decide_eq_true c26
                  clear c26
                  obtain ⟨y500,hy500⟩ : ∃ y_ : List ByteArray,y_ = (x3_1.take ((ji22) : Int).toNat):=⟨_,rfl⟩
                  replace H : (spec_closes.l0 kj16 y500 l0 (l0.length : Int) (wrap64 (x9_1 + 1))) = some r:=by first|(rw [hy500];with_reducible exact H)|(have H2_:=(Option.bind_some _ _).symm.trans H;rw [hy500];with_reducible exact H2_)|(have H2_:=(Option.bind_some _ _).symm.trans H;with_reducible exact H2_)|with_reducible exact H|(rw [hy500];exact H)|exact H
                  have Ny500:=Aside0.mk hy500
                  clear hy500
                  have H':=Aside0.mk H
                  clear H
                  obtain ⟨Ao27,co27,eo27⟩:=Kd.R_slice HO_3.out
                  subst eo27
                  have p499 : 0 ≤ ((ji22) : Int):=of_decide_eq_true (by first|(with_reducible assumption)|assumption)
                  have q499 : (ji22) < (x3_1.length : Int):=of_decide_eq_true (by first|(with_reducible assumption)|assumption)
                  obtain ⟨ad499,e499,hx499_0⟩:=Kd.at_string (Kd.R_reads' HO_3.out).2.2 (ji22) p499 q499
                  cases e499
                  replace p499:=eq_true p499
                  replace q499:=eq_true q499
                  have hcz28_0 : wc.cell? ⟨gb492,0,none⟩ = some (.string ((rd_T55 l0 x9_1).f0)):=(blk_cell BK492.out 0).trans rfl
                  have hcz28_1 : wc.cell? ⟨gb492,1,none⟩ = some (.slice A491_1 ((rd_T55 l0 x9_1).f1).length c491_1):=(blk_cell BK492.out 1).trans rfl
                  have hcz28_2 : wc.cell? ⟨gb492,2,none⟩ = some (.slice A491_2 ((rd_T55 l0 x9_1).f2).length c491_2):=(blk_cell BK492.out 2).trans rfl
                  have hcz28_3 : wc.cell? ⟨gb492,3,none⟩ = some (.slice A491_3 ((rd_T55 l0 x9_1).f3).length c491_3):=(blk_cell BK492.out 3).trans rfl
                  have hcz28_4 : wc.cell? ⟨gb492,4,none⟩ = some (.slice A491_4 ((rd_T55 l0 x9_1).f4).length c491_4):=(blk_cell BK492.out 4).trans rfl
                  have hcz28_5 : wc.cell? ⟨gb492,5,none⟩ = some (.string ((rd_T55 l0 x9_1).f5)):=(blk_cell BK492.out 5).trans rfl
                  have hfz28_0:=blk_frozen BK492.out 0
                  have hfz28_1:=blk_frozen BK492.out 1
                  have hfz28_2:=blk_frozen BK492.out 2
                  have hfz28_3:=blk_frozen BK492.out 3
                  have hfz28_4:=blk_frozen BK492.out 4
                  have hfz28_5:=blk_frozen BK492.out 5
                  have q29 : ((ji22) : Int) ≤ ((x3_1.length : Int) : Int):=of_decide_eq_true (by first|(with_reducible assumption)|assumption)
                  obtain ⟨i029,hi029,_,hsz29,_⟩:=info_parts info9
                  have hcut29:=cut_to (P:=Tryz.prog) 73 9 .i64 Tryz.underlying73 hi029 (some ad499) x3_1.length co27 (ji22) (of_decide_eq_true (by first|(with_reducible assumption)|assumption)) q29 (Kd.R_reads' HO_3.out).2.1
                  have hr29:=Kd.R_take (m:=((ji22) : Int).toNat) HO_3.out (by omega)
                  have hy29 : y500.length = ((ji22) : Int).toNat:=(by rw [Ny500.out,List.length_take];omega)
                  rw [← Ny500.out] at hr29
                  rw [← hy29] at hr29 hcut29
                  clear hy29 hi029 hsz29 HO_3
                  have HO502:=Aside0.mk hr29
                  clear hr29
                  replace q29:=eq_true q29
                  go_wp2
                  repeat (go_quiet (fail);try go_wp2)
                  go_roundg kj16
                  case measure => have:=HK1.out;have:=HJ6.out;have:=HJ16.out;omega
                  case rel => exact ⟨(y500),(wrap64 (x9_1 + 1)),(by first|rfl|(simp;done)|(simp [*];done)),H',⟨by have:=HK1.out;have:=HJ6.out;have:=HJ16.out;omega⟩,⟨by (with_reducible repeat (first|apply Kd.R_alloc|apply Kd.R_drewN|apply Kd.R_drew));exact HO502.out⟩,⟨by repeat (first|(with_reducible first|exact HB.out|apply bA|apply bB|apply bC|refine bD ?_ GE492.out)|exact HB.out)⟩⟩
                 ·rw [if_neg c26] at H
                  exact absurd H (by simp)
                ·rw [if_neg c25] at H
                 have c25b0 : ((rdOf ByteArray.empty x3_1 (ji22)).toList == ((rd_T55 l0 x9_1).f0).toList) = false:=beq_eq_false_iff_ne.mpr c25
                 have c25b1 : ((rdOf ByteArray.empty x3_1 (ji22)).toList != ((rd_T55 l0 x9_1).f0).toList) = true:=bne_iff_ne.mpr c25
                 obtain rfl:=Option.some.inj H
                 obtain ⟨Ao30,co30,eo30⟩:=Kd.R_slice HO_3.out
                 subst eo30
                 have p499 : 0 ≤ ((ji22) : Int):=of_decide_eq_true (by first|(with_reducible assumption)|assumption)
                 have q499 : (ji22) < (x3_1.length : Int):=of_decide_eq_true (by first|(with_reducible assumption)|assumption)
                 obtain ⟨ad499,e499,hx499_0⟩:=Kd.at_string (Kd.R_reads' HO_3.out).2.2 (ji22) p499 q499
                 cases e499
                 replace p499:=eq_true p499
                 replace q499:=eq_true q499
                 have hcz31_0 : wc.cell? ⟨gb492,0,none⟩ = some (.string ((rd_T55 l0 x9_1).f0)):=(blk_cell BK492.out 0).trans rfl
                 have hcz31_1 : wc.cell? ⟨gb492,1,none⟩ = some (.slice A491_1 ((rd_T55 l0 x9_1).f1).length c491_1):=(blk_cell BK492.out 1).trans rfl
                 have hcz31_2 : wc.cell? ⟨gb492,2,none⟩ = some (.slice A491_2 ((rd_T55 l0 x9_1).f2).length c491_2):=(blk_cell BK492.out 2).trans rfl
                 have hcz31_3 : wc.cell? ⟨gb492,3,none⟩ = some (.slice A491_3 ((rd_T55 l0 x9_1).f3).length c491_3):=(blk_cell BK492.out 3).trans rfl
                 have hcz31_4 : wc.cell? ⟨gb492,4,none⟩ = some (.slice A491_4 ((rd_T55 l0 x9_1).f4).length c491_4):=(blk_cell BK492.out 4).trans rfl
                 have hcz31_5 : wc.cell? ⟨gb492,5,none⟩ = some (.string ((rd_T55 l0 x9_1).f5)):=(blk_cell BK492.out 5).trans rfl
                 have hfz31_0:=blk_frozen BK492.out 0
                 have hfz31_1:=blk_frozen BK492.out 1
                 have hfz31_2:=blk_frozen BK492.out 2
                 have hfz31_3:=blk_frozen BK492.out 3
                 have hfz31_4:=blk_frozen BK492.out 4
                 have hfz31_5:=blk_frozen BK492.out 5
                 go_wp2
                 repeat (go_quiet (fail);try go_wp2)
                 go_ret
                 exact ⟨by first|rfl|(simp [errW_none,errW_some] <;> rfl)|(simp only [← hji22];first|rfl|(simp [errW_none,errW_some] <;> rfl))|(simp [*,errW_none,errW_some] <;> rfl),by repeat (first|(with_reducible first|exact HB.out|apply bA|apply bB|apply bC|refine bD ?_ GE492.out)|exact HB.out)⟩
               ·rw [if_neg c24] at H
                exact absurd H (by simp)
              ·rw [if_neg c23] at H
               exact absurd H (by simp)
            ·replace c19:=Bool.eq_false_iff.mpr c19
             subst c19
             have H1 : (spec_closes.l0 kj16 x3_1 l0 (l0.length : Int) (wrap64 (x9_1 + 1))) = some r:=by rw [if_neg (show ¬ (false = true) by decide)] at H;exact H
             clear H
             have H:=H1
             clear H1
             have H':=Aside0.mk H
             clear H
             go_wp2
             repeat (go_quiet (fail);try go_wp2)
             go_roundg kj16
             case measure => have:=HK1.out;have:=HJ6.out;have:=HJ16.out;omega
             case rel => exact ⟨(x3_1),(wrap64 (x9_1 + 1)),(by first|rfl|(simp;done)|(simp [*];done)),H',⟨by have:=HK1.out;have:=HJ6.out;have:=HJ16.out;omega⟩,⟨by (with_reducible repeat (first|apply Kd.R_alloc|apply Kd.R_drewN|apply Kd.R_drew));exact HO_3.out⟩,⟨by repeat (first|(with_reducible first|exact HB.out|apply bA|apply bB|apply bC|refine bD ?_ GE492.out)|exact HB.out)⟩⟩
     ·rw [if_neg c6] at H
      exact absurd H (by simp)
    ·rw [if_neg c5] at H
     exact absurd H (by simp)
   ·rw [if_neg c4] at H
    have c4b0 : decide (x9_1 < (l0.length : Int)) = false:=decide_eq_false c4
    clear c4
    obtain rfl:=Option.some.inj H
    obtain ⟨Ao32,co32,eo32⟩:=Kd.R_slice HO_3.out
    subst eo32
    go_wp2
    repeat (go_quiet (fail);try go_wp2)
    go_ret
    exact ⟨by first|rfl|(simp [errW_none,errW_some] <;> rfl)|(simp [*,errW_none,errW_some] <;> rfl),by repeat (first|(with_reducible first|exact HB.out|apply bA|apply bB|apply bC)|exact HB.out)⟩
end Go.Proofs.YtlglijnaeaonpaaGreatDoor.PFnStyle
end
section
set_option maxHeartbeats 8000000
set_option maxRecDepth 100000
set_option linter.unusedVariables false
set_option linter.unusedSimpArgs false
namespace Go.Proofs.YtlglijnaeaonpaaGreatDoor.Lx
open Go.RowKit Go.Proofs.YtlglijnaeaonpaaGreatDoorW.PrintWords Go.Proofs.YtlglijnaeaonpaaGreatDoor.PFnStyle
def hasFrom (s p : List UInt8) : Nat → Nat → Bool
 | 0,_ => false
 | d + 1,j => if j + p.length ≤ s.length then (if (s.drop j).take p.length = p then true else hasFrom s p d (j + 1)) else false
def hasL (s p : List UInt8) : Bool:=hasFrom s p (s.length + 1) 0
theorem hasText_l (s p : ByteArray) (hs : s.size ≤ 1000000) (hp : p.size ≤ 1000000) : ∀ (d k j : Nat),j ≤ s.size + 1 → s.size + 1 - j ≤ d → d + 1 ≤ k → spec_HasText.l0 k s p (j : Int) = some (hasFrom s.data.toList p.data.toList d j):=by
 have e1 : s.data.toList.length = s.size:=Array.length_toList
 have e2 : p.data.toList.length = p.size:=Array.length_toList
 intro d
 induction d with
 | zero =>
  intro k j hj hd hk
  obtain ⟨k,rfl⟩ : ∃ m,k = m + 1:=⟨k - 1,by omega⟩
  simp only [spec_HasText.l0,hasFrom]
  rw [w64 (by omega) (by omega),if_neg (by omega)]
 | succ d ih =>
  intro k j hj hd hk
  obtain ⟨k,rfl⟩ : ∃ m,k = m + 1:=⟨k - 1,by omega⟩
  simp only [spec_HasText.l0,hasFrom]
  rw [w64 (x:=(j : Int) + (p.size : Int)) (by omega) (by omega),e1,e2]
  by_cases h1 : j + p.size ≤ s.size
  ·rw [if_pos (by omega),if_pos (by omega),if_pos (by omega),if_pos h1]
   have e3 : (s.extract (j : Int).toNat ((j : Int) + (p.size : Int)).toNat).toList = (s.data.toList.drop j).take p.size:=by
    rw [show ((j : Int) + (p.size : Int)).toNat = j + p.size by omega,show ((j : Int)).toNat = j by omega,ext_win]
    unfold Go.Lib.RK.win
    rw [show j + p.size - j = p.size by omega]
   rw [e3,ByteArray.toList_eq p]
   by_cases h2 : (s.data.toList.drop j).take p.size = p.data.toList
   ·rw [if_pos h2,if_pos h2]
   ·rw [if_neg h2,if_neg h2,w64 (by omega) (by omega)]
    have:=ih k (j + 1) (by omega) (by omega) (by omega)
    rwa [show ((j + 1 : Nat) : Int) = (j : Int) + 1 by omega] at this
  ·rw [if_neg (by omega),if_neg h1]
theorem hasText_f (s p : ByteArray) (hs : s.size ≤ 1000000) (hp : p.size ≤ 1000000) (k : Nat) (hk : s.size + 2 ≤ k) : spec_HasText.f k s p = some (hasL s.data.toList p.data.toList):=by
 have e1 : s.data.toList.length = s.size:=Array.length_toList
 unfold spec_HasText.f hasL
 rw [e1]
 exact hasText_l s p hs hp (s.size + 1) k 0 (by omega) (by omega) (by omega)
def IsOp (k : ByteArray) : Prop:=k.data.toList = [40] ∨ k.data.toList = [102,117,110,99,116,105,111,110]
instance : DecidablePred IsOp:=fun k => by unfold IsOp;infer_instance
inductive LvB : List ByteArray → List ByteArray → Prop where
 | nil : LvB [] []
 | par (st : List ByteArray) (k : ByteArray) (r : List ByteArray) (hk : IsOp k) (h : LvB (st ++ [⟨#[41]⟩]) r) : LvB st (k :: r)
 | brk (st : List ByteArray) (k : ByteArray) (r : List ByteArray) (hk : k.data.toList = [91]) (h : LvB (st ++ [⟨#[93]⟩]) r) : LvB st (k :: r)
 | cls (st : List ByteArray) (c k : ByteArray) (r : List ByteArray) (hk : k.data.toList = [41] ∨ k.data.toList = [93]) (h : LvB st r) : LvB (st ++ [c]) (k :: r)
 | oth (st : List ByteArray) (k : ByteArray) (r : List ByteArray) (h1 : ¬ IsOp k) (h2 : k.data.toList ≠ [91]) (h3 : k.data.toList ≠ [41]) (h4 : k.data.toList ≠ [93]) (h : LvB st r) : LvB st (k :: r)
theorem closes_l (ps : List S55) (hl : ps.length ≤ 2147483647) : ∀ (d : Nat) (st : List ByteArray) (j : Nat),j ≤ ps.length → ps.length - j ≤ d → st.length ≤ j → ∃ r,(∀ k,3 * d + 3 ≤ k → spec_closes.l0 k st ps (ps.length : Int) (j : Int) = some r) ∧ (r = true → LvB st ((ps.drop j).map S55.f0)):=by
 intro d
 have hend : ∀ (st : List ByteArray) (j : Nat),ps.length ≤ j → ∃ r,(∀ k,3 * 0 + 1 ≤ k → spec_closes.l0 k st ps (ps.length : Int) (j : Int) = some r) ∧ (r = true → LvB st ((ps.drop j).map S55.f0)):=by
  intro st j hj
  refine ⟨(st.length : Int) == 0,fun k hk => ?_,fun h => ?_⟩
  ·obtain ⟨k,rfl⟩ : ∃ m,k = m + 1:=⟨k - 1,by omega⟩
   simp only [spec_closes.l0]
   rw [if_neg (by omega)]
  ·have : st.length = 0:=by simpa using h
   rw [List.eq_nil_of_length_eq_zero this,List.drop_eq_nil_of_le hj]
   exact .nil
 induction d with
 | zero =>
  intro st j h1 h2 h3
  obtain ⟨r,hr,hr2⟩:=hend st j (by omega)
  exact ⟨r,fun k hk => hr k (by omega),hr2⟩
 | succ d ih =>
  intro st j h1 h2 h3
  by_cases hj : j < ps.length
  ·obtain ⟨x,hx⟩ : ∃ x,ps[j]? = some x:=⟨_,List.getElem?_eq_getElem hj⟩
   have hrd : rd_T55 ps (j : Int) = x:=by
    unfold rd_T55
    rw [List.getD_eq_getElem?_getD,show ((j : Int)).toNat = j by omega,hx];rfl
   have hdrop : ps.drop j = x :: ps.drop (j + 1):=by
    rw [List.drop_eq_getElem_cons hj]
    rw [List.getElem?_eq_getElem hj] at hx
    injection hx with hx
    rw [hx]
   have hw : wrap64 ((j : Int) + 1) = ((j + 1 : Nat) : Int):=by rw [w64 (by omega) (by omega)];omega
   rw [hdrop,List.map_cons]
   have hl0 : ∀ k,spec_closes.l0 (k + 1) st ps (ps.length : Int) (j : Int) = spec_closes.j1 k st ps (ps.length : Int) (j : Int) x.f0 (decide (IsOp x.f0)) x.f0 x.f1 x.f2 x.f3 x.f4 x.f5:=by
    intro k
    simp only [spec_closes.l0]
    rw [if_pos (by omega),if_pos (by omega),if_pos (by omega),hrd]
    unfold IsOp
    rw [ByteArray.toList_eq]
    by_cases h40 : x.f0.data.toList = [40]
    ·rw [if_pos h40]
     simp [h40]
    ·rw [if_neg h40]
     congr 1
     rw [Bool.eq_iff_iff]
     simp [h40]
   by_cases ho : IsOp x.f0
   ·obtain ⟨r,hr,hr2⟩:=ih (st ++ [⟨#[41]⟩]) (j + 1) (by omega) (by omega) (by simp;omega)
    refine ⟨r,fun k hk => ?_,fun h => .par st _ _ ho (hr2 h)⟩
    obtain ⟨k,rfl⟩ : ∃ m,k = m + 2:=⟨k - 2,by omega⟩
    rw [hl0,decide_eq_true ho]
    simp only [spec_closes.j1,if_true]
    rw [if_pos (by omega),hw]
    exact hr k (by omega)
   ·by_cases h91 : x.f0.data.toList = [91]
    ·obtain ⟨r,hr,hr2⟩:=ih (st ++ [⟨#[93]⟩]) (j + 1) (by omega) (by omega) (by simp;omega)
     refine ⟨r,fun k hk => ?_,fun h => .brk st _ _ h91 (hr2 h)⟩
     obtain ⟨k,rfl⟩ : ∃ m,k = m + 2:=⟨k - 2,by omega⟩
     rw [hl0,decide_eq_false ho]
     simp only [spec_closes.j1]
     rw [if_neg (by decide),ByteArray.toList_eq,if_pos h91,if_pos (by omega),hw]
     exact hr k (by omega)
    ·have hj1 : ∀ k,spec_closes.l0 (k + 2) st ps (ps.length : Int) (j : Int) = spec_closes.j2 k st ps (ps.length : Int) (j : Int) (decide (x.f0.data.toList = [41] ∨ x.f0.data.toList = [93])) x.f0 x.f1 x.f2 x.f3 x.f4 x.f5:=by
      intro k
      rw [hl0,decide_eq_false ho]
      simp only [spec_closes.j1]
      rw [if_neg (by decide),ByteArray.toList_eq,if_neg h91]
      by_cases h41 : x.f0.data.toList = [41]
      ·rw [if_pos h41]
       simp [h41]
      ·rw [if_neg h41]
       congr 1
       rw [Bool.eq_iff_iff]
       simp [h41]
     by_cases hc : x.f0.data.toList = [41] ∨ x.f0.data.toList = [93]
     ·by_cases hs : st.length = 0
      ·refine ⟨false,fun k hk => ?_,fun h => by cases h⟩
       obtain ⟨k,rfl⟩ : ∃ m,k = m + 3:=⟨k - 3,by omega⟩
       rw [show k + 3 = k + 1 + 2 by omega,hj1,decide_eq_true hc]
       simp only [spec_closes.j2,if_true]
       rw [if_pos (by omega)]
      ·have hsplit : ∃ st' c,st = st' ++ [c]:=by
        rcases List.eq_nil_or_concat st with h|⟨l,b,h⟩
        ·rw [h] at hs;exact absurd rfl hs
        ·exact ⟨l,b,by rw [h,List.concat_eq_append]⟩
       obtain ⟨st',c,rfl⟩:=hsplit
       have hlen : (st' ++ [c]).length = st'.length + 1:=by simp
       have hw2 : wrap64 (((st' ++ [c]).length : Int) - 1) = (st'.length : Int):=by rw [hlen,w64 (by omega) (by omega)];omega
       have hlast : rdOf ByteArray.empty (st' ++ [c]) (st'.length : Int) = c:=by
        unfold rdOf
        rw [List.getD_eq_getElem?_getD,show ((st'.length : Int)).toNat = st'.length by omega,List.getElem?_append_right (Nat.le_refl _),Nat.sub_self]
        rfl
       have htake : (st' ++ [c]).take st'.length = st':=by simp
       by_cases he : c.toList = x.f0.toList
       ·obtain ⟨r,hr,hr2⟩:=ih st' (j + 1) (by omega) (by omega) (by omega)
        refine ⟨r,fun k hk => ?_,fun h => .cls st' c _ _ hc (hr2 h)⟩
        obtain ⟨k,rfl⟩ : ∃ m,k = m + 3:=⟨k - 3,by omega⟩
        rw [show k + 3 = k + 1 + 2 by omega,hj1,decide_eq_true hc]
        simp only [spec_closes.j2,if_true]
        rw [if_neg (by omega),hw2,if_pos (by omega),if_pos (by omega),hlast,if_pos he,if_pos (by omega),show ((st'.length : Int)).toNat = st'.length by omega,htake,hw]
        exact hr k (by omega)
       ·refine ⟨false,fun k hk => ?_,fun h => by cases h⟩
        obtain ⟨k,rfl⟩ : ∃ m,k = m + 3:=⟨k - 3,by omega⟩
        rw [show k + 3 = k + 1 + 2 by omega,hj1,decide_eq_true hc]
        simp only [spec_closes.j2,if_true]
        rw [if_neg (by omega),hw2,if_pos (by omega),if_pos (by omega),hlast,if_neg he]
     ·obtain ⟨r,hr,hr2⟩:=ih st (j + 1) (by omega) (by omega) (by omega)
      refine ⟨r,fun k hk => ?_,fun h => .oth st _ _ ho h91 (fun e => hc (.inl e)) (fun e => hc (.inr e)) (hr2 h)⟩
      obtain ⟨k,rfl⟩ : ∃ m,k = m + 3:=⟨k - 3,by omega⟩
      rw [show k + 3 = k + 1 + 2 by omega,hj1,decide_eq_false hc]
      simp only [spec_closes.j2]
      rw [if_neg (by decide),hw]
      exact hr k (by omega)
  ·obtain ⟨r,hr,hr2⟩:=hend st j (by omega)
   exact ⟨r,fun k hk => hr k (by omega),hr2⟩
theorem closes_f (ps : List S55) (hl : ps.length ≤ 2147483647) : ∃ r,(∀ k,3 * ps.length + 3 ≤ k → spec_closes.f k ps = some r) ∧ (r = true → LvB [] (ps.map S55.f0)):=by
 obtain ⟨r,h1,h2⟩:=closes_l ps hl ps.length [] 0 (by omega) (by omega) (by simp)
 exact ⟨r,fun k hk => h1 k hk,h2⟩
end Go.Proofs.YtlglijnaeaonpaaGreatDoor.Lx
end
