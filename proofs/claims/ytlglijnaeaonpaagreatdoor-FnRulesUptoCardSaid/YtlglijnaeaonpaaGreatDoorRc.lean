/- FnRules: a part of the proof (Rc); in it lines that print.sh printed, those that are used. -/
import Derived.Test.YtlglijnaeaonpaaGreatDoorRa
section
set_option maxHeartbeats 8000000
set_option maxRecDepth 100000
set_option linter.unusedVariables false
set_option linter.unusedSimpArgs false
namespace Go.Proofs.YtlglijnaeaonpaaGreatDoor.bG
open Go.RowKit Go.Proofs.YtlglijnaeaonpaaGreatDoorW.aC Go.Proofs.YtlglijnaeaonpaaGreatDoorW.dQ Go.Proofs.YtlglijnaeaonpaaGreatDoorW.eR
attribute [local go_sem] fZ ga iu iv fk fl gd gg
mutual
def aj.l0:Nat→List Int→Int→Bool→Option (Int×Bool)
 | 0,_,_,_=>none
 | k+1,x1000,x1001,x1002=>(aV.f x1000 x1001 x1002).bind fun zi=>(if zi.1=true then (some (zi.2.1,zi.2.2)) else ((aa.f x1000 zi.2.1 zi.2.2 0).bind fun iD=>(if (Go.bits .and .u8 iD.1 192)=128 then (aj.l0 k x1000 (wrap64 (iD.2.1+1)) iD.2.2) else (some (iD.2.1,iD.2.2)))))
def aj.j2:Nat→List Int→Int→Bool→Option (Int×Bool)
 | 0,_,_,_=>none
 | k+1,x1000,x1001,x1002=>(aa.f x1000 x1001 x1002 0).bind fun ED=>(if ED.1=13 then (aj.j3 k x1000 ED.2.1 true) else (aj.j3 k x1000 ED.2.1 ED.2.2))
def aj.j3:Nat→List Int→Int→Bool→Option (Int×Bool)
 | 0,_,_,_=>none
 | k+1,x1000,x1001,x1002=>(aa.f x1000 x1001 x1002 0).bind fun zj=>((bJ.f zj.1).bind fun t211=>(if t211=true then (some (wrap64 (zj.2.1+1),zj.2.2)) else (some (zj.2.1,zj.2.2))))
def aj.l1:Nat→Int→List Int→Int→Bool→Option (Int×Bool)
 | 0,_,_,_,_=>none
 | k+1,x2,x1000,x1001,x1002=>if x2<6 then ((aa.f x1000 x1001 x1002 0).bind fun zk=>((ax.f k zk.1).bind fun t204=>(if t204≥0 then (aj.l1 k (wrap64 (x2+1)) x1000 (wrap64 (zk.2.1+1)) zk.2.2) else (aj.j2 k x1000 zk.2.1 zk.2.2)))) else (aj.j2 k x1000 x1001 x1002)
end
def aj.f (k:Nat) (ah:List Int) (bg:Int) (bq:Bool):Option (Int×Bool):=(aa.f ah (wrap64 (bg+1)) bq 0).bind fun mI=>((ax.f k mI.1).bind fun t194=>(if t194<0 then (aj.l0 k ah (wrap64 (mI.2.1+1)) mI.2.2) else (aj.l1 k 0 ah mI.2.1 mI.2.2)))
theorem aj.calls (k:Nat) (g:Nat) (ah:List Int) (bg:Int) (bq:Bool) (r1:Int) (r2:Bool) (w0 w:World) (hI:aD w0 w g ah bg bq) (hB:Below w0.heap.size w0 w) (h:aj.f k ah bg bq=some (r1,r2)):
  Calls Tryz.prog 136 #[.pointer (some ⟨g,0,none⟩)] w fun e w' =>e= .returned (.tuple #[])∧aD w0 w' g ah r1 r2∧Below w0.heap.size w0 w' ∧aw w w' g none:=by
 have aQ:=am hI
 have HK:=am (aw.refl w g none)
 have HL:=am hB.size
 clear hI
 have yX:=am hB.size
 have HB:=am hB
 clear hB
 have H:((aa.f ah (wrap64 (bg+1)) bq 0).bind fun mI=>((ax.f k mI.1).bind fun t194=>(if t194<0 then (aj.l0 k ah (wrap64 (mI.2.1+1)) mI.2.2) else (aj.l1 k 0 ah mI.2.1 mI.2.2))))=some (r1,r2):=h
 clear h
 replace H:=Option.bind_eq_some_iff.mp H
 obtain⟨⟨t191,t192,t193⟩,mf,H⟩:=H
 replace H:((ax.f k t191).bind fun t194=>(if t194<0 then (aj.l0 k ah (wrap64 (t192+1)) t193) else (aj.l1 k 0 ah t192 t193)))=some (r1,r2):=H
 have A2:=am mf
 clear mf
 replace H:=Option.bind_eq_some_iff.mp H
 obtain⟨t194,wy,H⟩:=H
 replace H:(if t194<0 then (aj.l0 k ah (wrap64 (t192+1)) t193) else (aj.l1 k 0 ah t192 t193))=some (r1,r2):=H
 have A3:=am wy
 clear wy
 by_cases c4:t194<0
 ·rw [if_pos c4] at H
  have eF:decide (t194<0)=true:=decide_eq_true c4
  clear c4
  have H':=am H
  clear H
  obtain⟨aep,aeq,Gq,aer,aes⟩:=aQ.out
  have wF:=aK Gq
  have wG:=aM Gq
  have wH:=aN Gq
  have wI:=ai Gq 1
  have wJ:=ai Gq 2
  clear Gq aer
  go_enter Tryz.func136,Tryz.ntmps136
  go_wp2_with (first|(refine gL 104 11 Tryz.func104 #[.pointer (some ⟨g,0,none⟩),.int .i64 0] ?_;(with_reducible refine(aa.calls g ah (wrap64 (bg+1)) bq 0 t191 t192 t193 w0 _ ?side1 ?side2 A2.out).mono ?_);(case side1=>exact qI);(case side2=>exact qB);rintro e w6 ⟨rfl,hi,hb,hk⟩;refine⟨_,rfl,?_⟩;have cR:=am (aw.trans qK hk (.inl rfl));have cM:=am (hb);have cY:=am (hi);clear HK;clear HB;clear aQ;have HK:=cR;have HB:=cM;have aQ:=cY;clear cR cM cY;(try clear hb);(try clear dc);(try clear hk);(try clear hi))|(refine gL 111 12 Tryz.func111 #[.int .u8 t191] ?_;(with_reducible refine(ax.calls k t191 t194 _ A3.out).mono ?_);rintro e w' ⟨rfl,⟨nd,rfl⟩⟩;refine⟨_,rfl,?_⟩;(try(rw [dC w6];generalize gI:World.drewN w6 _=w6;have cR:ak (aD w0 w6 g ah t192 t193):=⟨by rw [←gI];exact qI⟩;have cM:ak (aw w w6 g none):=⟨by rw [←gI];exact qK⟩;have cY:ak (Below w0.heap.size w0 w6):=⟨by rw [←gI];exact qB⟩;clear aQ HK HB gI;have aQ:=cR;have HK:=cM;have HB:=cY;clear cR cM cY));obtain⟨wz,wA,fM,wB,wC⟩:=aQ.out;have ly:=aK fM;have lz:=aM fM;have lA:=aN fM;have lB:=ai fM 1;have lC:=ai fM 2;clear fM wB))
  go_loopg [] k (fun kq w' =>∃(aZ:Int) (a8:Bool),ak (aj.l0 kq ah aZ a8=some (r1,r2))∧ak (kq≤k)∧ak (aD w0 w' g ah aZ a8)∧ak (aw w w' g none)∧ak (Below w0.heap.size w0 w'))
  case atStart=>exact⟨(wrap64 (t192+1)),(t193),H',⟨Nat.le_refl _⟩,⟨qI⟩,⟨qK⟩,⟨qB⟩⟩
  case round=>
   clear H'
   try clear c1
   try clear p2
   try clear c4
   try clear eF
   try clear p6
   try clear wF
   try clear wG
   try clear wH
   try clear ly
   try clear lz
   try clear lA
   try clear wI
   try clear wJ
   try clear lB
   try clear lC
   obtain⟨aZ,a8,HA,dR,aQ,HK,HB⟩:=hrel
   cases gk with
   | zero=>exact absurd HA.out (by simp [aj.l0])
   | succ k1=>
    have H:=HA.out
    clear HA
    simp only [aj.l0] at H
    replace H:=Option.bind_eq_some_iff.mp H
    obtain⟨⟨t195,t196,t197⟩,Ed,H⟩:=H
    replace H:(if t195=true then (some (t196,t197)) else ((aa.f ah t196 t197 0).bind fun iD=>(if (Go.bits .and .u8 iD.1 192)=128 then (aj.l0 k1 ah (wrap64 (iD.2.1+1)) iD.2.2) else (some (iD.2.1,iD.2.2)))))=some (r1,r2):=H
    have A8:=am Ed
    clear Ed
    by_cases c9:t195=true
    ·subst c9
     have H1:(some (t196,t197))=some (r1,r2):=by rw [if_pos rfl] at H;exact H
     clear H
     have H:=H1
     clear H1
     simp only [Option.some.injEq,Prod.mk.injEq] at H
     obtain⟨rfl,rfl⟩:=H
     go_wp2_with (first|(refine gL 67 22 Tryz.func67 #[.pointer (some ⟨g,0,none⟩)] ?_;(with_reducible refine mK (aV.calls g ah aZ a8 true t196 t197 w0 _ qI qB A8.out) ?_);clear aQ HB HK;intro Qg aQ HB HK;refine⟨_,rfl,?_⟩))
     first|go_end0|((try simp only [Exit.inBlock,Exit.then]);refine bodyPost_ret (results_none rfl _ _ _) rfl ?_)
     exact⟨qG,qI,qB,qK⟩
    ·replace c9:=Bool.eq_false_iff.mpr c9
     subst c9
     have H1:((aa.f ah t196 t197 0).bind fun iD=>(if (Go.bits .and .u8 iD.1 192)=128 then (aj.l0 k1 ah (wrap64 (iD.2.1+1)) iD.2.2) else (some (iD.2.1,iD.2.2))))=some (r1,r2):=by rw [if_neg (show ¬(false=true) by decide)] at H;exact H
     clear H
     have H:=H1
     clear H1
     replace H:=Option.bind_eq_some_iff.mp H
     obtain⟨⟨t198,t199,t200⟩,sl,H⟩:=H
     replace H:(if (Go.bits .and .u8 t198 192)=128 then (aj.l0 k1 ah (wrap64 (t199+1)) t200) else (some (t199,t200)))=some (r1,r2):=H
     have Mv:=am sl
     clear sl
     by_cases ln:(Go.bits .and .u8 t198 192)=128
     ·rw [if_pos ln] at H
      have iE:((Go.bits .and .u8 t198 192)==128)=true:=beq_iff_eq.mpr ln
      have EE:((Go.bits .and .u8 t198 192) !=128)=false:=bne_eq_false_iff_eq.mpr ln
      clear ln
      have H':=am H
      clear H
      go_wp2_with (first|(refine gL 67 22 Tryz.func67 #[.pointer (some ⟨g,0,none⟩)] ?_;(with_reducible refine mK (aV.calls g ah aZ a8 false t196 t197 w0 _ qI qB A8.out) ?_);clear aQ HB HK;intro Qh aQ HB HK;refine⟨_,rfl,?_⟩)|(go_at_call 104;(with_reducible refine mK (aa.calls g ah t196 t197 0 t198 t199 t200 w0 _ qI qB Mv.out) ?_);clear aQ HB HK;intro w14 aQ HB HK;obtain⟨abQ,abR,vh,WQ,abS⟩:=aQ.out;have wK:=aK vh;have wL:=aM vh;have wM:=aN vh;have wN:=ai vh 1;have wO:=ai vh 2;clear vh WQ))
      go_roundg k1
      case measure=>have:=dR.out;omega
      case rel=>exact⟨(wrap64 (t199+1)),(t200),H',⟨by have:=dR.out;omega⟩,⟨qI⟩,⟨qK⟩,⟨qB⟩⟩
     ·rw [if_neg ln] at H
      have iE:((Go.bits .and .u8 t198 192)==128)=false:=beq_eq_false_iff_ne.mpr ln
      have EE:((Go.bits .and .u8 t198 192) !=128)=true:=bne_iff_ne.mpr ln
      simp only [Option.some.injEq,Prod.mk.injEq] at H
      obtain⟨rfl,rfl⟩:=H
      go_wp2_with (first|(refine gL 67 22 Tryz.func67 #[.pointer (some ⟨g,0,none⟩)] ?_;(with_reducible refine mK (aV.calls g ah aZ a8 false t196 t197 w0 _ qI qB A8.out) ?_);clear aQ HB HK;intro M1 aQ HB HK;refine⟨_,rfl,?_⟩)|(go_at_call 104;(with_reducible refine mK (aa.calls g ah t196 t197 0 t198 t199 t200 w0 _ qI qB Mv.out) ?_);clear aQ HB HK;intro Eo aQ HB HK))
      first|go_end0|((try simp only [Exit.inBlock,Exit.then]);refine bodyPost_ret (results_none rfl _ _ _) rfl ?_)
      exact⟨qG,qI,qB,qK⟩
 ·rw [if_neg c4] at H
  have eF:decide (t194<0)=false:=decide_eq_false c4
  clear c4
  have CB:=am H
  clear H
  obtain⟨abT,abU,vi,WR,abV⟩:=aQ.out
  have wP:=aK vi
  have wQ:=aM vi
  have wR:=aN vi
  have wS:=ai vi 1
  have wT:=ai vi 2
  clear vi WR
  go_enter Tryz.func136,Tryz.ntmps136
  go_upto_block 2 with (first|(refine gL 104 11 Tryz.func104 #[.pointer (some ⟨g,0,none⟩),.int .i64 0] ?_;(with_reducible refine(aa.calls g ah (wrap64 (bg+1)) bq 0 t191 t192 t193 w0 _ ?side1 ?side2 A2.out).mono ?_);(case side1=>exact qI);(case side2=>exact qB);rintro e VU ⟨rfl,hi,hb,hk⟩;refine⟨_,rfl,?_⟩;have cR:=am (aw.trans qK hk (.inl rfl));have cM:=am (hb);have cY:=am (hi);clear HK;clear HB;clear aQ;have HK:=cR;have HB:=cM;have aQ:=cY;clear cR cM cY;(try clear hb);(try clear dc);(try clear hk);(try clear hi))|(refine gL 111 12 Tryz.func111 #[.int .u8 t191] ?_;(with_reducible refine(ax.calls k t191 t194 _ A3.out).mono ?_);rintro e w' ⟨rfl,⟨nd,rfl⟩⟩;refine⟨_,rfl,?_⟩))
  (try simp only [Act.put,List.setIfInBounds_toArray,List.set_cons_zero,List.set_cons_succ])
  go_cut [] (fun wc=>∃(kq:Nat) (dt:Int) (gj:Bool),ak (aj.j2 kq ah dt gj=some (r1,r2))∧ak (kq≤k)∧ak (aD w0 wc g ah dt gj)∧ak (aw w wc g none)∧ak (Below w0.heap.size w0 wc))
  case first=>
   have H:=CB.out
   clear CB
   have H':=am H
   clear H
   go_wp2
   go_loopg [2] k (fun kq v2 w' =>∃(wU:Int) (aZ:Int) (a8:Bool),v2= .int .i64 wU∧ak (aj.l1 kq wU ah aZ a8=some (r1,r2))∧ak (kq≤k)∧ak (aD w0 w' g ah aZ a8)∧ak (aw w w' g none)∧ak (Below w0.heap.size w0 w'))
   case atStart=>exact⟨(0),(t192),(t193),qF,H',⟨Nat.le_refl _⟩,⟨qI⟩,⟨qK⟩,⟨qB⟩⟩
   case round=>
    clear H'
    try clear c1
    try clear p2
    try clear c4
    try clear eF
    try clear c6
    try clear p6
    try clear c9
    try clear eZ
    try clear kJ
    try clear ln
    try clear iE
    try clear EE
    try clear kr
    try clear wK
    try clear wL
    try clear wM
    try clear wP
    try clear wQ
    try clear wR
    try clear wF
    try clear wG
    try clear wH
    try clear ly
    try clear lz
    try clear lA
    try clear wN
    try clear wO
    try clear wS
    try clear wT
    try clear wI
    try clear wJ
    try clear lB
    try clear lC
    try clear p2
    try clear p6
    obtain⟨wU,aZ,a8,rfl,HA,dR,aQ,HK,HB⟩:=hrel
    cases gk with
    | zero=>exact absurd HA.out (by simp [aj.l1])
    | succ k1=>
     have H:=HA.out
     clear HA
     simp only [aj.l1] at H
     by_cases ov:wU<6
     ·rw [if_pos ov] at H
      have gB:decide (wU<6)=true:=decide_eq_true ov
      clear ov
      (first|rw [gB]|(simp only [cB,cJ];rw [gB])|skip)
      replace H:=Option.bind_eq_some_iff.mp H
      obtain⟨⟨t201,t202,t203⟩,WS,H⟩:=H
      replace H:((ax.f k1 t201).bind fun t204=>(if t204≥0 then (aj.l1 k1 (wrap64 (wU+1)) ah (wrap64 (t202+1)) t203) else (aj.j2 k1 ah t202 t203)))=some (r1,r2):=H
      have A22:=am WS
      clear WS
      replace H:=Option.bind_eq_some_iff.mp H
      obtain⟨t204,sm,H⟩:=H
      replace H:(if t204≥0 then (aj.l1 k1 (wrap64 (wU+1)) ah (wrap64 (t202+1)) t203) else (aj.j2 k1 ah t202 t203))=some (r1,r2):=H
      have I6:=am sm
      clear sm
      by_cases mJ:t204≥0
      ·rw [if_pos mJ] at H
       have mL:decide (0≤t204)=true:=decide_eq_true mJ
       clear mJ
       have H':=am H
       clear H
       go_wp2_with (first|(go_at_call 104;(with_reducible refine mK (aa.calls g ah aZ a8 0 t201 t202 t203 w0 _ qI qB A22.out) ?_);clear aQ HB HK;intro Na aQ HB HK)|(go_at_call 111;(with_reducible refine(ax.calls k1 t201 t204 _ I6.out).mono ?_);rintro e w' ⟨rfl,⟨nd,rfl⟩⟩;(try(rw [dC Na];generalize gI:World.drewN Na _=Na;have cR:ak (aD w0 Na g ah t202 t203):=⟨by rw [←gI];exact qI⟩;have cM:ak (aw w Na g none):=⟨by rw [←gI];exact qK⟩;have cY:ak (Below w0.heap.size w0 Na):=⟨by rw [←gI];exact qB⟩;clear aQ HK HB gI;have aQ:=cR;have HK:=cM;have HB:=cY;clear cR cM cY));obtain⟨abW,abX,vj,WT,abY⟩:=aQ.out;have EF:=aK vj;have EG:=aM vj;have EH:=aN vj;have EI:=ai vj 1;have EJ:=ai vj 2;clear vj WT))
       go_roundg k1
       case measure=>have:=dR.out;omega
       case rel=>exact⟨(wrap64 (wU+1)),(wrap64 (t202+1)),(t203),qF,H',⟨by have:=dR.out;omega⟩,⟨qI⟩,⟨qK⟩,⟨qB⟩⟩
      ·rw [if_neg mJ] at H
       have mL:decide (0≤t204)=false:=decide_eq_false mJ
       clear mJ
       have H':=am H
       clear H
       go_wp2_with (first|(go_at_call 104;(with_reducible refine mK (aa.calls g ah aZ a8 0 t201 t202 t203 w0 _ qI qB A22.out) ?_);clear aQ HB HK;intro w27 aQ HB HK)|(go_at_call 111;(with_reducible refine(ax.calls k1 t201 t204 _ I6.out).mono ?_);rintro e w' ⟨rfl,⟨nd,rfl⟩⟩))
       go_meet
       case rel=>exact⟨_,(t202),(t203),H',⟨by have:=dR.out;first|omega|exact Nat.le_refl _⟩,⟨qI⟩,⟨qK⟩,⟨qB⟩⟩
     ·rw [if_neg ov] at H
      have gB:decide (wU<6)=false:=decide_eq_false ov
      clear ov
      (first|rw [gB]|(simp only [cB,cJ];rw [gB])|skip)
      have H':=am H
      clear H
      go_wp2
      go_meet
      case rel=>exact⟨_,(aZ),(a8),H',⟨by have:=dR.out;first|omega|exact Nat.le_refl _⟩,⟨qI⟩,⟨qK⟩,⟨qB⟩⟩
  case rest=>
   clear CB
   try clear c1
   try clear c2
   try clear p2
   try clear c4
   try clear eF
   try clear c6
   try clear p6
   try clear c9
   try clear eZ
   try clear kJ
   try clear ln
   try clear iE
   try clear EE
   try clear kr
   try clear ov
   try clear gB
   try clear mJ
   try clear mL
   try clear wK
   try clear wL
   try clear wM
   try clear wP
   try clear wQ
   try clear wR
   try clear EF
   try clear EG
   try clear EH
   try clear wF
   try clear wG
   try clear wH
   try clear ly
   try clear lz
   try clear lA
   try clear wN
   try clear wO
   try clear wS
   try clear wT
   try clear EI
   try clear EJ
   try clear wI
   try clear wJ
   try clear lB
   try clear lC
   try clear p2
   try clear p6
   obtain⟨kq,dt,gj,HA,rl,aQ,HK,HB⟩:=hcut
   cases kq with
   | zero=>exact absurd HA.out (by simp [aj.j2])
   | succ CC=>
    have H:=HA.out
    clear HA
    simp only [aj.j2] at H
    replace H:=Option.bind_eq_some_iff.mp H
    obtain⟨⟨t205,t206,t207⟩,WU,H⟩:=H
    replace H:(if t205=13 then (aj.j3 CC ah t206 true) else (aj.j3 CC ah t206 t207))=some (r1,r2):=H
    have A28:=am WU
    clear WU
    have CD:=am H
    clear H
    go_upto_if 56 with (first|(refine gL 104 55 Tryz.func104 #[.pointer (some ⟨g,0,none⟩),.int .i64 0] ?_;(with_reducible refine mK (aa.calls g ah dt gj 0 t205 t206 t207 w0 _ qI qB A28.out) ?_);clear aQ HB HK;intro w30 aQ HB HK;refine⟨_,rfl,?_⟩))
    (try simp only [Act.put,List.setIfInBounds_toArray,List.set_cons_zero,List.set_cons_succ])
    go_cut [] (fun wc=>∃(kq:Nat) (mM:Bool),ak (aj.j3 kq ah t206 mM=some (r1,r2))∧ak (kq≤CC)∧ak (aD w0 wc g ah t206 mM)∧ak (aw w wc g none)∧ak (Below w0.heap.size w0 wc))
    case first=>
     have H:=CD.out
     clear CD
     by_cases uh:t205=13
     ·rw [if_pos uh] at H
      have ow:(t205==13)=true:=beq_iff_eq.mpr uh
      have vk:(t205 !=13)=false:=bne_eq_false_iff_eq.mpr uh
      clear uh
      (first|rw [ow]|(simp only [cB,cJ];rw [ow])|skip)
      have H':=am H
      clear H
      obtain⟨Nc,Nd,kK,I7,Nf⟩:=aQ.out
      have EK:=aK kK
      have EL:=aM kK
      have EM:=aN kK
      have EN:=ai kK 1
      have EO:=ai kK 2
      clear kK I7
      go_wp2
      go_meet
      case rel=>exact⟨_,(true),H',⟨by have:=rl.out;first|omega|exact Nat.le_refl _⟩,⟨qI⟩,⟨qK⟩,⟨qB⟩⟩
     ·rw [if_neg uh] at H
      have ow:(t205==13)=false:=beq_eq_false_iff_ne.mpr uh
      have vk:(t205 !=13)=true:=bne_iff_ne.mpr uh
      (first|rw [ow]|(simp only [cB,cJ];rw [ow])|skip)
      have H':=am H
      clear H
      go_wp2
      go_meet
      case rel=>exact⟨_,(t207),H',⟨by have:=rl.out;first|omega|exact Nat.le_refl _⟩,⟨qI⟩,⟨qK⟩,⟨qB⟩⟩
    case rest=>
     clear CD
     try clear c1
     try clear c2
     try clear p2
     try clear c3
     try clear c4
     try clear eF
     try clear c6
     try clear p6
     try clear c9
     try clear eZ
     try clear kJ
     try clear ln
     try clear iE
     try clear EE
     try clear kr
     try clear ov
     try clear gB
     try clear mJ
     try clear mL
     try clear uh
     try clear ow
     try clear vk
     try clear wK
     try clear wL
     try clear wM
     try clear wP
     try clear wQ
     try clear wR
     try clear EF
     try clear EG
     try clear EH
     try clear EK
     try clear EL
     try clear EM
     try clear wF
     try clear wG
     try clear wH
     try clear ly
     try clear lz
     try clear lA
     try clear wN
     try clear wO
     try clear wS
     try clear wT
     try clear EI
     try clear EJ
     try clear EN
     try clear EO
     try clear wI
     try clear wJ
     try clear lB
     try clear lC
     try clear p2
     try clear p6
     obtain⟨kq,mM,HA,I8,aQ,HK,HB⟩:=hcut
     cases kq with
     | zero=>exact absurd HA.out (by simp [aj.j3])
     | succ rm=>
      have H:=HA.out
      clear HA
      simp only [aj.j3] at H
      replace H:=Option.bind_eq_some_iff.mp H
      obtain⟨⟨t208,t209,t210⟩,zl,H⟩:=H
      replace H:((bJ.f t208).bind fun t211=>(if t211=true then (some (wrap64 (t209+1),t210)) else (some (t209,t210))))=some (r1,r2):=H
      have Sq:=am zl
      clear zl
      replace H:=Option.bind_eq_some_iff.mp H
      obtain⟨t211,zm,H⟩:=H
      replace H:(if t211=true then (some (wrap64 (t209+1),t210)) else (some (t209,t210)))=some (r1,r2):=H
      have VW:=am zm
      clear zm
      by_cases I9:t211=true
      ·subst I9
       have H1:(some (wrap64 (t209+1),t210))=some (r1,r2):=by rw [if_pos rfl] at H;exact H
       clear H
       have H:=H1
       clear H1
       simp only [Option.some.injEq,Prod.mk.injEq] at H
       obtain⟨rfl,rfl⟩:=H
       go_wp2_with (first|(refine gL 104 61 Tryz.func104 #[.pointer (some ⟨g,0,none⟩),.int .i64 0] ?_;(with_reducible refine mK (aa.calls g ah t206 mM 0 t208 t209 t210 w0 _ qI qB Sq.out) ?_);clear aQ HB HK;intro Ql aQ HB HK;refine⟨_,rfl,?_⟩)|(refine gL 105 62 Tryz.func105 #[.int .u8 t208] ?_;(with_reducible refine(bJ.calls t208 true _ VW.out).mono ?_);rintro e w' ⟨rfl,⟨nd,rfl⟩⟩;refine⟨_,rfl,?_⟩;(try(rw [dC Ql];generalize gI:World.drewN Ql _=Ql;have cR:ak (aD w0 Ql g ah t209 t210):=⟨by rw [←gI];exact qI⟩;have cM:ak (aw w Ql g none):=⟨by rw [←gI];exact qK⟩;have cY:ak (Below w0.heap.size w0 Ql):=⟨by rw [←gI];exact qB⟩;clear aQ HK HB gI;have aQ:=cR;have HK:=cM;have HB:=cY;clear cR cM cY));obtain⟨abZ,aca,vl,WV,acb⟩:=aQ.out;have acd:=aK vl;have ace:=aM vl;have acf:=aN vl;have acg:=ai vl 1;have ach:=ai vl 2;clear vl WV))
       first|go_end0|((try simp only [Exit.inBlock,Exit.then]);refine bodyPost_ret (results_none rfl _ _ _) rfl ?_)
       exact⟨qG,qI,qB,qK⟩
      ·replace I9:=Bool.eq_false_iff.mpr I9
       subst I9
       have H1:(some (t209,t210))=some (r1,r2):=by rw [if_neg (show ¬(false=true) by decide)] at H;exact H
       clear H
       have H:=H1
       clear H1
       simp only [Option.some.injEq,Prod.mk.injEq] at H
       obtain⟨rfl,rfl⟩:=H
       go_wp2_with (first|(refine gL 104 61 Tryz.func104 #[.pointer (some ⟨g,0,none⟩),.int .i64 0] ?_;(with_reducible refine mK (aa.calls g ah t206 mM 0 t208 t209 t210 w0 _ qI qB Sq.out) ?_);clear aQ HB HK;intro w38 aQ HB HK;refine⟨_,rfl,?_⟩)|(refine gL 105 62 Tryz.func105 #[.int .u8 t208] ?_;(with_reducible refine(bJ.calls t208 false _ VW.out).mono ?_);rintro e w' ⟨rfl,⟨nd,rfl⟩⟩;refine⟨_,rfl,?_⟩))
       first|go_end0|((try simp only [Exit.inBlock,Exit.then]);refine bodyPost_ret (results_none rfl _ _ _) rfl ?_)
       exact⟨qG,qI,qB,qK⟩
mutual
def aq.l0:Nat→Int→List Int→Int→Bool→Option (ByteArray×Int×Bool)
 | 0,_,_,_,_=>none
 | k+1,x3,x1000,x1001,x1002=>(aV.f x1000 x1001 x1002).bind fun EP=>(if EP.1=true then (some ((⟨#[115,116,114,105,110,103]⟩:ByteArray),EP.2.1,true)) else ((aa.f x1000 EP.2.1 EP.2.2 0).bind fun dN=>(if dN.1=x3 then (some ((⟨#[115,116,114,105,110,103]⟩:ByteArray),wrap64 (dN.2.1+1),dN.2.2)) else ((bk.f dN.1).bind fun t221=>(if t221=true then (some ((⟨#[98,97,100,32,115,116,114,105,110,103]⟩:ByteArray),dN.2.1,true)) else (if dN.1=92 then ((aa.f x1000 dN.2.1 dN.2.2 1).bind fun fB=>((bk.f fB.1).bind fun t225=>(aq.j1 k x3 t225 x1000 fB.2.1 fB.2.2))) else (aq.j1 k x3 false x1000 dN.2.1 dN.2.2)))))))
def aq.j1:Nat→Int→Bool→List Int→Int→Bool→Option (ByteArray×Int×Bool)
 | 0,_,_,_,_,_=>none
 | k+1,x3,x43,x1000,x1001,x1002=>if x43=true then ((aa.f x1000 x1001 x1002 1).bind fun po=>(if po.1=13 then (aq.l0 k x3 x1000 (wrap64 (po.2.1+2)) true) else (aq.l0 k x3 x1000 (wrap64 (po.2.1+2)) po.2.2))) else ((ay.f x1000 x1001 x1002 0).bind fun mN=>(if mN.1=true then ((aj.f k x1000 mN.2.1 mN.2.2).bind fun mO=>(aq.l0 k x3 x1000 mO.1 mO.2)) else (aq.l0 k x3 x1000 (wrap64 (mN.2.1+1)) mN.2.2)))
end
def aq.f (k:Nat) (ah:List Int) (bg:Int) (bq:Bool):Option (ByteArray×Int×Bool):=(aa.f ah bg bq 0).bind fun so=>(aq.l0 k so.1 ah (wrap64 (so.2.1+1)) so.2.2)
theorem aq.calls (k:Nat) (g:Nat) (ah:List Int) (bg:Int) (bq:Bool) (r1:ByteArray) (r2:Int) (r3:Bool) (w0 w:World) (hI:aD w0 w g ah bg bq) (hB:Below w0.heap.size w0 w) (h:aq.f k ah bg bq=some (r1,r2,r3)):
  Calls Tryz.prog 107 #[.pointer (some ⟨g,0,none⟩)] w fun e w' =>e= .returned (.string r1)∧aD w0 w' g ah r2 r3∧Below w0.heap.size w0 w' ∧aw w w' g none:=by
 have aQ:=am hI
 have HK:=am (aw.refl w g none)
 have HL:=am hB.size
 clear hI
 have yX:=am hB.size
 have HB:=am hB
 clear hB
 have H:((aa.f ah bg bq 0).bind fun so=>(aq.l0 k so.1 ah (wrap64 (so.2.1+1)) so.2.2))=some (r1,r2,r3):=h
 clear h
 replace H:=Option.bind_eq_some_iff.mp H
 obtain⟨⟨t212,t213,t214⟩,mf,H⟩:=H
 replace H:(aq.l0 k t212 ah (wrap64 (t213+1)) t214)=some (r1,r2,r3):=H
 have A2:=am mf
 clear mf
 have H':=am H
 clear H
 go_enter Tryz.func107,Tryz.ntmps107
 go_wp2_with (first|(refine gL 104 6 Tryz.func104 #[.pointer (some ⟨g,0,none⟩),.int .i64 0] ?_;(with_reducible refine mK (aa.calls g ah bg bq 0 t212 t213 t214 w0 _ qI qB A2.out) ?_);clear aQ HB HK;intro w3 aQ HB HK;refine⟨_,rfl,?_⟩;obtain⟨R7,R8,qn,R9,Se⟩:=aQ.out;have Co:=aK qn;have Cp:=aM qn;have Cq:=aN qn;have Cr:=ai qn 1;have Cs:=ai qn 2;clear qn R9))
 go_loopg [] k (fun kq w' =>∃(aZ:Int) (a8:Bool),ak (aq.l0 kq t212 ah aZ a8=some (r1,r2,r3))∧ak (kq≤k)∧ak (aD w0 w' g ah aZ a8)∧ak (aw w w' g none)∧ak (Below w0.heap.size w0 w'))
 case atStart=>exact⟨(wrap64 (t213+1)),(t214),H',⟨Nat.le_refl _⟩,⟨qI⟩,⟨qK⟩,⟨qB⟩⟩
 case round=>
  clear H'
  try clear c1
  try clear p2
  try clear Co
  try clear Cp
  try clear Cq
  try clear Cr
  try clear Cs
  obtain⟨aZ,a8,HA,dR,aQ,HK,HB⟩:=hrel
  cases gk with
  | zero=>exact absurd HA.out (by simp [aq.l0])
  | succ k1=>
   have H:=HA.out
   clear HA
   simp only [aq.l0] at H
   replace H:=Option.bind_eq_some_iff.mp H
   obtain⟨⟨t215,t216,t217⟩,BX,H⟩:=H
   replace H:(if t215=true then (some ((⟨#[115,116,114,105,110,103]⟩:ByteArray),t216,true)) else ((aa.f ah t216 t217 0).bind fun dN=>(if dN.1=t212 then (some ((⟨#[115,116,114,105,110,103]⟩:ByteArray),wrap64 (dN.2.1+1),dN.2.2)) else ((bk.f dN.1).bind fun t221=>(if t221=true then (some ((⟨#[98,97,100,32,115,116,114,105,110,103]⟩:ByteArray),dN.2.1,true)) else (if dN.1=92 then ((aa.f ah dN.2.1 dN.2.2 1).bind fun fB=>((bk.f fB.1).bind fun t225=>(aq.j1 k1 t212 t225 ah fB.2.1 fB.2.2))) else (aq.j1 k1 t212 false ah dN.2.1 dN.2.2)))))))=some (r1,r2,r3):=H
   have A5:=am BX
   clear BX
   by_cases c6:t215=true
   ·subst c6
    have H1:(some ((⟨#[115,116,114,105,110,103]⟩:ByteArray),t216,true))=some (r1,r2,r3):=by rw [if_pos rfl] at H;exact H
    clear H
    have H:=H1
    clear H1
    simp only [Option.some.injEq,Prod.mk.injEq] at H
    obtain⟨rfl,rfl,rfl⟩:=H
    go_wp2_with (first|(refine gL 67 15 Tryz.func67 #[.pointer (some ⟨g,0,none⟩)] ?_;(with_reducible refine mK (aV.calls g ah aZ a8 true t216 t217 w0 _ qI qB A5.out) ?_);clear aQ HB HK;intro w7 aQ HB HK;refine⟨_,rfl,?_⟩;obtain⟨IM,IN,kz,IP,Ct⟩:=aQ.out;have j9:=aK kz;have kf:=aM kz;have kg:=aN kz;have ki:=ai kz 1;have kj:=ai kz 2;clear kz IP))
    go_ret
    exact⟨qG,qI,qB,qK⟩
   ·replace c6:=Bool.eq_false_iff.mpr c6
    subst c6
    have H1:((aa.f ah t216 t217 0).bind fun dN=>(if dN.1=t212 then (some ((⟨#[115,116,114,105,110,103]⟩:ByteArray),wrap64 (dN.2.1+1),dN.2.2)) else ((bk.f dN.1).bind fun t221=>(if t221=true then (some ((⟨#[98,97,100,32,115,116,114,105,110,103]⟩:ByteArray),dN.2.1,true)) else (if dN.1=92 then ((aa.f ah dN.2.1 dN.2.2 1).bind fun fB=>((bk.f fB.1).bind fun t225=>(aq.j1 k1 t212 t225 ah fB.2.1 fB.2.2))) else (aq.j1 k1 t212 false ah dN.2.1 dN.2.2))))))=some (r1,r2,r3):=by rw [if_neg (show ¬(false=true) by decide)] at H;exact H
    clear H
    have H:=H1
    clear H1
    replace H:=Option.bind_eq_some_iff.mp H
    obtain⟨⟨t218,t219,t220⟩,Ee,H⟩:=H
    replace H:(if t218=t212 then (some ((⟨#[115,116,114,105,110,103]⟩:ByteArray),wrap64 (t219+1),t220)) else ((bk.f t218).bind fun t221=>(if t221=true then (some ((⟨#[98,97,100,32,115,116,114,105,110,103]⟩:ByteArray),t219,true)) else (if t218=92 then ((aa.f ah t219 t220 1).bind fun fB=>((bk.f fB.1).bind fun t225=>(aq.j1 k1 t212 t225 ah fB.2.1 fB.2.2))) else (aq.j1 k1 t212 false ah t219 t220)))))=some (r1,r2,r3):=H
    have A9:=am Ee
    clear Ee
    by_cases eZ:t218=t212
    ·rw [if_pos eZ] at H
     have mg:(t218==t212)=true:=beq_iff_eq.mpr eZ
     have qT:(t218 !=t212)=false:=bne_eq_false_iff_eq.mpr eZ
     clear eZ
     simp only [Option.some.injEq,Prod.mk.injEq] at H
     obtain⟨rfl,rfl,rfl⟩:=H
     go_wp2_with (first|(refine gL 67 15 Tryz.func67 #[.pointer (some ⟨g,0,none⟩)] ?_;(with_reducible refine mK (aV.calls g ah aZ a8 false t216 t217 w0 _ qI qB A5.out) ?_);clear aQ HB HK;intro VT aQ HB HK;refine⟨_,rfl,?_⟩)|(refine gL 104 18 Tryz.func104 #[.pointer (some ⟨g,0,none⟩),.int .i64 0] ?_;(with_reducible refine mK (aa.calls g ah t216 t217 0 t218 t219 t220 w0 _ qI qB A9.out) ?_);clear aQ HB HK;intro VS aQ HB HK;refine⟨_,rfl,?_⟩;obtain⟨aci,acj,vm,WW,ack⟩:=aQ.out;have Ng:=aK vm;have Nh:=aM vm;have Ni:=aN vm;have Nj:=ai vm 1;have Nk:=ai vm 2;clear vm WW))
     go_ret
     exact⟨qG,qI,qB,qK⟩
    ·rw [if_neg eZ] at H
     have mg:(t218==t212)=false:=beq_eq_false_iff_ne.mpr eZ
     have qT:(t218 !=t212)=true:=bne_iff_ne.mpr eZ
     replace H:=Option.bind_eq_some_iff.mp H
     obtain⟨t221,zd,H⟩:=H
     replace H:(if t221=true then (some ((⟨#[98,97,100,32,115,116,114,105,110,103]⟩:ByteArray),t219,true)) else (if t218=92 then ((aa.f ah t219 t220 1).bind fun fB=>((bk.f fB.1).bind fun t225=>(aq.j1 k1 t212 t225 ah fB.2.1 fB.2.2))) else (aq.j1 k1 t212 false ah t219 t220)))=some (r1,r2,r3):=H
     have VV:=am zd
     clear zd
     by_cases ox:t221=true
     ·subst ox
      have H1:(some ((⟨#[98,97,100,32,115,116,114,105,110,103]⟩:ByteArray),t219,true))=some (r1,r2,r3):=by rw [if_pos rfl] at H;exact H
      clear H
      have H:=H1
      clear H1
      simp only [Option.some.injEq,Prod.mk.injEq] at H
      obtain⟨rfl,rfl,rfl⟩:=H
      go_wp2_with (first|(refine gL 67 15 Tryz.func67 #[.pointer (some ⟨g,0,none⟩)] ?_;(with_reducible refine mK (aV.calls g ah aZ a8 false t216 t217 w0 _ qI qB A5.out) ?_);clear aQ HB HK;intro M1 aQ HB HK;refine⟨_,rfl,?_⟩)|(refine gL 104 18 Tryz.func104 #[.pointer (some ⟨g,0,none⟩),.int .i64 0] ?_;(with_reducible refine mK (aa.calls g ah t216 t217 0 t218 t219 t220 w0 _ qI qB A9.out) ?_);clear aQ HB HK;intro Eo aQ HB HK;refine⟨_,rfl,?_⟩)|(refine gL 134 39 Tryz.func134 #[.int .u8 t218] ?_;(with_reducible refine(bk.calls t218 true _ VV.out).mono ?_);rintro e w' ⟨rfl,⟨nd,rfl⟩⟩;refine⟨_,rfl,?_⟩;(try(rw [dC Eo];generalize gI:World.drewN Eo _=Eo;have cR:ak (aD w0 Eo g ah t219 t220):=⟨by rw [←gI];exact qI⟩;have cM:ak (aw w Eo g none):=⟨by rw [←gI];exact qK⟩;have cY:ak (Below w0.heap.size w0 Eo):=⟨by rw [←gI];exact qB⟩;clear aQ HK HB gI;have aQ:=cR;have HK:=cM;have HB:=cY;clear cR cM cY));obtain⟨M3,M4,kG,I0,M5⟩:=aQ.out;have Ep:=aK kG;have Er:=aM kG;have Es:=aN kG;have Et:=ai kG 1;have Eu:=ai kG 2;clear kG I0))
      go_ret
      exact⟨qG,qI,qB,qK⟩
     ·replace ox:=Bool.eq_false_iff.mpr ox
      subst ox
      have H1:(if t218=92 then ((aa.f ah t219 t220 1).bind fun fB=>((bk.f fB.1).bind fun t225=>(aq.j1 k1 t212 t225 ah fB.2.1 fB.2.2))) else (aq.j1 k1 t212 false ah t219 t220))=some (r1,r2,r3):=by rw [if_neg (show ¬(false=true) by decide)] at H;exact H
      clear H
      have H:=H1
      clear H1
      have CE:=am H
      clear H
      go_upto_region 12 with (first|(refine gL 67 15 Tryz.func67 #[.pointer (some ⟨g,0,none⟩)] ?_;(with_reducible refine mK (aV.calls g ah aZ a8 false t216 t217 w0 _ qI qB A5.out) ?_);clear aQ HB HK;intro VU aQ HB HK;refine⟨_,rfl,?_⟩)|(refine gL 104 18 Tryz.func104 #[.pointer (some ⟨g,0,none⟩),.int .i64 0] ?_;(with_reducible refine mK (aa.calls g ah t216 t217 0 t218 t219 t220 w0 _ qI qB A9.out) ?_);clear aQ HB HK;intro w21 aQ HB HK;refine⟨_,rfl,?_⟩)|(refine gL 134 39 Tryz.func134 #[.int .u8 t218] ?_;(with_reducible refine(bk.calls t218 false _ VV.out).mono ?_);rintro e w' ⟨rfl,⟨nd,rfl⟩⟩;refine⟨_,rfl,?_⟩))
      (try simp only [Act.put,List.setIfInBounds_toArray,List.set_cons_zero,List.set_cons_succ])
      go_cut [43] (fun v43 wc=>∃(kq:Nat) (wV:Bool) (eG:Int) (eH:Bool),v43= .bool wV∧ak (aq.j1 kq t212 wV ah eG eH=some (r1,r2,r3))∧ak (kq≤k1)∧ak (aD w0 wc g ah eG eH)∧ak (aw w wc g none)∧ak (Below w0.heap.size w0 wc))
      case first=>
       have H:=CE.out
       clear CE
       by_cases Mw:t218=92
       ·rw [if_pos Mw] at H
        have vn:(t218==92)=true:=beq_iff_eq.mpr Mw
        have Qn:(t218 !=92)=false:=bne_eq_false_iff_eq.mpr Mw
        clear Mw
        (first|rw [vn]|(simp only [cB,cJ];rw [vn])|skip)
        replace H:=Option.bind_eq_some_iff.mp H
        obtain⟨⟨t222,t223,t224⟩,sm,H⟩:=H
        replace H:((bk.f t222).bind fun t225=>(aq.j1 k1 t212 t225 ah t223 t224))=some (r1,r2,r3):=H
        have I6:=am sm
        clear sm
        replace H:=Option.bind_eq_some_iff.mp H
        obtain⟨t225,Ja,H⟩:=H
        replace H:(aq.j1 k1 t212 t225 ah t223 t224)=some (r1,r2,r3):=H
        have A24:=am Ja
        clear Ja
        have H':=am H
        clear H
        go_wp2_with (first|(go_at_call 104;(with_reducible refine mK (aa.calls g ah t219 t220 1 t222 t223 t224 w0 _ qI qB I6.out) ?_);clear aQ HB HK;intro Na aQ HB HK)|(go_at_call 134;(with_reducible refine(bk.calls t222 t225 _ A24.out).mono ?_);rintro e w' ⟨rfl,⟨nd,rfl⟩⟩))
        go_meet
        case rel=>exact⟨_,(t225),(t223),(t224),qF,H',⟨by have:=dR.out;first|omega|exact Nat.le_refl _⟩,⟨qI⟩,⟨qK⟩,⟨qB⟩⟩
       ·rw [if_neg Mw] at H
        have vn:(t218==92)=false:=beq_eq_false_iff_ne.mpr Mw
        have Qn:(t218 !=92)=true:=bne_iff_ne.mpr Mw
        (first|rw [vn]|(simp only [cB,cJ];rw [vn])|skip)
        have H':=am H
        clear H
        go_wp2
        go_meet
        case rel=>exact⟨_,(false),(t219),(t220),qF,H',⟨by have:=dR.out;first|omega|exact Nat.le_refl _⟩,⟨qI⟩,⟨qK⟩,⟨qB⟩⟩
      case rest=>
       clear CE
       try clear c1
       try clear c2
       try clear p2
       try clear c6
       try clear p6
       try clear eZ
       try clear mg
       try clear qT
       try clear kr
       try clear ox
       try clear Mw
       try clear vn
       try clear Qn
       try clear Ng
       try clear Nh
       try clear Ni
       try clear Ep
       try clear Er
       try clear Es
       try clear Co
       try clear Cp
       try clear Cq
       try clear j9
       try clear kf
       try clear kg
       try clear Nj
       try clear Nk
       try clear Et
       try clear Eu
       try clear Cr
       try clear Cs
       try clear ki
       try clear kj
       try clear p2
       obtain⟨kq,wV,eG,eH,rfl,HA,mr,aQ,HK,HB⟩:=hcut
       cases kq with
       | zero=>exact absurd HA.out (by simp [aq.j1])
       | succ jr=>
        have H:=HA.out
        clear HA
        simp only [aq.j1] at H
        by_cases Mx:wV=true
        ·subst Mx
         have H1:((aa.f ah eG eH 1).bind fun po=>(if po.1=13 then (aq.l0 jr t212 ah (wrap64 (po.2.1+2)) true) else (aq.l0 jr t212 ah (wrap64 (po.2.1+2)) po.2.2)))=some (r1,r2,r3):=by rw [if_pos rfl] at H;exact H
         clear H
         have H:=H1
         clear H1
         replace H:=Option.bind_eq_some_iff.mp H
         obtain⟨⟨t226,t227,t228⟩,Jb,H⟩:=H
         replace H:(if t226=13 then (aq.l0 jr t212 ah (wrap64 (t227+2)) true) else (aq.l0 jr t212 ah (wrap64 (t227+2)) t228))=some (r1,r2,r3):=H
         have VX:=am Jb
         clear Jb
         by_cases nE:t226=13
         ·rw [if_pos nE] at H
          have iU:(t226==13)=true:=beq_iff_eq.mpr nE
          have mh:(t226 !=13)=false:=bne_eq_false_iff_eq.mpr nE
          clear nE
          have H':=am H
          clear H
          go_wp2_with (first|(refine gL 104 52 Tryz.func104 #[.pointer (some ⟨g,0,none⟩),.int .i64 1] ?_;(with_reducible refine mK (aa.calls g ah eG eH 1 t226 t227 t228 w0 _ qI qB VX.out) ?_);clear aQ HB HK;intro w29 aQ HB HK;refine⟨_,rfl,?_⟩;obtain⟨acm,acn,vo,WX,aco⟩:=aQ.out;have acp:=aK vo;have acq:=aM vo;have acr:=aN vo;have acs:=ai vo 1;have acu:=ai vo 2;clear vo WX))
          go_roundg jr
          case measure=>have:=dR.out;have:=mr.out;omega
          case rel=>exact⟨(wrap64 (t227+2)),(true),H',⟨by have:=dR.out;have:=mr.out;omega⟩,⟨qI⟩,⟨qK⟩,⟨qB⟩⟩
         ·rw [if_neg nE] at H
          have iU:(t226==13)=false:=beq_eq_false_iff_ne.mpr nE
          have mh:(t226 !=13)=true:=bne_iff_ne.mpr nE
          have H':=am H
          clear H
          go_wp2_with (first|(refine gL 104 52 Tryz.func104 #[.pointer (some ⟨g,0,none⟩),.int .i64 1] ?_;(with_reducible refine mK (aa.calls g ah eG eH 1 t226 t227 t228 w0 _ qI qB VX.out) ?_);clear aQ HB HK;intro w31 aQ HB HK;refine⟨_,rfl,?_⟩;obtain⟨Nc,Nd,kK,I7,Nf⟩:=aQ.out;have EK:=aK kK;have EL:=aM kK;have EM:=aN kK;have EN:=ai kK 1;have EO:=ai kK 2;clear kK I7))
          go_roundg jr
          case measure=>have:=dR.out;have:=mr.out;omega
          case rel=>exact⟨(wrap64 (t227+2)),(t228),H',⟨by have:=dR.out;have:=mr.out;omega⟩,⟨qI⟩,⟨qK⟩,⟨qB⟩⟩
        ·replace Mx:=Bool.eq_false_iff.mpr Mx
         subst Mx
         have H1:((ay.f ah eG eH 0).bind fun mN=>(if mN.1=true then ((aj.f jr ah mN.2.1 mN.2.2).bind fun mO=>(aq.l0 jr t212 ah mO.1 mO.2)) else (aq.l0 jr t212 ah (wrap64 (mN.2.1+1)) mN.2.2)))=some (r1,r2,r3):=by rw [if_neg (show ¬(false=true) by decide)] at H;exact H
         clear H
         have H:=H1
         clear H1
         replace H:=Option.bind_eq_some_iff.mp H
         obtain⟨⟨t229,t230,t231⟩,zl,H⟩:=H
         replace H:(if t229=true then ((aj.f jr ah t230 t231).bind fun mO=>(aq.l0 jr t212 ah mO.1 mO.2)) else (aq.l0 jr t212 ah (wrap64 (t230+1)) t231))=some (r1,r2,r3):=H
         have Sq:=am zl
         clear zl
         by_cases Gr:t229=true
         ·subst Gr
          have H1:((aj.f jr ah t230 t231).bind fun mO=>(aq.l0 jr t212 ah mO.1 mO.2))=some (r1,r2,r3):=by rw [if_pos rfl] at H;exact H
          clear H
          have H:=H1
          clear H1
          replace H:=Option.bind_eq_some_iff.mp H
          obtain⟨⟨t232,t233⟩,Jc,H⟩:=H
          replace H:(aq.l0 jr t212 ah t232 t233)=some (r1,r2,r3):=H
          have A35:=am Jc
          clear Jc
          have H':=am H
          clear H
          go_wp2_with (first|(refine gL 135 66 Tryz.func135 #[.pointer (some ⟨g,0,none⟩),.int .i64 0] ?_;(with_reducible refine mK (ay.calls g ah eG eH 0 true t230 t231 w0 _ qI qB Sq.out) ?_);clear aQ HB HK;intro Ql aQ HB HK;refine⟨_,rfl,?_⟩)|(refine gL 136 68 Tryz.func136 #[.pointer (some ⟨g,0,none⟩)] ?_;(with_reducible refine mK (aj.calls jr g ah t230 t231 t232 t233 w0 _ qI qB A35.out) ?_);clear aQ HB HK;intro w37 aQ HB HK;refine⟨_,rfl,?_⟩))
          go_roundg jr
          case measure=>have:=dR.out;have:=mr.out;omega
          case rel=>exact⟨(t232),(t233),H',⟨by have:=dR.out;have:=mr.out;omega⟩,⟨qI⟩,⟨qK⟩,⟨qB⟩⟩
         ·replace Gr:=Bool.eq_false_iff.mpr Gr
          subst Gr
          have H1:(aq.l0 jr t212 ah (wrap64 (t230+1)) t231)=some (r1,r2,r3):=by rw [if_neg (show ¬(false=true) by decide)] at H;exact H
          clear H
          have H:=H1
          clear H1
          have H':=am H
          clear H
          go_wp2_with (first|(refine gL 135 66 Tryz.func135 #[.pointer (some ⟨g,0,none⟩),.int .i64 0] ?_;(with_reducible refine mK (ay.calls g ah eG eH 0 false t230 t231 w0 _ qI qB Sq.out) ?_);clear aQ HB HK;intro w38 aQ HB HK;refine⟨_,rfl,?_⟩;obtain⟨acv,acw,vp,WY,acx⟩:=aQ.out;have acy:=aK vp;have acz:=aM vp;have acA:=aN vp;have acB:=ai vp 1;have acC:=ai vp 2;clear vp WY))
          go_roundg jr
          case measure=>have:=dR.out;have:=mr.out;omega
          case rel=>exact⟨(wrap64 (t230+1)),(t231),H',⟨by have:=dR.out;have:=mr.out;omega⟩,⟨qI⟩,⟨qK⟩,⟨qB⟩⟩
end Go.Proofs.YtlglijnaeaonpaaGreatDoor.bG
end
