/- FnRules: a part of the proof (Re); in it lines that print.sh printed, those that are used. -/
import Derived.Test.YtlglijnaeaonpaaGreatDoorRa
section
set_option maxHeartbeats 8000000
set_option maxRecDepth 100000
set_option linter.unusedVariables false
set_option linter.unusedSimpArgs false
namespace Go.Proofs.YtlglijnaeaonpaaGreatDoor.bG
open Go.RowKit Go.Proofs.YtlglijnaeaonpaaGreatDoorW.aC Go.Proofs.YtlglijnaeaonpaaGreatDoorW.dQ Go.Proofs.YtlglijnaeaonpaaGreatDoorW.eR
attribute [local go_sem] fZ ga iu iv fk fl gd gg
mutual
def af.j1:Nat→Int→List Int→Int→Bool→Option (ByteArray×Int×Bool)
 | 0,_,_,_,_=>none
 | k+1,x3,x1000,x1001,x1002=>af.l1 k x3 false x1000 x1001 x1002
def af.j3:Nat→Bool→List Int→Int→Bool→Option (ByteArray×Int×Bool)
 | 0,_,_,_,_=>none
 | k+1,x4,x1000,x1001,x1002=>(aa.f x1000 x1001 x1002 0).bind fun zw=>((ax.f k zw.1).bind fun qt=>(if qt≥0 then (af.j4 k x4 true x1000 zw.2.1 zw.2.2) else ((aa.f x1000 zw.2.1 zw.2.2 0).bind fun iH=>(if iH.1=63 then (af.j4 k x4 true x1000 iH.2.1 iH.2.2) else ((aa.f x1000 iH.2.1 iH.2.2 0).bind fun dX=>(if dX.1=45 then (if x4=true then (af.j4 k x4 true x1000 dX.2.1 dX.2.2) else ((aa.f x1000 dX.2.1 dX.2.2 1).bind fun fD=>((ax.f k fD.1).bind fun mU=>(af.j4 k x4 (decide (mU<0)) x1000 fD.2.1 fD.2.2)))) else (af.j4 k x4 false x1000 dX.2.1 dX.2.2)))))))
def af.j4:Nat→Bool→Bool→List Int→Int→Bool→Option (ByteArray×Int×Bool)
 | 0,_,_,_,_,_=>none
 | k+1,x4,x68,x1000,x1001,x1002=>if x68=true then (af.j5 k x4 x1000 x1001 true) else (af.j5 k x4 x1000 x1001 x1002)
def af.j5:Nat→Bool→List Int→Int→Bool→Option (ByteArray×Int×Bool)
 | 0,_,_,_,_=>none
 | k+1,x4,x1000,x1001,x1002=>if x4=true then (af.j6 k false x1000 x1001 x1002) else ((aa.f x1000 x1001 x1002 0).bind fun mV=>(if mV.1=45 then ((aa.f x1000 mV.2.1 mV.2.2 1).bind fun mW=>((ax.f k mW.1).bind fun sI=>(af.j6 k (decide (sI≥0)) x1000 mW.2.1 mW.2.2))) else (af.j6 k false x1000 mV.2.1 mV.2.2)))
def af.j6:Nat→Bool→List Int→Int→Bool→Option (ByteArray×Int×Bool)
 | 0,_,_,_,_=>none
 | k+1,x84,x1000,x1001,x1002=>if x84=true then (af.l2 k 0 x1000 (wrap64 (x1001+1)) x1002) else (some ((⟨#[114,97,110,103,101]⟩:ByteArray),x1001,x1002))
def af.j8:Nat→List Int→Int→Bool→Option (ByteArray×Int×Bool)
 | 0,_,_,_=>none
 | k+1,x1000,x1001,x1002=>(aa.f x1000 x1001 x1002 0).bind fun ET=>((ax.f k ET.1).bind fun uC=>(if uC≥0 then (some ((⟨#[114,97,110,103,101]⟩:ByteArray),ET.2.1,true)) else (some ((⟨#[114,97,110,103,101]⟩:ByteArray),ET.2.1,ET.2.2))))
def af.l2:Nat→Int→List Int→Int→Bool→Option (ByteArray×Int×Bool)
 | 0,_,_,_,_=>none
 | k+1,x5,x1000,x1001,x1002=>if x5<6 then ((aa.f x1000 x1001 x1002 0).bind fun zx=>((ax.f k zx.1).bind fun uD=>(if uD≥0 then (af.l2 k (wrap64 (x5+1)) x1000 (wrap64 (zx.2.1+1)) zx.2.2) else (af.j8 k x1000 zx.2.1 zx.2.2)))) else (af.j8 k x1000 x1001 x1002)
def af.l1:Nat→Int→Bool→List Int→Int→Bool→Option (ByteArray×Int×Bool)
 | 0,_,_,_,_,_=>none
 | k+1,x3,x4,x1000,x1001,x1002=>if x3<6 then ((aa.f x1000 x1001 x1002 0).bind fun zy=>(if zy.1=63 then (af.l1 k (wrap64 (x3+1)) true x1000 (wrap64 (zy.2.1+1)) zy.2.2) else (af.j3 k x4 x1000 zy.2.1 zy.2.2))) else (af.j3 k x4 x1000 x1001 x1002)
def af.l0:Nat→Int→List Int→Int→Bool→Option (ByteArray×Int×Bool)
 | 0,_,_,_,_=>none
 | k+1,x3,x1000,x1001,x1002=>if x3<6 then ((aa.f x1000 x1001 x1002 0).bind fun zA=>((ax.f k zA.1).bind fun uE=>(if uE≥0 then (af.l0 k (wrap64 (x3+1)) x1000 (wrap64 (zA.2.1+1)) zA.2.2) else (af.j1 k x3 x1000 zA.2.1 zA.2.2)))) else (af.j1 k x3 x1000 x1001 x1002)
end
def af.f (k:Nat) (ah:List Int) (bg:Int) (bq:Bool):Option (ByteArray×Int×Bool):=af.l0 k 0 ah (wrap64 (bg+2)) bq
theorem af.calls (k:Nat) (g:Nat) (ah:List Int) (bg:Int) (bq:Bool) (r1:ByteArray) (r2:Int) (r3:Bool) (w0 w:World) (hI:aD w0 w g ah bg bq) (hB:Below w0.heap.size w0 w) (h:af.f k ah bg bq=some (r1,r2,r3)):
  Calls Tryz.prog 112 #[.pointer (some ⟨g,0,none⟩)] w fun e w' =>e= .returned (.string r1)∧aD w0 w' g ah r2 r3∧Below w0.heap.size w0 w' ∧aw w w' g none:=by
 have aQ:=am hI
 have HK:=am (aw.refl w g none)
 have HL:=am hB.size
 clear hI
 have yX:=am hB.size
 have HB:=am hB
 clear hB
 have H:(af.l0 k 0 ah (wrap64 (bg+2)) bq)=some (r1,r2,r3):=h
 clear h
 have HC2:=am H
 clear H
 obtain⟨Ji,Jj,kQ,Jk,Jl⟩:=aQ.out
 have js:=aK kQ
 have jt:=aM kQ
 have ju:=aN kQ
 have jv:=ai kQ 1
 have jw:=ai kQ 2
 clear kQ Jk
 go_enter Tryz.func112,Tryz.ntmps112
 go_upto_block 0 with (fail)
 go_cut [3] (fun v3 wc=>∃(kq:Nat) (bX:Int) (aZ:Int) (a8:Bool),v3= .int .i64 bX∧ak (af.j1 kq bX ah aZ a8=some (r1,r2,r3))∧ak (kq≤k)∧ak (aD w0 wc g ah aZ a8)∧ak (aw w wc g none)∧ak (Below w0.heap.size w0 wc))
 case first=>
  have H:=HC2.out
  clear HC2
  have H':=am H
  clear H
  go_wp2
  go_loopg [3] k (fun kq v3 w' =>∃(bX:Int) (aZ:Int) (a8:Bool),v3= .int .i64 bX∧ak (af.l0 kq bX ah aZ a8=some (r1,r2,r3))∧ak (kq≤k)∧ak (aD w0 w' g ah aZ a8)∧ak (aw w w' g none)∧ak (Below w0.heap.size w0 w'))
  case atStart=>exact⟨(0),(wrap64 (bg+2)),(bq),qF,H',⟨Nat.le_refl _⟩,⟨qI⟩,⟨qK⟩,⟨qB⟩⟩
  case round=>
   clear H'
   try clear c1
   try clear p2
   try clear js
   try clear jt
   try clear ju
   try clear jv
   try clear jw
   obtain⟨bX,aZ,a8,rfl,HA,dR,aQ,HK,HB⟩:=hrel
   cases gk with
   | zero=>exact absurd HA.out (by simp [af.l0])
   | succ k1=>
    have H:=HA.out
    clear HA
    simp only [af.l0] at H
    by_cases c4:bX<6
    ·rw [if_pos c4] at H
     have eF:decide (bX<6)=true:=decide_eq_true c4
     clear c4
     (first|rw [eF]|(simp only [cB,cJ];rw [eF])|skip)
     replace H:=Option.bind_eq_some_iff.mp H
     obtain⟨⟨Jm,xe,xf⟩,BX,H⟩:=H
     replace H:((ax.f k1 Jm).bind fun uE=>(if uE≥0 then (af.l0 k1 (wrap64 (bX+1)) ah (wrap64 (xe+1)) xf) else (af.j1 k1 bX ah xe xf)))=some (r1,r2,r3):=H
     have A5:=am BX
     clear BX
     replace H:=Option.bind_eq_some_iff.mp H
     obtain⟨uE,My,H⟩:=H
     replace H:(if uE≥0 then (af.l0 k1 (wrap64 (bX+1)) ah (wrap64 (xe+1)) xf) else (af.j1 k1 bX ah xe xf))=some (r1,r2,r3):=H
     have A6:=am My
     clear My
     by_cases c7:uE≥0
     ·rw [if_pos c7] at H
      have mF:decide (0≤uE)=true:=decide_eq_true c7
      clear c7
      have H':=am H
      clear H
      go_wp2_with (first|(go_at_call 104;(with_reducible refine mK (aa.calls g ah aZ a8 0 Jm xe xf w0 _ qI qB A5.out) ?_);clear aQ HB HK;intro w8 aQ HB HK)|(go_at_call 111;(with_reducible refine(ax.calls k1 Jm uE _ A6.out).mono ?_);rintro e w' ⟨rfl,⟨nd,rfl⟩⟩;(try(rw [dC w8];generalize gI:World.drewN w8 _=w8;have cR:ak (aD w0 w8 g ah xe xf):=⟨by rw [←gI];exact qI⟩;have cM:ak (aw w w8 g none):=⟨by rw [←gI];exact qK⟩;have cY:ak (Below w0.heap.size w0 w8):=⟨by rw [←gI];exact qB⟩;clear aQ HK HB gI;have aQ:=cR;have HK:=cM;have HB:=cY;clear cR cM cY));obtain⟨aet,aeu,Gw,aev,aew⟩:=aQ.out;have gY:=aK Gw;have gZ:=aM Gw;have hG:=aN Gw;have hY:=ai Gw 1;have hZ:=ai Gw 2;clear Gw aev))
      go_roundg k1
      case measure=>have:=dR.out;omega
      case rel=>exact⟨(wrap64 (bX+1)),(wrap64 (xe+1)),(xf),qF,H',⟨by have:=dR.out;omega⟩,⟨qI⟩,⟨qK⟩,⟨qB⟩⟩
     ·rw [if_neg c7] at H
      have mF:decide (0≤uE)=false:=decide_eq_false c7
      clear c7
      have H':=am H
      clear H
      go_wp2_with (first|(go_at_call 104;(with_reducible refine mK (aa.calls g ah aZ a8 0 Jm xe xf w0 _ qI qB A5.out) ?_);clear aQ HB HK;intro Qg aQ HB HK)|(go_at_call 111;(with_reducible refine(ax.calls k1 Jm uE _ A6.out).mono ?_);rintro e w' ⟨rfl,⟨nd,rfl⟩⟩))
      go_meet
      case rel=>exact⟨_,(bX),(xe),(xf),qF,H',⟨by have:=dR.out;first|omega|exact Nat.le_refl _⟩,⟨qI⟩,⟨qK⟩,⟨qB⟩⟩
    ·rw [if_neg c4] at H
     have eF:decide (bX<6)=false:=decide_eq_false c4
     clear c4
     (first|rw [eF]|(simp only [cB,cJ];rw [eF])|skip)
     have H':=am H
     clear H
     go_wp2
     go_meet
     case rel=>exact⟨_,(bX),(aZ),(a8),qF,H',⟨by have:=dR.out;first|omega|exact Nat.le_refl _⟩,⟨qI⟩,⟨qK⟩,⟨qB⟩⟩
 case rest=>
  clear HC2
  try clear c1
  try clear p2
  try clear c4
  try clear eF
  try clear p6
  try clear c7
  try clear mF
  try clear js
  try clear jt
  try clear ju
  try clear gY
  try clear gZ
  try clear hG
  try clear jv
  try clear jw
  try clear hY
  try clear hZ
  try clear p2
  obtain⟨kq,bX,aZ,a8,rfl,HA,yD,aQ,HK,HB⟩:=hcut
  cases kq with
  | zero=>exact absurd HA.out (by simp [af.j1])
  | succ kj1=>
   have H:=HA.out
   clear HA
   simp only [af.j1] at H
   have SL:=am H
   clear H
   go_upto_block 2 with (fail)
   go_cut [4] (fun v4 wc=>∃(kq:Nat) (ew:Bool) (iI:Int) (iJ:Bool),v4= .bool ew∧ak (af.j3 kq ew ah iI iJ=some (r1,r2,r3))∧ak (kq≤kj1)∧ak (aD w0 wc g ah iI iJ)∧ak (aw w wc g none)∧ak (Below w0.heap.size w0 wc))
   case first=>
    have H:=SL.out
    clear SL
    have H':=am H
    clear H
    go_wp2
    go_loopg [3,4] kj1 (fun kq v3 v4 w' =>∃(zB:Int) (Gx:Bool) (nF:Int) (nG:Bool),v3= .int .i64 zB∧v4= .bool Gx∧ak (af.l1 kq zB Gx ah nF nG=some (r1,r2,r3))∧ak (kq≤kj1)∧ak (aD w0 w' g ah nF nG)∧ak (aw w w' g none)∧ak (Below w0.heap.size w0 w'))
    case atStart=>exact⟨(bX),(false),(aZ),(a8),qF,qF,H',⟨Nat.le_refl _⟩,⟨qI⟩,⟨qK⟩,⟨qB⟩⟩
    case round=>
     clear H'
     try clear c1
     try clear p2
     try clear c4
     try clear eF
     try clear p6
     try clear c7
     try clear mF
     try clear kJ
     try clear js
     try clear jt
     try clear ju
     try clear gY
     try clear gZ
     try clear hG
     try clear jv
     try clear jw
     try clear hY
     try clear hZ
     try clear p2
     try clear p6
     obtain⟨zB,Gx,nF,nG,rfl,rfl,HA,Qq,aQ,HK,HB⟩:=hrel
     cases gk with
     | zero=>exact absurd HA.out (by simp [af.l1])
     | succ k2=>
      have H:=HA.out
      clear HA
      simp only [af.l1] at H
      by_cases ln:zB<6
      ·rw [if_pos ln] at H
       have iE:decide (zB<6)=true:=decide_eq_true ln
       clear ln
       (first|rw [iE]|(simp only [cB,cJ];rw [iE])|skip)
       replace H:=Option.bind_eq_some_iff.mp H
       obtain⟨⟨zC,Gy,Gz⟩,zo,H⟩:=H
       replace H:(if zC=63 then (af.l1 k2 (wrap64 (zB+1)) true ah (wrap64 (Gy+1)) Gz) else (af.j3 k2 Gx ah Gy Gz))=some (r1,r2,r3):=H
       have Qo:=am zo
       clear zo
       by_cases mi:zC=63
       ·rw [if_pos mi] at H
        have mj:(zC==63)=true:=beq_iff_eq.mpr mi
        have ml:(zC !=63)=false:=bne_eq_false_iff_eq.mpr mi
        clear mi
        have H':=am H
        clear H
        go_wp2_with (first|(go_at_call 104;(with_reducible refine mK (aa.calls g ah nF nG 0 zC Gy Gz w0 _ qI qB Qo.out) ?_);clear aQ HB HK;intro w15 aQ HB HK;obtain⟨acO,acP,vu,Xn,acQ⟩:=aQ.out;have nH:=aK vu;have nI:=aM vu;have nJ:=aN vu;have nK:=ai vu 1;have nL:=ai vu 2;clear vu Xn))
        go_roundg k2
        case measure=>have:=yD.out;have:=Qq.out;omega
        case rel=>exact⟨(wrap64 (zB+1)),(true),(wrap64 (Gy+1)),(Gz),qF,qF,H',⟨by have:=yD.out;have:=Qq.out;omega⟩,⟨qI⟩,⟨qK⟩,⟨qB⟩⟩
       ·rw [if_neg mi] at H
        have mj:(zC==63)=false:=beq_eq_false_iff_ne.mpr mi
        have ml:(zC !=63)=true:=bne_iff_ne.mpr mi
        have H':=am H
        clear H
        go_wp2_with (first|(go_at_call 104;(with_reducible refine mK (aa.calls g ah nF nG 0 zC Gy Gz w0 _ qI qB Qo.out) ?_);clear aQ HB HK;intro Eo aQ HB HK))
        go_meet
        case rel=>exact⟨_,(Gx),(Gy),(Gz),qF,H',⟨by have:=yD.out;have:=Qq.out;first|omega|exact Nat.le_refl _⟩,⟨qI⟩,⟨qK⟩,⟨qB⟩⟩
      ·rw [if_neg ln] at H
       have iE:decide (zB<6)=false:=decide_eq_false ln
       clear ln
       (first|rw [iE]|(simp only [cB,cJ];rw [iE])|skip)
       have H':=am H
       clear H
       go_wp2
       go_meet
       case rel=>exact⟨_,(Gx),(nF),(nG),qF,H',⟨by have:=yD.out;have:=Qq.out;first|omega|exact Nat.le_refl _⟩,⟨qI⟩,⟨qK⟩,⟨qB⟩⟩
   case rest=>
    clear SL
    try clear c1
    try clear p2
    try clear c4
    try clear eF
    try clear p6
    try clear c7
    try clear mF
    try clear kJ
    try clear ln
    try clear iE
    try clear mi
    try clear mj
    try clear ml
    try clear nH
    try clear nI
    try clear nJ
    try clear js
    try clear jt
    try clear ju
    try clear gY
    try clear gZ
    try clear hG
    try clear nK
    try clear nL
    try clear jv
    try clear jw
    try clear hY
    try clear hZ
    try clear p2
    try clear p6
    obtain⟨kq,ew,iI,iJ,rfl,HA,pv,aQ,HK,HB⟩:=hcut
    cases kq with
    | zero=>exact absurd HA.out (by simp [af.j3])
    | succ fE=>
     have H:=HA.out
     clear HA
     simp only [af.j3] at H
     have CB:=am H
     clear H
     go_upto_region 11 with (fail)
     go_cut [68] (fun v68 wc=>∃(kq:Nat) (xg:Bool) (dt:Int) (gj:Bool),v68= .bool xg∧ak (af.j4 kq ew xg ah dt gj=some (r1,r2,r3))∧ak (kq≤fE)∧ak (aD w0 wc g ah dt gj)∧ak (aw w wc g none)∧ak (Below w0.heap.size w0 wc))
     case first=>
      have H:=CB.out
      clear CB
      replace H:=Option.bind_eq_some_iff.mp H
      obtain⟨⟨od,px,py⟩,Jn,H⟩:=H
      replace H:((ax.f fE od).bind fun qt=>(if qt≥0 then (af.j4 fE ew true ah px py) else ((aa.f ah px py 0).bind fun iH=>(if iH.1=63 then (af.j4 fE ew true ah iH.2.1 iH.2.2) else ((aa.f ah iH.2.1 iH.2.2 0).bind fun dX=>(if dX.1=45 then (if ew=true then (af.j4 fE ew true ah dX.2.1 dX.2.2) else ((aa.f ah dX.2.1 dX.2.2 1).bind fun fD=>((ax.f fE fD.1).bind fun mU=>(af.j4 fE ew (decide (mU<0)) ah fD.2.1 fD.2.2)))) else (af.j4 fE ew false ah dX.2.1 dX.2.2)))))))=some (r1,r2,r3):=H
      have SM:=am Jn
      clear Jn
      replace H:=Option.bind_eq_some_iff.mp H
      obtain⟨qt,Xo,H⟩:=H
      replace H:(if qt≥0 then (af.j4 fE ew true ah px py) else ((aa.f ah px py 0).bind fun iH=>(if iH.1=63 then (af.j4 fE ew true ah iH.2.1 iH.2.2) else ((aa.f ah iH.2.1 iH.2.2 0).bind fun dX=>(if dX.1=45 then (if ew=true then (af.j4 fE ew true ah dX.2.1 dX.2.2) else ((aa.f ah dX.2.1 dX.2.2 1).bind fun fD=>((ax.f fE fD.1).bind fun mU=>(af.j4 fE ew (decide (mU<0)) ah fD.2.1 fD.2.2)))) else (af.j4 fE ew false ah dX.2.1 dX.2.2))))))=some (r1,r2,r3):=H
      have mf:=am Xo
      clear Xo
      by_cases ov:qt≥0
      ·rw [if_pos ov] at H
       have gB:decide (0≤qt)=true:=decide_eq_true ov
       clear ov
       (first|rw [gB]|(simp only [cB,cJ];rw [gB])|skip)
       have H':=am H
       clear H
       go_wp2_with (first|(refine gL 104 47 Tryz.func104 #[.pointer (some ⟨g,0,none⟩),.int .i64 0] ?_;(with_reducible refine mK (aa.calls g ah iI iJ 0 od px py w0 _ qI qB SM.out) ?_);clear aQ HB HK;intro w22 aQ HB HK;refine⟨_,rfl,?_⟩)|(refine gL 111 48 Tryz.func111 #[.int .u8 od] ?_;(with_reducible refine(ax.calls fE od qt _ mf.out).mono ?_);rintro e w' ⟨rfl,⟨nd,rfl⟩⟩;refine⟨_,rfl,?_⟩))
       go_meet
       case rel=>exact⟨_,(true),(px),(py),qF,H',⟨by have:=yD.out;have:=pv.out;first|omega|exact Nat.le_refl _⟩,⟨qI⟩,⟨qK⟩,⟨qB⟩⟩
      ·rw [if_neg ov] at H
       have gB:decide (0≤qt)=false:=decide_eq_false ov
       clear ov
       (first|rw [gB]|(simp only [cB,cJ];rw [gB])|skip)
       replace H:=Option.bind_eq_some_iff.mp H
       obtain⟨⟨uF,uG,uH⟩,sm,H⟩:=H
       replace H:(if uF=63 then (af.j4 fE ew true ah uG uH) else ((aa.f ah uG uH 0).bind fun dX=>(if dX.1=45 then (if ew=true then (af.j4 fE ew true ah dX.2.1 dX.2.2) else ((aa.f ah dX.2.1 dX.2.2 1).bind fun fD=>((ax.f fE fD.1).bind fun mU=>(af.j4 fE ew (decide (mU<0)) ah fD.2.1 fD.2.2)))) else (af.j4 fE ew false ah dX.2.1 dX.2.2))))=some (r1,r2,r3):=H
       have I6:=am sm
       clear sm
       by_cases mJ:uF=63
       ·rw [if_pos mJ] at H
        have mL:(uF==63)=true:=beq_iff_eq.mpr mJ
        have vv:(uF !=63)=false:=bne_eq_false_iff_eq.mpr mJ
        clear mJ
        have H':=am H
        clear H
        go_wp2_with (first|(refine gL 104 47 Tryz.func104 #[.pointer (some ⟨g,0,none⟩),.int .i64 0] ?_;(with_reducible refine mK (aa.calls g ah iI iJ 0 od px py w0 _ qI qB SM.out) ?_);clear aQ HB HK;intro Na aQ HB HK;refine⟨_,rfl,?_⟩)|(refine gL 111 48 Tryz.func111 #[.int .u8 od] ?_;(with_reducible refine(ax.calls fE od qt _ mf.out).mono ?_);rintro e w' ⟨rfl,⟨nd,rfl⟩⟩;refine⟨_,rfl,?_⟩)|(go_at_call 104;(with_reducible refine mK (aa.calls g ah px py 0 uF uG uH w0 _ qI qB I6.out) ?_);clear aQ HB HK;intro w26 aQ HB HK))
        go_meet
        case rel=>exact⟨_,(true),(uG),(uH),qF,H',⟨by have:=yD.out;have:=pv.out;first|omega|exact Nat.le_refl _⟩,⟨qI⟩,⟨qK⟩,⟨qB⟩⟩
       ·rw [if_neg mJ] at H
        have mL:(uF==63)=false:=beq_eq_false_iff_ne.mpr mJ
        have vv:(uF !=63)=true:=bne_iff_ne.mpr mJ
        replace H:=Option.bind_eq_some_iff.mp H
        obtain⟨⟨xh,sJ,sK⟩,Jb,H⟩:=H
        replace H:(if xh=45 then (if ew=true then (af.j4 fE ew true ah sJ sK) else ((aa.f ah sJ sK 1).bind fun fD=>((ax.f fE fD.1).bind fun mU=>(af.j4 fE ew (decide (mU<0)) ah fD.2.1 fD.2.2)))) else (af.j4 fE ew false ah sJ sK))=some (r1,r2,r3):=H
        have VX:=am Jb
        clear Jb
        by_cases nE:xh=45
        ·rw [if_pos nE] at H
         have iU:(xh==45)=true:=beq_iff_eq.mpr nE
         have mh:(xh !=45)=false:=bne_eq_false_iff_eq.mpr nE
         clear nE
         by_cases qq:ew=true
         ·subst qq
          have H1:(af.j4 fE true true ah sJ sK)=some (r1,r2,r3):=by rw [if_pos rfl] at H;exact H
          clear H
          have H:=H1
          clear H1
          have H':=am H
          clear H
          go_wp2_with (first|(refine gL 104 47 Tryz.func104 #[.pointer (some ⟨g,0,none⟩),.int .i64 0] ?_;(with_reducible refine mK (aa.calls g ah iI iJ 0 od px py w0 _ qI qB SM.out) ?_);clear aQ HB HK;intro w30 aQ HB HK;refine⟨_,rfl,?_⟩)|(refine gL 111 48 Tryz.func111 #[.int .u8 od] ?_;(with_reducible refine(ax.calls fE od qt _ mf.out).mono ?_);rintro e w' ⟨rfl,⟨nd,rfl⟩⟩;refine⟨_,rfl,?_⟩)|(go_at_call 104;(with_reducible refine mK (aa.calls g ah px py 0 uF uG uH w0 _ qI qB I6.out) ?_);clear aQ HB HK;intro w31 aQ HB HK)|(go_at_call 104;(with_reducible refine mK (aa.calls g ah uG uH 0 xh sJ sK w0 _ qI qB VX.out) ?_);clear aQ HB HK;intro w32 aQ HB HK))
          go_meet
          case rel=>exact⟨_,(true),(sJ),(sK),qF,H',⟨by have:=yD.out;have:=pv.out;first|omega|exact Nat.le_refl _⟩,⟨qI⟩,⟨qK⟩,⟨qB⟩⟩
         ·replace qq:=Bool.eq_false_iff.mpr qq
          subst qq
          have H1:((aa.f ah sJ sK 1).bind fun fD=>((ax.f fE fD.1).bind fun mU=>(af.j4 fE false (decide (mU<0)) ah fD.2.1 fD.2.2)))=some (r1,r2,r3):=by rw [if_neg (show ¬(false=true) by decide)] at H;exact H
          clear H
          have H:=H1
          clear H1
          replace H:=Option.bind_eq_some_iff.mp H
          obtain⟨⟨SN,NB,NC⟩,zl,H⟩:=H
          replace H:((ax.f fE SN).bind fun mU=>(af.j4 fE false (decide (mU<0)) ah NB NC))=some (r1,r2,r3):=H
          have Sq:=am zl
          clear zl
          replace H:=Option.bind_eq_some_iff.mp H
          obtain⟨mU,zm,H⟩:=H
          replace H:(af.j4 fE false (decide (mU<0)) ah NB NC)=some (r1,r2,r3):=H
          have VW:=am zm
          clear zm
          have H':=am H
          clear H
          go_wp2_with (first|(refine gL 104 47 Tryz.func104 #[.pointer (some ⟨g,0,none⟩),.int .i64 0] ?_;(with_reducible refine mK (aa.calls g ah iI iJ 0 od px py w0 _ qI qB SM.out) ?_);clear aQ HB HK;intro w35 aQ HB HK;refine⟨_,rfl,?_⟩)|(refine gL 111 48 Tryz.func111 #[.int .u8 od] ?_;(with_reducible refine(ax.calls fE od qt _ mf.out).mono ?_);rintro e w' ⟨rfl,⟨nd,rfl⟩⟩;refine⟨_,rfl,?_⟩)|(go_at_call 104;(with_reducible refine mK (aa.calls g ah px py 0 uF uG uH w0 _ qI qB I6.out) ?_);clear aQ HB HK;intro Ql aQ HB HK)|(go_at_call 104;(with_reducible refine mK (aa.calls g ah uG uH 0 xh sJ sK w0 _ qI qB VX.out) ?_);clear aQ HB HK;intro w37 aQ HB HK)|(go_at_call 104;(with_reducible refine mK (aa.calls g ah sJ sK 1 SN NB NC w0 _ qI qB Sq.out) ?_);clear aQ HB HK;intro w38 aQ HB HK)|(go_at_call 111;(with_reducible refine(ax.calls fE SN mU _ VW.out).mono ?_);rintro e w' ⟨rfl,⟨nd,rfl⟩⟩))
          go_meet
          case rel=>exact⟨_,(decide (mU<0)),(NB),(NC),qF,H',⟨by have:=yD.out;have:=pv.out;first|omega|exact Nat.le_refl _⟩,⟨qI⟩,⟨qK⟩,⟨qB⟩⟩
        ·rw [if_neg nE] at H
         have iU:(xh==45)=false:=beq_eq_false_iff_ne.mpr nE
         have mh:(xh !=45)=true:=bne_iff_ne.mpr nE
         have H':=am H
         clear H
         go_wp2_with (first|(refine gL 104 47 Tryz.func104 #[.pointer (some ⟨g,0,none⟩),.int .i64 0] ?_;(with_reducible refine mK (aa.calls g ah iI iJ 0 od px py w0 _ qI qB SM.out) ?_);clear aQ HB HK;intro w39 aQ HB HK;refine⟨_,rfl,?_⟩)|(refine gL 111 48 Tryz.func111 #[.int .u8 od] ?_;(with_reducible refine(ax.calls fE od qt _ mf.out).mono ?_);rintro e w' ⟨rfl,⟨nd,rfl⟩⟩;refine⟨_,rfl,?_⟩)|(go_at_call 104;(with_reducible refine mK (aa.calls g ah px py 0 uF uG uH w0 _ qI qB I6.out) ?_);clear aQ HB HK;intro SJ aQ HB HK)|(go_at_call 104;(with_reducible refine mK (aa.calls g ah uG uH 0 xh sJ sK w0 _ qI qB VX.out) ?_);clear aQ HB HK;intro w41 aQ HB HK))
         go_meet
         case rel=>exact⟨_,(false),(sJ),(sK),qF,H',⟨by have:=yD.out;have:=pv.out;first|omega|exact Nat.le_refl _⟩,⟨qI⟩,⟨qK⟩,⟨qB⟩⟩
     case rest=>
      clear CB
      try clear c1
      try clear c2
      try clear p2
      try clear c4
      try clear eF
      try clear p6
      try clear c7
      try clear mF
      try clear eZ
      try clear kJ
      try clear ln
      try clear iE
      try clear mi
      try clear mj
      try clear ml
      try clear ov
      try clear gB
      try clear mJ
      try clear mL
      try clear vv
      try clear nE
      try clear iU
      try clear mh
      try clear qq
      try clear nH
      try clear nI
      try clear nJ
      try clear js
      try clear jt
      try clear ju
      try clear gY
      try clear gZ
      try clear hG
      try clear nK
      try clear nL
      try clear jv
      try clear jw
      try clear hY
      try clear hZ
      try clear p2
      try clear p6
      obtain⟨kq,xg,dt,gj,rfl,HA,rl,aQ,HK,HB⟩:=hcut
      cases kq with
      | zero=>exact absurd HA.out (by simp [af.j4])
      | succ CC=>
       have H:=HA.out
       clear HA
       simp only [af.j4] at H
       have SO:=am H
       clear H
       go_upto_if 68 with (fail)
       go_cut [] (fun wc=>∃(kq:Nat) (iK:Bool),ak (af.j5 kq ew ah dt iK=some (r1,r2,r3))∧ak (kq≤CC)∧ak (aD w0 wc g ah dt iK)∧ak (aw w wc g none)∧ak (Below w0.heap.size w0 wc))
       case first=>
        have H:=SO.out
        clear SO
        by_cases zD:xg=true
        ·subst zD
         have H1:(af.j5 CC ew ah dt true)=some (r1,r2,r3):=by rw [if_pos rfl] at H;exact H
         clear H
         have H:=H1
         clear H1
         have H':=am H
         clear H
         obtain⟨acR,acS,vx,Xp,acT⟩:=aQ.out
         have rH:=aK vx
         have rI:=aM vx
         have rJ:=aN vx
         have rK:=ai vx 1
         have rL:=ai vx 2
         clear vx Xp
         go_wp2
         go_meet
         case rel=>exact⟨_,(true),H',⟨by have:=yD.out;have:=pv.out;have:=rl.out;first|omega|exact Nat.le_refl _⟩,⟨qI⟩,⟨qK⟩,⟨qB⟩⟩
        ·replace zD:=Bool.eq_false_iff.mpr zD
         subst zD
         have H1:(af.j5 CC ew ah dt gj)=some (r1,r2,r3):=by rw [if_neg (show ¬(false=true) by decide)] at H;exact H
         clear H
         have H:=H1
         clear H1
         have H':=am H
         clear H
         go_wp2
         go_meet
         case rel=>exact⟨_,(gj),H',⟨by have:=yD.out;have:=pv.out;have:=rl.out;first|omega|exact Nat.le_refl _⟩,⟨qI⟩,⟨qK⟩,⟨qB⟩⟩
       case rest=>
        clear SO
        try clear c1
        try clear c2
        try clear p2
        try clear c4
        try clear eF
        try clear p6
        try clear c7
        try clear mF
        try clear eZ
        try clear kJ
        try clear ln
        try clear iE
        try clear mi
        try clear mj
        try clear ml
        try clear ov
        try clear gB
        try clear mJ
        try clear mL
        try clear vv
        try clear nE
        try clear iU
        try clear mh
        try clear qq
        try clear zD
        try clear nH
        try clear nI
        try clear nJ
        try clear js
        try clear jt
        try clear ju
        try clear rH
        try clear rI
        try clear rJ
        try clear gY
        try clear gZ
        try clear hG
        try clear nK
        try clear nL
        try clear jv
        try clear jw
        try clear rK
        try clear rL
        try clear hY
        try clear hZ
        try clear p2
        try clear p6
        obtain⟨kq,iK,HA,CL,aQ,HK,HB⟩:=hcut
        cases kq with
        | zero=>exact absurd HA.out (by simp [af.j5])
        | succ rv=>
         have H:=HA.out
         clear HA
         simp only [af.j5] at H
         have SP:=am H
         clear H
         go_upto_region 13 with (fail)
         go_cut [84] (fun v84 wc=>∃(kq:Nat) (xi:Bool) (kR:Int) (kS:Bool),v84= .bool xi∧ak (af.j6 kq xi ah kR kS=some (r1,r2,r3))∧ak (kq≤rv)∧ak (aD w0 wc g ah kR kS)∧ak (aw w wc g none)∧ak (Below w0.heap.size w0 wc))
         case first=>
          have H:=SP.out
          clear SP
          by_cases SQ:ew=true
          ·subst SQ
           have H1:(af.j6 rv false ah dt iK)=some (r1,r2,r3):=by rw [if_pos rfl] at H;exact H
           clear H
           have H:=H1
           clear H1
           have H':=am H
           clear H
           go_wp2
           go_meet
           case rel=>exact⟨_,(false),(dt),(iK),qF,H',⟨by have:=yD.out;have:=pv.out;have:=rl.out;have:=CL.out;first|omega|exact Nat.le_refl _⟩,⟨qI⟩,⟨qK⟩,⟨qB⟩⟩
          ·replace SQ:=Bool.eq_false_iff.mpr SQ
           subst SQ
           have H1:((aa.f ah dt iK 0).bind fun mV=>(if mV.1=45 then ((aa.f ah mV.2.1 mV.2.2 1).bind fun mW=>((ax.f rv mW.1).bind fun sI=>(af.j6 rv (decide (sI≥0)) ah mW.2.1 mW.2.2))) else (af.j6 rv false ah mV.2.1 mV.2.2)))=some (r1,r2,r3):=by rw [if_neg (show ¬(false=true) by decide)] at H;exact H
           clear H
           have H:=H1
           clear H1
           replace H:=Option.bind_eq_some_iff.mp H
           obtain⟨⟨zE,GA,GB⟩,Xq,H⟩:=H
           replace H:(if zE=45 then ((aa.f ah GA GB 1).bind fun mW=>((ax.f rv mW.1).bind fun sI=>(af.j6 rv (decide (sI≥0)) ah mW.2.1 mW.2.2))) else (af.j6 rv false ah GA GB))=some (r1,r2,r3):=H
           have A47:=am Xq
           clear Xq
           by_cases CM:zE=45
           ·rw [if_pos CM] at H
            have qV:(zE==45)=true:=beq_iff_eq.mpr CM
            have EU:(zE !=45)=false:=bne_eq_false_iff_eq.mpr CM
            clear CM
            (first|rw [qV]|(simp only [cB,cJ];rw [qV])|skip)
            replace H:=Option.bind_eq_some_iff.mp H
            obtain⟨⟨SR,ND,NF⟩,Jh,H⟩:=H
            replace H:((ax.f rv SR).bind fun sI=>(af.j6 rv (decide (sI≥0)) ah ND NF))=some (r1,r2,r3):=H
            have A49:=am Jh
            clear Jh
            replace H:=Option.bind_eq_some_iff.mp H
            obtain⟨sI,Jo,H⟩:=H
            replace H:(af.j6 rv (decide (sI≥0)) ah ND NF)=some (r1,r2,r3):=H
            have BX:=am Jo
            clear Jo
            have H':=am H
            clear H
            go_wp2_with (first|(go_at_call 104;(with_reducible refine mK (aa.calls g ah dt iK 0 zE GA GB w0 _ qI qB A47.out) ?_);clear aQ HB HK;intro w51 aQ HB HK)|(go_at_call 104;(with_reducible refine mK (aa.calls g ah GA GB 1 SR ND NF w0 _ qI qB A49.out) ?_);clear aQ HB HK;intro w52 aQ HB HK)|(go_at_call 111;(with_reducible refine(ax.calls rv SR sI _ BX.out).mono ?_);rintro e w' ⟨rfl,⟨nd,rfl⟩⟩))
            go_meet
            case rel=>exact⟨_,(decide (sI≥0)),(ND),(NF),qF,H',⟨by have:=yD.out;have:=pv.out;have:=rl.out;have:=CL.out;first|omega|exact Nat.le_refl _⟩,⟨qI⟩,⟨qK⟩,⟨qB⟩⟩
           ·rw [if_neg CM] at H
            have qV:(zE==45)=false:=beq_eq_false_iff_ne.mpr CM
            have EU:(zE !=45)=true:=bne_iff_ne.mpr CM
            (first|rw [qV]|(simp only [cB,cJ];rw [qV])|skip)
            have H':=am H
            clear H
            go_wp2_with (first|(go_at_call 104;(with_reducible refine mK (aa.calls g ah dt iK 0 zE GA GB w0 _ qI qB A47.out) ?_);clear aQ HB HK;intro w53 aQ HB HK))
            go_meet
            case rel=>exact⟨_,(false),(GA),(GB),qF,H',⟨by have:=yD.out;have:=pv.out;have:=rl.out;have:=CL.out;first|omega|exact Nat.le_refl _⟩,⟨qI⟩,⟨qK⟩,⟨qB⟩⟩
         case rest=>
          clear SP
          try clear c1
          try clear c2
          try clear p2
          try clear c4
          try clear eF
          try clear p6
          try clear c7
          try clear mF
          try clear eZ
          try clear kJ
          try clear ln
          try clear iE
          try clear mi
          try clear mj
          try clear ml
          try clear ov
          try clear gB
          try clear mJ
          try clear mL
          try clear vv
          try clear nE
          try clear iU
          try clear mh
          try clear qq
          try clear zD
          try clear SQ
          try clear CM
          try clear qV
          try clear EU
          try clear nH
          try clear nI
          try clear nJ
          try clear js
          try clear jt
          try clear ju
          try clear rH
          try clear rI
          try clear rJ
          try clear gY
          try clear gZ
          try clear hG
          try clear nK
          try clear nL
          try clear jv
          try clear jw
          try clear rK
          try clear rL
          try clear hY
          try clear hZ
          try clear p2
          try clear p6
          obtain⟨kq,xi,kR,kS,rfl,HA,NG,aQ,HK,HB⟩:=hcut
          cases kq with
          | zero=>exact absurd HA.out (by simp [af.j6])
          | succ NH=>
           have H:=HA.out
           clear HA
           simp only [af.j6] at H
           by_cases VZ:xi=true
           ·subst VZ
            have H1:(af.l2 NH 0 ah (wrap64 (kR+1)) kS)=some (r1,r2,r3):=by rw [if_pos rfl] at H;exact H
            clear H
            have H:=H1
            clear H1
            have SS:=am H
            clear H
            obtain⟨acU,acV,vy,Xr,acW⟩:=aQ.out
            have EV:=aK vy
            have EW:=aM vy
            have EX:=aN vy
            have EY:=ai vy 1
            have EZ:=ai vy 2
            clear vy Xr
            go_upto_block 4 with (fail)
            go_cut [] (fun wc=>∃(kq:Nat) (mX:Int) (mY:Bool),ak (af.j8 kq ah mX mY=some (r1,r2,r3))∧ak (kq≤NH)∧ak (aD w0 wc g ah mX mY)∧ak (aw w wc g none)∧ak (Below w0.heap.size w0 wc))
            case first=>
             have H:=SS.out
             clear SS
             have H':=am H
             clear H
             go_wp2
             go_loopg [5] NH (fun kq v5 w' =>∃(xj:Int) (nM:Int) (nN:Bool),v5= .int .i64 xj∧ak (af.l2 kq xj ah nM nN=some (r1,r2,r3))∧ak (kq≤NH)∧ak (aD w0 w' g ah nM nN)∧ak (aw w w' g none)∧ak (Below w0.heap.size w0 w'))
             case atStart=>exact⟨(0),(wrap64 (kR+1)),(kS),qF,H',⟨Nat.le_refl _⟩,⟨qI⟩,⟨qK⟩,⟨qB⟩⟩
             case round=>
              clear H'
              try clear c1
              try clear c2
              try clear p2
              try clear c4
              try clear eF
              try clear c5
              try clear p6
              try clear c7
              try clear mF
              try clear eZ
              try clear kJ
              try clear ln
              try clear iE
              try clear mi
              try clear mj
              try clear ml
              try clear ov
              try clear gB
              try clear mJ
              try clear mL
              try clear vv
              try clear nE
              try clear iU
              try clear mh
              try clear qq
              try clear zD
              try clear SQ
              try clear CM
              try clear qV
              try clear EU
              try clear VZ
              try clear nH
              try clear nI
              try clear nJ
              try clear js
              try clear jt
              try clear ju
              try clear rH
              try clear rI
              try clear rJ
              try clear EV
              try clear EW
              try clear EX
              try clear gY
              try clear gZ
              try clear hG
              try clear nK
              try clear nL
              try clear jv
              try clear jw
              try clear rK
              try clear rL
              try clear EY
              try clear EZ
              try clear hY
              try clear hZ
              try clear p2
              try clear p6
              obtain⟨xj,nM,nN,rfl,HA,HK6,aQ,HK,HB⟩:=hrel
              cases gk with
              | zero=>exact absurd HA.out (by simp [af.l2])
              | succ k6=>
               have H:=HA.out
               clear HA
               simp only [af.l2] at H
               by_cases SU:xj<6
               ·rw [if_pos SU] at H
                have vz:decide (xj<6)=true:=decide_eq_true SU
                clear SU
                (first|rw [vz]|(simp only [cB,cJ];rw [vz])|skip)
                replace H:=Option.bind_eq_some_iff.mp H
                obtain⟨⟨Jp,xk,xl⟩,Xs,H⟩:=H
                replace H:((ax.f k6 Jp).bind fun uD=>(if uD≥0 then (af.l2 k6 (wrap64 (xj+1)) ah (wrap64 (xk+1)) xl) else (af.j8 k6 ah xk xl)))=some (r1,r2,r3):=H
                have A58:=am Xs
                clear Xs
                replace H:=Option.bind_eq_some_iff.mp H
                obtain⟨uD,Xt,H⟩:=H
                replace H:(if uD≥0 then (af.l2 k6 (wrap64 (xj+1)) ah (wrap64 (xk+1)) xl) else (af.j8 k6 ah xk xl))=some (r1,r2,r3):=H
                have A59:=am Xt
                clear Xt
                by_cases SV:uD≥0
                ·rw [if_pos SV] at H
                 have Qr:decide (0≤uD)=true:=decide_eq_true SV
                 clear SV
                 have H':=am H
                 clear H
                 go_wp2_with (first|(go_at_call 104;(with_reducible refine mK (aa.calls g ah nM nN 0 Jp xk xl w0 _ qI qB A58.out) ?_);clear aQ HB HK;intro V2 aQ HB HK)|(go_at_call 111;(with_reducible refine(ax.calls k6 Jp uD _ A59.out).mono ?_);rintro e w' ⟨rfl,⟨nd,rfl⟩⟩;(try(rw [dC V2];generalize gI:World.drewN V2 _=V2;have cR:ak (aD w0 V2 g ah xk xl):=⟨by rw [←gI];exact qI⟩;have cM:ak (aw w V2 g none):=⟨by rw [←gI];exact qK⟩;have cY:ak (Below w0.heap.size w0 V2):=⟨by rw [←gI];exact qB⟩;clear aQ HK HB gI;have aQ:=cR;have HK:=cM;have HB:=cY;clear cR cM cY));obtain⟨acX,acY,vA,Xu,acZ⟩:=aQ.out;have NI:=aK vA;have NJ:=aM vA;have NK:=aN vA;have NL:=ai vA 1;have NM:=ai vA 2;clear vA Xu))
                 go_roundg k6
                 case measure=>have:=yD.out;have:=pv.out;have:=rl.out;have:=CL.out;have:=NG.out;have:=HK6.out;omega
                 case rel=>exact⟨(wrap64 (xj+1)),(wrap64 (xk+1)),(xl),qF,H',⟨by have:=yD.out;have:=pv.out;have:=rl.out;have:=CL.out;have:=NG.out;have:=HK6.out;omega⟩,⟨qI⟩,⟨qK⟩,⟨qB⟩⟩
                ·rw [if_neg SV] at H
                 have Qr:decide (0≤uD)=false:=decide_eq_false SV
                 clear SV
                 have H':=am H
                 clear H
                 go_wp2_with (first|(go_at_call 104;(with_reducible refine mK (aa.calls g ah nM nN 0 Jp xk xl w0 _ qI qB A58.out) ?_);clear aQ HB HK;intro w63 aQ HB HK)|(go_at_call 111;(with_reducible refine(ax.calls k6 Jp uD _ A59.out).mono ?_);rintro e w' ⟨rfl,⟨nd,rfl⟩⟩))
                 go_meet
                 case rel=>exact⟨_,(xk),(xl),H',⟨by have:=yD.out;have:=pv.out;have:=rl.out;have:=CL.out;have:=NG.out;have:=HK6.out;first|omega|exact Nat.le_refl _⟩,⟨qI⟩,⟨qK⟩,⟨qB⟩⟩
               ·rw [if_neg SU] at H
                have vz:decide (xj<6)=false:=decide_eq_false SU
                clear SU
                (first|rw [vz]|(simp only [cB,cJ];rw [vz])|skip)
                have H':=am H
                clear H
                go_wp2
                go_meet
                case rel=>exact⟨_,(nM),(nN),H',⟨by have:=yD.out;have:=pv.out;have:=rl.out;have:=CL.out;have:=NG.out;have:=HK6.out;first|omega|exact Nat.le_refl _⟩,⟨qI⟩,⟨qK⟩,⟨qB⟩⟩
            case rest=>
             clear SS
             try clear c1
             try clear c2
             try clear p2
             try clear c4
             try clear eF
             try clear c5
             try clear c6
             try clear p6
             try clear c7
             try clear mF
             try clear eZ
             try clear kJ
             try clear ln
             try clear iE
             try clear mi
             try clear mj
             try clear ml
             try clear ov
             try clear gB
             try clear mJ
             try clear mL
             try clear vv
             try clear nE
             try clear iU
             try clear mh
             try clear qq
             try clear zD
             try clear SQ
             try clear CM
             try clear qV
             try clear EU
             try clear VZ
             try clear SU
             try clear vz
             try clear SV
             try clear Qr
             try clear nH
             try clear nI
             try clear nJ
             try clear js
             try clear jt
             try clear ju
             try clear rH
             try clear rI
             try clear rJ
             try clear EV
             try clear EW
             try clear EX
             try clear NI
             try clear NJ
             try clear NK
             try clear gY
             try clear gZ
             try clear hG
             try clear nK
             try clear nL
             try clear jv
             try clear jw
             try clear rK
             try clear rL
             try clear EY
             try clear EZ
             try clear NL
             try clear NM
             try clear hY
             try clear hZ
             try clear p2
             try clear p6
             obtain⟨kq,mX,mY,HA,agQ,aQ,HK,HB⟩:=hcut
             cases kq with
             | zero=>exact absurd HA.out (by simp [af.j8])
             | succ SW=>
              have H:=HA.out
              clear HA
              simp only [af.j8] at H
              replace H:=Option.bind_eq_some_iff.mp H
              obtain⟨⟨CN,CO,Jq⟩,Xv,H⟩:=H
              replace H:((ax.f SW CN).bind fun uC=>(if uC≥0 then (some ((⟨#[114,97,110,103,101]⟩:ByteArray),CO,true)) else (some ((⟨#[114,97,110,103,101]⟩:ByteArray),CO,Jq))))=some (r1,r2,r3):=H
              have A64:=am Xv
              clear Xv
              replace H:=Option.bind_eq_some_iff.mp H
              obtain⟨uC,Xw,H⟩:=H
              replace H:(if uC≥0 then (some ((⟨#[114,97,110,103,101]⟩:ByteArray),CO,true)) else (some ((⟨#[114,97,110,103,101]⟩:ByteArray),CO,Jq)))=some (r1,r2,r3):=H
              have A65:=am Xw
              clear Xw
              by_cases V3:uC≥0
              ·rw [if_pos V3] at H
               have Xx:decide (0≤uC)=true:=decide_eq_true V3
               clear V3
               simp only [Option.some.injEq,Prod.mk.injEq] at H
               obtain⟨rfl,rfl,rfl⟩:=H
               go_wp2_with (first|(refine gL 104 110 Tryz.func104 #[.pointer (some ⟨g,0,none⟩),.int .i64 0] ?_;(with_reducible refine mK (aa.calls g ah mX mY 0 CN CO Jq w0 _ qI qB A64.out) ?_);clear aQ HB HK;intro V4 aQ HB HK;refine⟨_,rfl,?_⟩)|(refine gL 111 111 Tryz.func111 #[.int .u8 CN] ?_;(with_reducible refine(ax.calls SW CN uC _ A65.out).mono ?_);rintro e w' ⟨rfl,⟨nd,rfl⟩⟩;refine⟨_,rfl,?_⟩;(try(rw [dC V4];generalize gI:World.drewN V4 _=V4;have cR:ak (aD w0 V4 g ah CO Jq):=⟨by rw [←gI];exact qI⟩;have cM:ak (aw w V4 g none):=⟨by rw [←gI];exact qK⟩;have cY:ak (Below w0.heap.size w0 V4):=⟨by rw [←gI];exact qB⟩;clear aQ HK HB gI;have aQ:=cR;have HK:=cM;have HB:=cY;clear cR cM cY));obtain⟨ada,adb,vB,Xy,ade⟩:=aQ.out;have adf:=aK vB;have adg:=aM vB;have adh:=aN vB;have adi:=ai vB 1;have adj:=ai vB 2;clear vB Xy))
               go_ret
               exact⟨qG,qI,qB,qK⟩
              ·rw [if_neg V3] at H
               have Xx:decide (0≤uC)=false:=decide_eq_false V3
               clear V3
               simp only [Option.some.injEq,Prod.mk.injEq] at H
               obtain⟨rfl,rfl,rfl⟩:=H
               go_wp2_with (first|(refine gL 104 110 Tryz.func104 #[.pointer (some ⟨g,0,none⟩),.int .i64 0] ?_;(with_reducible refine mK (aa.calls g ah mX mY 0 CN CO Jq w0 _ qI qB A64.out) ?_);clear aQ HB HK;intro w69 aQ HB HK;refine⟨_,rfl,?_⟩)|(refine gL 111 111 Tryz.func111 #[.int .u8 CN] ?_;(with_reducible refine(ax.calls SW CN uC _ A65.out).mono ?_);rintro e w' ⟨rfl,⟨nd,rfl⟩⟩;refine⟨_,rfl,?_⟩))
               go_ret
               exact⟨qG,qI,qB,qK⟩
           ·replace VZ:=Bool.eq_false_iff.mpr VZ
            subst VZ
            have H1:(some ((⟨#[114,97,110,103,101]⟩:ByteArray),kR,kS))=some (r1,r2,r3):=by rw [if_neg (show ¬(false=true) by decide)] at H;exact H
            clear H
            have H:=H1
            clear H1
            simp only [Option.some.injEq,Prod.mk.injEq] at H
            obtain⟨rfl,rfl,rfl⟩:=H
            go_wp2
            go_ret
            exact⟨qG,qI,qB,qK⟩
end Go.Proofs.YtlglijnaeaonpaaGreatDoor.bG
end
