/- FnRules: a part of the proof (Rd); in it lines that print.sh printed, those that are used. -/
import Derived.Test.YtlglijnaeaonpaaGreatDoorRa
import Derived.Test.YtlglijnaeaonpaaGreatDoorRc
import Derived.Test.YtlglijnaeaonpaaGreatDoorRb
section
set_option maxHeartbeats 8000000
set_option maxRecDepth 100000
set_option linter.unusedVariables false
set_option linter.unusedSimpArgs false
namespace Go.Proofs.YtlglijnaeaonpaaGreatDoor.bG
open Go.RowKit Go.Proofs.YtlglijnaeaonpaaGreatDoorW.aC Go.Proofs.YtlglijnaeaonpaaGreatDoorW.dQ Go.Proofs.YtlglijnaeaonpaaGreatDoorW.eR
attribute [local go_sem] fZ ga iu iv fk fl gd gg
def az.l0:Nat→List Int→Int→Bool→Option (Int×Bool)
 | 0,_,_,_=>none
 | k+1,x1000,x1001,x1002=>(aV.f x1000 x1001 x1002).bind fun zn=>(if zn.1=true then (some (zn.2.1,zn.2.2)) else ((aa.f x1000 zn.2.1 zn.2.2 0).bind fun iF=>((bK.f iF.1).bind fun ux=>(if ux=true then (az.l0 k x1000 (wrap64 (iF.2.1+1)) iF.2.2) else ((ay.f x1000 iF.2.1 iF.2.2 0).bind fun du=>(if du.1=true then ((aj.f k x1000 du.2.1 du.2.2).bind fun fC=>(az.l0 k x1000 fC.1 fC.2)) else (some (du.2.1,du.2.2))))))))
def az.f (k:Nat) (ah:List Int) (bg:Int) (bq:Bool):Option (Int×Bool):=az.l0 k ah bg bq
theorem az.calls (k:Nat) (g:Nat) (ah:List Int) (bg:Int) (bq:Bool) (r1:Int) (r2:Bool) (w0 w:World) (hI:aD w0 w g ah bg bq) (hB:Below w0.heap.size w0 w) (h:az.f k ah bg bq=some (r1,r2)):
  Calls Tryz.prog 139 #[.pointer (some ⟨g,0,none⟩)] w fun e w' =>e= .returned (.tuple #[])∧aD w0 w' g ah r1 r2∧Below w0.heap.size w0 w' ∧aw w w' g none:=by
 have aQ:=am hI
 have HK:=am (aw.refl w g none)
 have HL:=am hB.size
 clear hI
 have yX:=am hB.size
 have HB:=am hB
 clear hB
 have H:(az.l0 k ah bg bq)=some (r1,r2):=h
 clear h
 have H':=am H
 clear H
 go_enter Tryz.func139,Tryz.ntmps139
 go_wp2
 go_loopg [] k (fun kq w' =>∃(aZ:Int) (a8:Bool),ak (az.l0 kq ah aZ a8=some (r1,r2))∧ak (kq≤k)∧ak (aD w0 w' g ah aZ a8)∧ak (aw w w' g none)∧ak (Below w0.heap.size w0 w'))
 case atStart=>exact⟨(bg),(bq),H',⟨Nat.le_refl _⟩,⟨qI⟩,⟨qK⟩,⟨qB⟩⟩
 case round=>
  clear H'
  try clear c1
  obtain⟨aZ,a8,HA,dR,aQ,HK,HB⟩:=hrel
  cases gk with
  | zero=>exact absurd HA.out (by simp [az.l0])
  | succ k1=>
   have H:=HA.out
   clear HA
   simp only [az.l0] at H
   replace H:=Option.bind_eq_some_iff.mp H
   obtain⟨⟨WZ,sq,sr⟩,mf,H⟩:=H
   replace H:(if WZ=true then (some (sq,sr)) else ((aa.f ah sq sr 0).bind fun iF=>((bK.f iF.1).bind fun ux=>(if ux=true then (az.l0 k1 ah (wrap64 (iF.2.1+1)) iF.2.2) else ((ay.f ah iF.2.1 iF.2.2 0).bind fun du=>(if du.1=true then ((aj.f k1 ah du.2.1 du.2.2).bind fun fC=>(az.l0 k1 ah fC.1 fC.2)) else (some (du.2.1,du.2.2))))))))=some (r1,r2):=H
   have A2:=am mf
   clear mf
   by_cases c3:WZ=true
   ·subst c3
    have H1:(some (sq,sr))=some (r1,r2):=by rw [if_pos rfl] at H;exact H
    clear H
    have H:=H1
    clear H1
    simp only [Option.some.injEq,Prod.mk.injEq] at H
    obtain⟨rfl,rfl⟩:=H
    go_wp2_with (first|(refine gL 67 3 Tryz.func67 #[.pointer (some ⟨g,0,none⟩)] ?_;(with_reducible refine mK (aV.calls g ah aZ a8 true sq sr w0 _ qI qB A2.out) ?_);clear aQ HB HK;intro w4 aQ HB HK;refine⟨_,rfl,?_⟩))
    first|go_end0|((try simp only [Exit.inBlock,Exit.then]);refine bodyPost_ret (results_none rfl _ _ _) rfl ?_)
    exact⟨qG,qI,qB,qK⟩
   ·replace c3:=Bool.eq_false_iff.mpr c3
    subst c3
    have H1:((aa.f ah sq sr 0).bind fun iF=>((bK.f iF.1).bind fun ux=>(if ux=true then (az.l0 k1 ah (wrap64 (iF.2.1+1)) iF.2.2) else ((ay.f ah iF.2.1 iF.2.2 0).bind fun du=>(if du.1=true then ((aj.f k1 ah du.2.1 du.2.2).bind fun fC=>(az.l0 k1 ah fC.1 fC.2)) else (some (du.2.1,du.2.2)))))))=some (r1,r2):=by rw [if_neg (show ¬(false=true) by decide)] at H;exact H
    clear H
    have H:=H1
    clear H1
    replace H:=Option.bind_eq_some_iff.mp H
    obtain⟨⟨uy,qo,qp⟩,BX,H⟩:=H
    replace H:((bK.f uy).bind fun ux=>(if ux=true then (az.l0 k1 ah (wrap64 (qo+1)) qp) else ((ay.f ah qo qp 0).bind fun du=>(if du.1=true then ((aj.f k1 ah du.2.1 du.2.2).bind fun fC=>(az.l0 k1 ah fC.1 fC.2)) else (some (du.2.1,du.2.2))))))=some (r1,r2):=H
    have A5:=am BX
    clear BX
    replace H:=Option.bind_eq_some_iff.mp H
    obtain⟨ux,My,H⟩:=H
    replace H:(if ux=true then (az.l0 k1 ah (wrap64 (qo+1)) qp) else ((ay.f ah qo qp 0).bind fun du=>(if du.1=true then ((aj.f k1 ah du.2.1 du.2.2).bind fun fC=>(az.l0 k1 ah fC.1 fC.2)) else (some (du.2.1,du.2.2)))))=some (r1,r2):=H
    have A6:=am My
    clear My
    by_cases c7:ux=true
    ·subst c7
     have H1:(az.l0 k1 ah (wrap64 (qo+1)) qp)=some (r1,r2):=by rw [if_pos rfl] at H;exact H
     clear H
     have H:=H1
     clear H1
     have H':=am H
     clear H
     go_wp2_with (first|(refine gL 67 3 Tryz.func67 #[.pointer (some ⟨g,0,none⟩)] ?_;(with_reducible refine mK (aV.calls g ah aZ a8 false sq sr w0 _ qI qB A2.out) ?_);clear aQ HB HK;intro w8 aQ HB HK;refine⟨_,rfl,?_⟩)|(refine gL 104 7 Tryz.func104 #[.pointer (some ⟨g,0,none⟩),.int .i64 0] ?_;(with_reducible refine mK (aa.calls g ah sq sr 0 uy qo qp w0 _ qI qB A5.out) ?_);clear aQ HB HK;intro w9 aQ HB HK;refine⟨_,rfl,?_⟩)|(refine gL 142 8 Tryz.func142 #[.int .u8 uy] ?_;(with_reducible refine(bK.calls uy true _ A6.out).mono ?_);rintro e w' ⟨rfl,⟨nd,rfl⟩⟩;refine⟨_,rfl,?_⟩;(try(rw [dC w9];generalize gI:World.drewN w9 _=w9;have cR:ak (aD w0 w9 g ah qo qp):=⟨by rw [←gI];exact qI⟩;have cM:ak (aw w w9 g none):=⟨by rw [←gI];exact qK⟩;have cY:ak (Below w0.heap.size w0 w9):=⟨by rw [←gI];exact qB⟩;clear aQ HK HB gI;have aQ:=cR;have HK:=cM;have HB:=cY;clear cR cM cY));obtain⟨M7,M8,kI,I4,M9⟩:=aQ.out;have Ex:=aK kI;have Ey:=aM kI;have Ez:=aN kI;have EA:=ai kI 1;have EB:=ai kI 2;clear kI I4))
     go_roundg k1
     case measure=>have:=dR.out;omega
     case rel=>exact⟨(wrap64 (qo+1)),(qp),H',⟨by have:=dR.out;omega⟩,⟨qI⟩,⟨qK⟩,⟨qB⟩⟩
    ·replace c7:=Bool.eq_false_iff.mpr c7
     subst c7
     have H1:((ay.f ah qo qp 0).bind fun du=>(if du.1=true then ((aj.f k1 ah du.2.1 du.2.2).bind fun fC=>(az.l0 k1 ah fC.1 fC.2)) else (some (du.2.1,du.2.2))))=some (r1,r2):=by rw [if_neg (show ¬(false=true) by decide)] at H;exact H
     clear H
     have H:=H1
     clear H1
     replace H:=Option.bind_eq_some_iff.mp H
     obtain⟨⟨W4,CF,CG⟩,sl,H⟩:=H
     replace H:(if W4=true then ((aj.f k1 ah CF CG).bind fun fC=>(az.l0 k1 ah fC.1 fC.2)) else (some (CF,CG)))=some (r1,r2):=H
     have Mv:=am sl
     clear sl
     by_cases ln:W4=true
     ·subst ln
      have H1:((aj.f k1 ah CF CG).bind fun fC=>(az.l0 k1 ah fC.1 fC.2))=some (r1,r2):=by rw [if_pos rfl] at H;exact H
      clear H
      have H:=H1
      clear H1
      replace H:=Option.bind_eq_some_iff.mp H
      obtain⟨⟨Sr,Ss⟩,zo,H⟩:=H
      replace H:(az.l0 k1 ah Sr Ss)=some (r1,r2):=H
      have Qo:=am zo
      clear zo
      have H':=am H
      clear H
      go_wp2_with (first|(refine gL 67 3 Tryz.func67 #[.pointer (some ⟨g,0,none⟩)] ?_;(with_reducible refine mK (aV.calls g ah aZ a8 false sq sr w0 _ qI qB A2.out) ?_);clear aQ HB HK;intro w14 aQ HB HK;refine⟨_,rfl,?_⟩)|(refine gL 104 7 Tryz.func104 #[.pointer (some ⟨g,0,none⟩),.int .i64 0] ?_;(with_reducible refine mK (aa.calls g ah sq sr 0 uy qo qp w0 _ qI qB A5.out) ?_);clear aQ HB HK;intro w15 aQ HB HK;refine⟨_,rfl,?_⟩)|(refine gL 142 8 Tryz.func142 #[.int .u8 uy] ?_;(with_reducible refine(bK.calls uy false _ A6.out).mono ?_);rintro e w' ⟨rfl,⟨nd,rfl⟩⟩;refine⟨_,rfl,?_⟩)|(refine gL 135 18 Tryz.func135 #[.pointer (some ⟨g,0,none⟩),.int .i64 0] ?_;(with_reducible refine mK (ay.calls g ah qo qp 0 true CF CG w0 _ qI qB Mv.out) ?_);clear aQ HB HK;intro M1 aQ HB HK;refine⟨_,rfl,?_⟩)|(refine gL 136 20 Tryz.func136 #[.pointer (some ⟨g,0,none⟩)] ?_;(with_reducible refine mK (aj.calls k1 g ah CF CG Sr Ss w0 _ qI qB Qo.out) ?_);clear aQ HB HK;intro Eo aQ HB HK;refine⟨_,rfl,?_⟩))
      go_roundg k1
      case measure=>have:=dR.out;omega
      case rel=>exact⟨(Sr),(Ss),H',⟨by have:=dR.out;omega⟩,⟨qI⟩,⟨qK⟩,⟨qB⟩⟩
     ·replace ln:=Bool.eq_false_iff.mpr ln
      subst ln
      have H1:(some (CF,CG))=some (r1,r2):=by rw [if_neg (show ¬(false=true) by decide)] at H;exact H
      clear H
      have H:=H1
      clear H1
      simp only [Option.some.injEq,Prod.mk.injEq] at H
      obtain⟨rfl,rfl⟩:=H
      go_wp2_with (first|(refine gL 67 3 Tryz.func67 #[.pointer (some ⟨g,0,none⟩)] ?_;(with_reducible refine mK (aV.calls g ah aZ a8 false sq sr w0 _ qI qB A2.out) ?_);clear aQ HB HK;intro w18 aQ HB HK;refine⟨_,rfl,?_⟩)|(refine gL 104 7 Tryz.func104 #[.pointer (some ⟨g,0,none⟩),.int .i64 0] ?_;(with_reducible refine mK (aa.calls g ah sq sr 0 uy qo qp w0 _ qI qB A5.out) ?_);clear aQ HB HK;intro M6 aQ HB HK;refine⟨_,rfl,?_⟩)|(refine gL 142 8 Tryz.func142 #[.int .u8 uy] ?_;(with_reducible refine(bK.calls uy false _ A6.out).mono ?_);rintro e w' ⟨rfl,⟨nd,rfl⟩⟩;refine⟨_,rfl,?_⟩)|(refine gL 135 18 Tryz.func135 #[.pointer (some ⟨g,0,none⟩),.int .i64 0] ?_;(with_reducible refine mK (ay.calls g ah qo qp 0 false CF CG w0 _ qI qB Mv.out) ?_);clear aQ HB HK;intro VU aQ HB HK;refine⟨_,rfl,?_⟩))
      first|go_end0|((try simp only [Exit.inBlock,Exit.then]);refine bodyPost_ret (results_none rfl _ _ _) rfl ?_)
      exact⟨qG,qI,qB,qK⟩
mutual
def ab.j0:Nat→Bool→List Int→Int→Bool→Option (ByteArray×Int×Bool)
 | 0,_,_,_,_=>none
 | k+1,x14,x1000,x1001,x1002=>if x14=true then (ab.j1 k x1000 (wrap64 (x1001+1)) x1002) else (ab.j1 k x1000 x1001 x1002)
def ab.j1:Nat→List Int→Int→Bool→Option (ByteArray×Int×Bool)
 | 0,_,_,_=>none
 | k+1,x1000,x1001,x1002=>(aT.f k x1000 x1001 x1002).bind fun Qp=>((aa.f x1000 Qp.1 Qp.2 0).bind fun mP=>(if mP.1=46 then ((aa.f x1000 mP.2.1 mP.2.2 1).bind fun mQ=>((aW.f mQ.1).bind fun ss=>(ab.j2 k ss x1000 mQ.2.1 mQ.2.2))) else (ab.j2 k false x1000 mP.2.1 mP.2.2)))
def ab.j2:Nat→Bool→List Int→Int→Bool→Option (ByteArray×Int×Bool)
 | 0,_,_,_,_=>none
 | k+1,x31,x1000,x1001,x1002=>if x31=true then ((aT.f k x1000 (wrap64 (x1001+1)) x1002).bind fun zp=>(ab.j3 k x1000 zp.1 zp.2)) else (ab.j3 k x1000 x1001 x1002)
def ab.j3:Nat→List Int→Int→Bool→Option (ByteArray×Int×Bool)
 | 0,_,_,_=>none
 | k+1,x1000,x1001,x1002=>(aa.f x1000 x1001 x1002 0).bind fun vq=>(if vq.1=101 then (ab.j4 k true x1000 vq.2.1 vq.2.2) else (ab.j4 k (vq.1==69) x1000 vq.2.1 vq.2.2))
def ab.j4:Nat→Bool→List Int→Int→Bool→Option (ByteArray×Int×Bool)
 | 0,_,_,_,_=>none
 | k+1,x48,x1000,x1001,x1002=>if x48=true then ((aa.f x1000 x1001 x1002 1).bind fun kL=>(if kL.1=43 then (ab.j5 k 1 true x1000 kL.2.1 kL.2.2) else (ab.j5 k 1 (kL.1==45) x1000 kL.2.1 kL.2.2))) else (ab.j7 k x1000 x1001 x1002)
def ab.j7:Nat→List Int→Int→Bool→Option (ByteArray×Int×Bool)
 | 0,_,_,_=>none
 | k+1,x1000,x1001,x1002=>(aA.f k x1000 x1001 x1002 0).bind fun zq=>(if zq.1=true then ((az.f k x1000 zq.2.1 zq.2.2).bind fun qU=>(some ((⟨#[100,105,109,101,110,115,105,111,110]⟩:ByteArray),qU.1,qU.2))) else ((aa.f x1000 zq.2.1 zq.2.2 0).bind fun iG=>(if iG.1=37 then (some ((⟨#[112,101,114,99,101,110,116,97,103,101]⟩:ByteArray),wrap64 (iG.2.1+1),iG.2.2)) else (some ((⟨#[110,117,109,98,101,114]⟩:ByteArray),iG.2.1,iG.2.2)))))
def ab.j5:Nat→Int→Bool→List Int→Int→Bool→Option (ByteArray×Int×Bool)
 | 0,_,_,_,_,_=>none
 | k+1,x5,x56,x1000,x1001,x1002=>if x56=true then (ab.j6 k 2 x1000 x1001 x1002) else (ab.j6 k x5 x1000 x1001 x1002)
def ab.j6:Nat→Int→List Int→Int→Bool→Option (ByteArray×Int×Bool)
 | 0,_,_,_,_=>none
 | k+1,x5,x1000,x1001,x1002=>(aa.f x1000 x1001 x1002 x5).bind fun zr=>((aW.f zr.1).bind fun Gs=>(if Gs=true then ((aT.f k x1000 (wrap64 (zr.2.1+x5)) zr.2.2).bind fun mR=>(ab.j7 k x1000 mR.1 mR.2)) else (ab.j7 k x1000 zr.2.1 zr.2.2)))
end
def ab.f (k:Nat) (ah:List Int) (bg:Int) (bq:Bool):Option (ByteArray×Int×Bool):=(aa.f ah bg bq 0).bind fun kM=>(if kM.1=43 then (ab.j0 k true ah kM.2.1 kM.2.2) else (ab.j0 k (kM.1==45) ah kM.2.1 kM.2.2))
theorem ab.calls (k:Nat) (g:Nat) (ah:List Int) (bg:Int) (bq:Bool) (r1:ByteArray) (r2:Int) (r3:Bool) (w0 w:World) (hI:aD w0 w g ah bg bq) (hB:Below w0.heap.size w0 w) (h:ab.f k ah bg bq=some (r1,r2,r3)):
  Calls Tryz.prog 110 #[.pointer (some ⟨g,0,none⟩)] w fun e w' =>e= .returned (.string r1)∧aD w0 w' g ah r2 r3∧Below w0.heap.size w0 w' ∧aw w w' g none:=by
 have aQ:=am hI
 have HK:=am (aw.refl w g none)
 have HL:=am hB.size
 clear hI
 have yX:=am hB.size
 have HB:=am hB
 clear hB
 have H:((aa.f ah bg bq 0).bind fun kM=>(if kM.1=43 then (ab.j0 k true ah kM.2.1 kM.2.2) else (ab.j0 k (kM.1==45) ah kM.2.1 kM.2.2)))=some (r1,r2,r3):=h
 clear h
 replace H:=Option.bind_eq_some_iff.mp H
 obtain⟨⟨wW,wX,uz⟩,mf,H⟩:=H
 replace H:(if wW=43 then (ab.j0 k true ah wX uz) else (ab.j0 k (wW==45) ah wX uz))=some (r1,r2,r3):=H
 have A2:=am mf
 clear mf
 have Si:=am H
 clear H
 go_enter Tryz.func110,Tryz.ntmps110
 go_upto_region 2 with (first|(refine gL 104 8 Tryz.func104 #[.pointer (some ⟨g,0,none⟩),.int .i64 0] ?_;(with_reducible refine mK (aa.calls g ah bg bq 0 wW wX uz w0 _ qI qB A2.out) ?_);clear aQ HB HK;intro w4 aQ HB HK;refine⟨_,rfl,?_⟩))
 (try simp only [Act.put,List.setIfInBounds_toArray,List.set_cons_zero,List.set_cons_succ])
 go_cut [14] (fun W9 wc=>∃(kq:Nat) (ER:Bool),W9= .bool ER∧ak (ab.j0 kq ER ah wX uz=some (r1,r2,r3))∧ak (kq≤k)∧ak (aD w0 wc g ah wX uz)∧ak (aw w wc g none)∧ak (Below w0.heap.size w0 wc))
 case first=>
  have H:=Si.out
  clear Si
  by_cases c5:wW=43
  ·rw [if_pos c5] at H
   have df:(wW==43)=true:=beq_iff_eq.mpr c5
   have iX:(wW !=43)=false:=bne_eq_false_iff_eq.mpr c5
   clear c5
   (first|rw [df]|(simp only [cB,cJ];rw [df])|skip)
   have H':=am H
   clear H
   go_wp2
   go_meet
   case rel=>exact⟨_,(true),qF,H',⟨by first|omega|exact Nat.le_refl _⟩,⟨qI⟩,⟨qK⟩,⟨qB⟩⟩
  ·rw [if_neg c5] at H
   have df:(wW==43)=false:=beq_eq_false_iff_ne.mpr c5
   have iX:(wW !=43)=true:=bne_iff_ne.mpr c5
   (first|rw [df]|(simp only [cB,cJ];rw [df])|skip)
   have H':=am H
   clear H
   go_wp2
   go_meet
   case rel=>exact⟨_,((wW==45)),qF,H',⟨by first|omega|exact Nat.le_refl _⟩,⟨qI⟩,⟨qK⟩,⟨qB⟩⟩
 case rest=>
  clear Si
  try clear c1
  try clear p2
  try clear c5
  try clear df
  try clear iX
  obtain⟨kq,ER,rfl,HA,yC,aQ,HK,HB⟩:=hcut
  cases kq with
  | zero=>exact absurd HA.out (by simp [ab.j0])
  | succ Sj=>
   have H:=HA.out
   clear HA
   simp only [ab.j0] at H
   have I1:=am H
   clear H
   go_upto_if 14 with (fail)
   go_cut [] (fun wc=>∃(kq:Nat) (rG:Int),ak (ab.j1 kq ah rG uz=some (r1,r2,r3))∧ak (kq≤Sj)∧ak (aD w0 wc g ah rG uz)∧ak (aw w wc g none)∧ak (Below w0.heap.size w0 wc))
   case first=>
    have H:=I1.out
    clear I1
    by_cases c7:ER=true
    ·subst c7
     have H1:(ab.j1 Sj ah (wrap64 (wX+1)) uz)=some (r1,r2,r3):=by rw [if_pos rfl] at H;exact H
     clear H
     have H:=H1
     clear H1
     have H':=am H
     clear H
     obtain⟨IM,IN,kz,IP,Ct⟩:=aQ.out
     have j9:=aK kz
     have kf:=aM kz
     have kg:=aN kz
     have ki:=ai kz 1
     have kj:=ai kz 2
     clear kz IP
     go_wp2
     go_meet
     case rel=>exact⟨_,(wrap64 (wX+1)),H',⟨by have:=yC.out;first|omega|exact Nat.le_refl _⟩,⟨qI⟩,⟨qK⟩,⟨qB⟩⟩
    ·replace c7:=Bool.eq_false_iff.mpr c7
     subst c7
     have H1:(ab.j1 Sj ah wX uz)=some (r1,r2,r3):=by rw [if_neg (show ¬(false=true) by decide)] at H;exact H
     clear H
     have H:=H1
     clear H1
     have H':=am H
     clear H
     go_wp2
     go_meet
     case rel=>exact⟨_,(wX),H',⟨by have:=yC.out;first|omega|exact Nat.le_refl _⟩,⟨qI⟩,⟨qK⟩,⟨qB⟩⟩
   case rest=>
    clear I1
    try clear c1
    try clear p2
    try clear c5
    try clear df
    try clear iX
    try clear p6
    try clear c7
    try clear j9
    try clear kf
    try clear kg
    try clear ki
    try clear kj
    try clear p2
    obtain⟨kq,rG,HA,Cw,aQ,HK,HB⟩:=hcut
    cases kq with
    | zero=>exact absurd HA.out (by simp [ab.j1])
    | succ Mu=>
     have H:=HA.out
     clear HA
     simp only [ab.j1] at H
     replace H:=Option.bind_eq_some_iff.mp H
     obtain⟨⟨Nl,Nn⟩,Ee,H⟩:=H
     replace H:((aa.f ah Nl Nn 0).bind fun mP=>(if mP.1=46 then ((aa.f ah mP.2.1 mP.2.2 1).bind fun mQ=>((aW.f mQ.1).bind fun ss=>(ab.j2 Mu ss ah mQ.2.1 mQ.2.2))) else (ab.j2 Mu false ah mP.2.1 mP.2.2)))=some (r1,r2,r3):=H
     have A9:=am Ee
     clear Ee
     have Su:=am H
     clear H
     go_upto_region 5 with (first|(refine gL 138 23 Tryz.func138 #[.pointer (some ⟨g,0,none⟩)] ?_;(with_reducible refine mK (aT.calls Mu g ah rG uz Nl Nn w0 _ qI qB A9.out) ?_);clear aQ HB HK;intro VT aQ HB HK;refine⟨_,rfl,?_⟩))
     (try simp only [Act.put,List.setIfInBounds_toArray,List.set_cons_zero,List.set_cons_succ])
     go_cut [31] (fun v31 wc=>∃(kq:Nat) (ES:Bool) (lE:Int) (lF:Bool),v31= .bool ES∧ak (ab.j2 kq ES ah lE lF=some (r1,r2,r3))∧ak (kq≤Mu)∧ak (aD w0 wc g ah lE lF)∧ak (aw w wc g none)∧ak (Below w0.heap.size w0 wc))
     case first=>
      have H:=Su.out
      clear Su
      replace H:=Option.bind_eq_some_iff.mp H
      obtain⟨⟨zt,Gt,Gu⟩,zc,H⟩:=H
      replace H:(if zt=46 then ((aa.f ah Gt Gu 1).bind fun mQ=>((aW.f mQ.1).bind fun ss=>(ab.j2 Mu ss ah mQ.2.1 mQ.2.2))) else (ab.j2 Mu false ah Gt Gu))=some (r1,r2,r3):=H
      have Qi:=am zc
      clear zc
      by_cases kr:zt=46
      ·rw [if_pos kr] at H
       have jo:(zt==46)=true:=beq_iff_eq.mpr kr
       have mH:(zt !=46)=false:=bne_eq_false_iff_eq.mpr kr
       clear kr
       (first|rw [jo]|(simp only [cB,cJ];rw [jo])|skip)
       replace H:=Option.bind_eq_some_iff.mp H
       obtain⟨⟨Sv,No,Np⟩,zd,H⟩:=H
       replace H:((aW.f Sv).bind fun ss=>(ab.j2 Mu ss ah No Np))=some (r1,r2,r3):=H
       have VV:=am zd
       clear zd
       replace H:=Option.bind_eq_some_iff.mp H
       obtain⟨ss,sk,H⟩:=H
       replace H:(ab.j2 Mu ss ah No Np)=some (r1,r2,r3):=H
       have Qj:=am sk
       clear sk
       have H':=am H
       clear H
       go_wp2_with (first|(refine gL 104 25 Tryz.func104 #[.pointer (some ⟨g,0,none⟩),.int .i64 0] ?_;(with_reducible refine mK (aa.calls g ah Nl Nn 0 zt Gt Gu w0 _ qI qB Qi.out) ?_);clear aQ HB HK;intro M1 aQ HB HK;refine⟨_,rfl,?_⟩)|(go_at_call 104;(with_reducible refine mK (aa.calls g ah Gt Gu 1 Sv No Np w0 _ qI qB VV.out) ?_);clear aQ HB HK;intro Eo aQ HB HK)|(go_at_call 137;(with_reducible refine(aW.calls Sv ss _ Qj.out).mono ?_);rintro e w' ⟨rfl,⟨nd,rfl⟩⟩))
       go_meet
       case rel=>exact⟨_,(ss),(No),(Np),qF,H',⟨by have:=yC.out;have:=Cw.out;first|omega|exact Nat.le_refl _⟩,⟨qI⟩,⟨qK⟩,⟨qB⟩⟩
      ·rw [if_neg kr] at H
       have jo:(zt==46)=false:=beq_eq_false_iff_ne.mpr kr
       have mH:(zt !=46)=true:=bne_iff_ne.mpr kr
       (first|rw [jo]|(simp only [cB,cJ];rw [jo])|skip)
       have H':=am H
       clear H
       go_wp2_with (first|(refine gL 104 25 Tryz.func104 #[.pointer (some ⟨g,0,none⟩),.int .i64 0] ?_;(with_reducible refine mK (aa.calls g ah Nl Nn 0 zt Gt Gu w0 _ qI qB Qi.out) ?_);clear aQ HB HK;intro w18 aQ HB HK;refine⟨_,rfl,?_⟩))
       go_meet
       case rel=>exact⟨_,(false),(Gt),(Gu),qF,H',⟨by have:=yC.out;have:=Cw.out;first|omega|exact Nat.le_refl _⟩,⟨qI⟩,⟨qK⟩,⟨qB⟩⟩
     case rest=>
      clear Su
      try clear c1
      try clear p2
      try clear c5
      try clear df
      try clear iX
      try clear p6
      try clear c7
      try clear eZ
      try clear kJ
      try clear kr
      try clear jo
      try clear mH
      try clear j9
      try clear kf
      try clear kg
      try clear ki
      try clear kj
      try clear p2
      try clear p6
      obtain⟨kq,ES,lE,lF,rfl,HA,Jd,aQ,HK,HB⟩:=hcut
      cases kq with
      | zero=>exact absurd HA.out (by simp [ab.j2])
      | succ VY=>
       have H:=HA.out
       clear HA
       simp only [ab.j2] at H
       have CE:=am H
       clear H
       go_upto_if 31 with (fail)
       go_cut [] (fun wc=>∃(kq:Nat) (eG:Int) (eH:Bool),ak (ab.j3 kq ah eG eH=some (r1,r2,r3))∧ak (kq≤VY)∧ak (aD w0 wc g ah eG eH)∧ak (aw w wc g none)∧ak (Below w0.heap.size w0 wc))
       case first=>
        have H:=CE.out
        clear CE
        by_cases pq:ES=true
        ·subst pq
         have H1:((aT.f VY ah (wrap64 (lE+1)) lF).bind fun zp=>(ab.j3 VY ah zp.1 zp.2))=some (r1,r2,r3):=by rw [if_pos rfl] at H;exact H
         clear H
         have H:=H1
         clear H1
         replace H:=Option.bind_eq_some_iff.mp H
         obtain⟨⟨Sw,Sx⟩,I5,H⟩:=H
         replace H:(ab.j3 VY ah Sw Sx)=some (r1,r2,r3):=H
         have A21:=am I5
         clear I5
         have H':=am H
         clear H
         obtain⟨Nq,Nr,kN,Je,Ns⟩:=aQ.out
         have lG:=aK kN
         have lH:=aM kN
         have lI:=aN kN
         have lJ:=ai kN 1
         have lK:=ai kN 2
         clear kN Je
         go_wp2_with (first|(refine gL 138 40 Tryz.func138 #[.pointer (some ⟨g,0,none⟩)] ?_;(with_reducible refine(aT.calls VY g ah (wrap64 (lE+1)) lF Sw Sx w0 _ ?side1 ?side2 A21.out).mono ?_);(case side1=>exact qI);(case side2=>exact qB);rintro e w23 ⟨rfl,hi,hb,hk⟩;refine⟨_,rfl,?_⟩;have cR:=am (aw.trans qK hk (.inl rfl));have cM:=am (hb);have cY:=am (hi);clear HK;clear HB;clear aQ;have HK:=cR;have HB:=cM;have aQ:=cY;clear cR cM cY;(try clear hb);(try clear dc);(try clear hk);(try clear hi)))
         go_meet
         case rel=>exact⟨_,(Sw),(Sx),H',⟨by have:=yC.out;have:=Cw.out;have:=Jd.out;first|omega|exact Nat.le_refl _⟩,⟨qI⟩,⟨qK⟩,⟨qB⟩⟩
        ·replace pq:=Bool.eq_false_iff.mpr pq
         subst pq
         have H1:(ab.j3 VY ah lE lF)=some (r1,r2,r3):=by rw [if_neg (show ¬(false=true) by decide)] at H;exact H
         clear H
         have H:=H1
         clear H1
         have H':=am H
         clear H
         go_wp2
         go_meet
         case rel=>exact⟨_,(lE),(lF),H',⟨by have:=yC.out;have:=Cw.out;have:=Jd.out;first|omega|exact Nat.le_refl _⟩,⟨qI⟩,⟨qK⟩,⟨qB⟩⟩
       case rest=>
        clear CE
        try clear c1
        try clear c2
        try clear p2
        try clear c5
        try clear df
        try clear iX
        try clear p6
        try clear c7
        try clear eZ
        try clear kJ
        try clear kr
        try clear jo
        try clear mH
        try clear pq
        try clear lG
        try clear lH
        try clear lI
        try clear j9
        try clear kf
        try clear kg
        try clear lJ
        try clear lK
        try clear ki
        try clear kj
        try clear p2
        try clear p6
        obtain⟨kq,eG,eH,HA,mr,aQ,HK,HB⟩:=hcut
        cases kq with
        | zero=>exact absurd HA.out (by simp [ab.j3])
        | succ jr=>
         have H:=HA.out
         clear HA
         simp only [ab.j3] at H
         replace H:=Option.bind_eq_some_iff.mp H
         obtain⟨⟨wY,wZ,xa⟩,Ja,H⟩:=H
         replace H:(if wY=101 then (ab.j4 jr true ah wZ xa) else (ab.j4 jr (wY==69) ah wZ xa))=some (r1,r2,r3):=H
         have A24:=am Ja
         clear Ja
         have Sy:=am H
         clear H
         go_upto_region 9 with (first|(refine gL 104 42 Tryz.func104 #[.pointer (some ⟨g,0,none⟩),.int .i64 0] ?_;(with_reducible refine mK (aa.calls g ah eG eH 0 wY wZ xa w0 _ qI qB A24.out) ?_);clear aQ HB HK;intro w26 aQ HB HK;refine⟨_,rfl,?_⟩))
         (try simp only [Act.put,List.setIfInBounds_toArray,List.set_cons_zero,List.set_cons_succ])
         go_cut [48] (fun v48 wc=>∃(kq:Nat) (xb:Bool),v48= .bool xb∧ak (ab.j4 kq xb ah wZ xa=some (r1,r2,r3))∧ak (kq≤jr)∧ak (aD w0 wc g ah wZ xa)∧ak (aw w wc g none)∧ak (Below w0.heap.size w0 wc))
         case first=>
          have H:=Sy.out
          clear Sy
          by_cases CH:wY=101
          ·rw [if_pos CH] at H
           have pt:(wY==101)=true:=beq_iff_eq.mpr CH
           have zu:(wY !=101)=false:=bne_eq_false_iff_eq.mpr CH
           clear CH
           (first|rw [pt]|(simp only [cB,cJ];rw [pt])|skip)
           have H':=am H
           clear H
           go_wp2
           go_meet
           case rel=>exact⟨_,(true),qF,H',⟨by have:=yC.out;have:=Cw.out;have:=Jd.out;have:=mr.out;first|omega|exact Nat.le_refl _⟩,⟨qI⟩,⟨qK⟩,⟨qB⟩⟩
          ·rw [if_neg CH] at H
           have pt:(wY==101)=false:=beq_eq_false_iff_ne.mpr CH
           have zu:(wY !=101)=true:=bne_iff_ne.mpr CH
           (first|rw [pt]|(simp only [cB,cJ];rw [pt])|skip)
           have H':=am H
           clear H
           go_wp2
           go_meet
           case rel=>exact⟨_,((wY==69)),qF,H',⟨by have:=yC.out;have:=Cw.out;have:=Jd.out;have:=mr.out;first|omega|exact Nat.le_refl _⟩,⟨qI⟩,⟨qK⟩,⟨qB⟩⟩
         case rest=>
          clear Sy
          try clear c1
          try clear c2
          try clear p2
          try clear c5
          try clear df
          try clear iX
          try clear p6
          try clear c7
          try clear eZ
          try clear kJ
          try clear kr
          try clear jo
          try clear mH
          try clear pq
          try clear CH
          try clear pt
          try clear zu
          try clear lG
          try clear lH
          try clear lI
          try clear j9
          try clear kf
          try clear kg
          try clear lJ
          try clear lK
          try clear ki
          try clear kj
          try clear p2
          try clear p6
          obtain⟨kq,xb,rfl,HA,CI,aQ,HK,HB⟩:=hcut
          cases kq with
          | zero=>exact absurd HA.out (by simp [ab.j4])
          | succ CJ=>
           have H:=HA.out
           clear HA
           simp only [ab.j4] at H
           have Sz:=am H
           clear H
           go_upto_if 48 with (fail)
           go_cut [] (fun wc=>∃(kq:Nat) (kO:Int) (kP:Bool),ak (ab.j7 kq ah kO kP=some (r1,r2,r3))∧ak (kq≤CJ)∧ak (aD w0 wc g ah kO kP)∧ak (aw w wc g none)∧ak (Below w0.heap.size w0 wc))
           case first=>
            have H:=Sz.out
            clear Sz
            by_cases qq:xb=true
            ·subst qq
             have H1:((aa.f ah wZ xa 1).bind fun kL=>(if kL.1=43 then (ab.j5 CJ 1 true ah kL.2.1 kL.2.2) else (ab.j5 CJ 1 (kL.1==45) ah kL.2.1 kL.2.2)))=some (r1,r2,r3):=by rw [if_pos rfl] at H;exact H
             clear H
             have H:=H1
             clear H1
             replace H:=Option.bind_eq_some_iff.mp H
             obtain⟨⟨xc,su,sx⟩,Xa,H⟩:=H
             replace H:(if xc=43 then (ab.j5 CJ 1 true ah su sx) else (ab.j5 CJ 1 (xc==45) ah su sx))=some (r1,r2,r3):=H
             have wy:=am Xa
             clear Xa
             have SA:=am H
             clear H
             go_upto_region 12 with (first|(refine gL 104 50 Tryz.func104 #[.pointer (some ⟨g,0,none⟩),.int .i64 1] ?_;(with_reducible refine mK (aa.calls g ah wZ xa 1 xc su sx w0 _ qI qB wy.out) ?_);clear aQ HB HK;intro w32 aQ HB HK;refine⟨_,rfl,?_⟩))
             (try simp only [Act.put,List.setIfInBounds_toArray,List.set_cons_zero,List.set_cons_succ])
             go_cut [56] (fun v56 wc=>∃(kq:Nat) (xd:Bool),v56= .bool xd∧ak (ab.j5 kq 1 xd ah su sx=some (r1,r2,r3))∧ak (kq≤CJ)∧ak (aD w0 wc g ah su sx)∧ak (aw w wc g none)∧ak (Below w0.heap.size w0 wc))
             case first=>
              have H:=SA.out
              clear SA
              by_cases ru:xc=43
              ·rw [if_pos ru] at H
               have mS:(xc==43)=true:=beq_iff_eq.mpr ru
               have sy:(xc !=43)=false:=bne_eq_false_iff_eq.mpr ru
               clear ru
               (first|rw [mS]|(simp only [cB,cJ];rw [mS])|skip)
               have H':=am H
               clear H
               go_wp2
               go_meet
               case rel=>exact⟨_,(true),qF,H',⟨by have:=yC.out;have:=Cw.out;have:=Jd.out;have:=mr.out;have:=CI.out;first|omega|exact Nat.le_refl _⟩,⟨qI⟩,⟨qK⟩,⟨qB⟩⟩
              ·rw [if_neg ru] at H
               have mS:(xc==43)=false:=beq_eq_false_iff_ne.mpr ru
               have sy:(xc !=43)=true:=bne_iff_ne.mpr ru
               (first|rw [mS]|(simp only [cB,cJ];rw [mS])|skip)
               have H':=am H
               clear H
               go_wp2
               go_meet
               case rel=>exact⟨_,((xc==45)),qF,H',⟨by have:=yC.out;have:=Cw.out;have:=Jd.out;have:=mr.out;have:=CI.out;first|omega|exact Nat.le_refl _⟩,⟨qI⟩,⟨qK⟩,⟨qB⟩⟩
             case rest=>
              clear SA
              try clear c1
              try clear c2
              try clear p2
              try clear c3
              try clear c5
              try clear df
              try clear iX
              try clear p6
              try clear c7
              try clear eZ
              try clear kJ
              try clear kr
              try clear jo
              try clear mH
              try clear pq
              try clear CH
              try clear pt
              try clear zu
              try clear qq
              try clear ru
              try clear mS
              try clear sy
              try clear lG
              try clear lH
              try clear lI
              try clear j9
              try clear kf
              try clear kg
              try clear lJ
              try clear lK
              try clear ki
              try clear kj
              try clear p2
              try clear p6
              obtain⟨kq,xd,rfl,HA,Nt,aQ,HK,HB⟩:=hcut
              cases kq with
              | zero=>exact absurd HA.out (by simp [ab.j5])
              | succ SB=>
               have H:=HA.out
               clear HA
               simp only [ab.j5] at H
               have SC:=am H
               clear H
               go_upto_if 56 with (fail)
               go_cut [5] (fun v5 wc=>∃(kq:Nat) (mT:Int),v5= .int .i64 mT∧ak (ab.j6 kq mT ah su sx=some (r1,r2,r3))∧ak (kq≤SB)∧ak (aD w0 wc g ah su sx)∧ak (aw w wc g none)∧ak (Below w0.heap.size w0 wc))
               case first=>
                have H:=SC.out
                clear SC
                by_cases I9:xd=true
                ·subst I9
                 have H1:(ab.j6 SB 2 ah su sx)=some (r1,r2,r3):=by rw [if_pos rfl] at H;exact H
                 clear H
                 have H:=H1
                 clear H1
                 have H':=am H
                 clear H
                 go_wp2
                 go_meet
                 case rel=>exact⟨_,(2),qF,H',⟨by have:=yC.out;have:=Cw.out;have:=Jd.out;have:=mr.out;have:=CI.out;have:=Nt.out;first|omega|exact Nat.le_refl _⟩,⟨qI⟩,⟨qK⟩,⟨qB⟩⟩
                ·replace I9:=Bool.eq_false_iff.mpr I9
                 subst I9
                 have H1:(ab.j6 SB 1 ah su sx)=some (r1,r2,r3):=by rw [if_neg (show ¬(false=true) by decide)] at H;exact H
                 clear H
                 have H:=H1
                 clear H1
                 have H':=am H
                 clear H
                 go_wp2
                 go_meet
                 case rel=>exact⟨_,(1),qF,H',⟨by have:=yC.out;have:=Cw.out;have:=Jd.out;have:=mr.out;have:=CI.out;have:=Nt.out;first|omega|exact Nat.le_refl _⟩,⟨qI⟩,⟨qK⟩,⟨qB⟩⟩
               case rest=>
                clear SC
                try clear c1
                try clear c2
                try clear p2
                try clear c3
                try clear c5
                try clear df
                try clear iX
                try clear p6
                try clear c7
                try clear eZ
                try clear kJ
                try clear kr
                try clear jo
                try clear mH
                try clear pq
                try clear CH
                try clear pt
                try clear zu
                try clear qq
                try clear ru
                try clear mS
                try clear sy
                try clear I9
                try clear lG
                try clear lH
                try clear lI
                try clear j9
                try clear kf
                try clear kg
                try clear lJ
                try clear lK
                try clear ki
                try clear kj
                try clear p2
                try clear p6
                obtain⟨kq,mT,rfl,HA,Xb,aQ,HK,HB⟩:=hcut
                cases kq with
                | zero=>exact absurd HA.out (by simp [ab.j6])
                | succ sF=>
                 have H:=HA.out
                 clear HA
                 simp only [ab.j6] at H
                 replace H:=Option.bind_eq_some_iff.mp H
                 obtain⟨⟨CK,sG,sH⟩,Xc,H⟩:=H
                 replace H:((aW.f CK).bind fun Gs=>(if Gs=true then ((aT.f sF ah (wrap64 (sG+mT)) sH).bind fun mR=>(ab.j7 sF ah mR.1 mR.2)) else (ab.j7 sF ah sG sH)))=some (r1,r2,r3):=H
                 have A36:=am Xc
                 clear Xc
                 replace H:=Option.bind_eq_some_iff.mp H
                 obtain⟨Gs,Jf,H⟩:=H
                 replace H:(if Gs=true then ((aT.f sF ah (wrap64 (sG+mT)) sH).bind fun mR=>(ab.j7 sF ah mR.1 mR.2)) else (ab.j7 sF ah sG sH))=some (r1,r2,r3):=H
                 have A37:=am Jf
                 clear Jf
                 by_cases SF:Gs=true
                 ·subst SF
                  have H1:((aT.f sF ah (wrap64 (sG+mT)) sH).bind fun mR=>(ab.j7 sF ah mR.1 mR.2))=some (r1,r2,r3):=by rw [if_pos rfl] at H;exact H
                  clear H
                  have H:=H1
                  clear H1
                  replace H:=Option.bind_eq_some_iff.mp H
                  obtain⟨⟨SG,SI⟩,Xd,H⟩:=H
                  replace H:(ab.j7 sF ah SG SI)=some (r1,r2,r3):=H
                  have A39:=am Xd
                  clear Xd
                  have H':=am H
                  clear H
                  go_wp2_with (first|(refine gL 104 59 Tryz.func104 #[.pointer (some ⟨g,0,none⟩),.int .i64 mT] ?_;(with_reducible refine mK (aa.calls g ah su sx mT CK sG sH w0 _ qI qB A36.out) ?_);clear aQ HB HK;intro SJ aQ HB HK;refine⟨_,rfl,?_⟩)|(refine gL 137 60 Tryz.func137 #[.int .u8 CK] ?_;(with_reducible refine(aW.calls CK true _ A37.out).mono ?_);rintro e w' ⟨rfl,⟨nd,rfl⟩⟩;refine⟨_,rfl,?_⟩;(try(rw [dC SJ];generalize gI:World.drewN SJ _=SJ;have cR:ak (aD w0 SJ g ah sG sH):=⟨by rw [←gI];exact qI⟩;have cM:ak (aw w SJ g none):=⟨by rw [←gI];exact qK⟩;have cY:ak (Below w0.heap.size w0 SJ):=⟨by rw [←gI];exact qB⟩;clear aQ HK HB gI;have aQ:=cR;have HK:=cM;have HB:=cY;clear cR cM cY));obtain⟨acD,acE,vr,Xe,acF⟩:=aQ.out;have Nu:=aK vr;have Nv:=aM vr;have Nw:=aN vr;have Nx:=ai vr 1;have Ny:=ai vr 2;clear vr Xe)|(refine gL 138 70 Tryz.func138 #[.pointer (some ⟨g,0,none⟩)] ?_;(with_reducible refine(aT.calls sF g ah (wrap64 (sG+mT)) sH SG SI w0 _ ?side1 ?side2 A39.out).mono ?_);(case side1=>exact qI);(case side2=>exact qB);rintro e w42 ⟨rfl,hi,hb,hk⟩;refine⟨_,rfl,?_⟩;have cR:=am (aw.trans qK hk (.inl rfl));have cM:=am (hb);have cY:=am (hi);clear HK;clear HB;clear aQ;have HK:=cR;have HB:=cM;have aQ:=cY;clear cR cM cY;(try clear hb);(try clear dc);(try clear hk);(try clear hi)))
                  go_meet
                  case rel=>exact⟨_,(SG),(SI),H',⟨by have:=yC.out;have:=Cw.out;have:=Jd.out;have:=mr.out;have:=CI.out;have:=Nt.out;have:=Xb.out;first|omega|exact Nat.le_refl _⟩,⟨qI⟩,⟨qK⟩,⟨qB⟩⟩
                 ·replace SF:=Bool.eq_false_iff.mpr SF
                  subst SF
                  have H1:(ab.j7 sF ah sG sH)=some (r1,r2,r3):=by rw [if_neg (show ¬(false=true) by decide)] at H;exact H
                  clear H
                  have H:=H1
                  clear H1
                  have H':=am H
                  clear H
                  go_wp2_with (first|(refine gL 104 59 Tryz.func104 #[.pointer (some ⟨g,0,none⟩),.int .i64 mT] ?_;(with_reducible refine mK (aa.calls g ah su sx mT CK sG sH w0 _ qI qB A36.out) ?_);clear aQ HB HK;intro w43 aQ HB HK;refine⟨_,rfl,?_⟩)|(refine gL 137 60 Tryz.func137 #[.int .u8 CK] ?_;(with_reducible refine(aW.calls CK false _ A37.out).mono ?_);rintro e w' ⟨rfl,⟨nd,rfl⟩⟩;refine⟨_,rfl,?_⟩))
                  go_meet
                  case rel=>exact⟨_,(sG),(sH),H',⟨by have:=yC.out;have:=Cw.out;have:=Jd.out;have:=mr.out;have:=CI.out;have:=Nt.out;have:=Xb.out;first|omega|exact Nat.le_refl _⟩,⟨qI⟩,⟨qK⟩,⟨qB⟩⟩
            ·replace qq:=Bool.eq_false_iff.mpr qq
             subst qq
             have H1:(ab.j7 CJ ah wZ xa)=some (r1,r2,r3):=by rw [if_neg (show ¬(false=true) by decide)] at H;exact H
             clear H
             have H:=H1
             clear H1
             have H':=am H
             clear H
             go_wp2
             go_meet
             case rel=>exact⟨_,(wZ),(xa),H',⟨by have:=yC.out;have:=Cw.out;have:=Jd.out;have:=mr.out;have:=CI.out;first|omega|exact Nat.le_refl _⟩,⟨qI⟩,⟨qK⟩,⟨qB⟩⟩
           case rest=>
            clear Sz
            try clear c1
            try clear c2
            try clear p2
            try clear c3
            try clear c5
            try clear df
            try clear iX
            try clear p6
            try clear c7
            try clear eZ
            try clear kJ
            try clear kr
            try clear jo
            try clear mH
            try clear pq
            try clear CH
            try clear pt
            try clear zu
            try clear qq
            try clear ru
            try clear mS
            try clear sy
            try clear I9
            try clear SF
            try clear lG
            try clear lH
            try clear lI
            try clear Nu
            try clear Nv
            try clear Nw
            try clear j9
            try clear kf
            try clear kg
            try clear lJ
            try clear lK
            try clear Nx
            try clear Ny
            try clear ki
            try clear kj
            try clear p2
            try clear p6
            obtain⟨kq,kO,kP,HA,agP,aQ,HK,HB⟩:=hcut
            cases kq with
            | zero=>exact absurd HA.out (by simp [ab.j7])
            | succ Gv=>
             have H:=HA.out
             clear HA
             simp only [ab.j7] at H
             replace H:=Option.bind_eq_some_iff.mp H
             obtain⟨⟨Xf,uA,uB⟩,Jg,H⟩:=H
             replace H:(if Xf=true then ((az.f Gv ah uA uB).bind fun qU=>(some ((⟨#[100,105,109,101,110,115,105,111,110]⟩:ByteArray),qU.1,qU.2))) else ((aa.f ah uA uB 0).bind fun iG=>(if iG.1=37 then (some ((⟨#[112,101,114,99,101,110,116,97,103,101]⟩:ByteArray),wrap64 (iG.2.1+1),iG.2.2)) else (some ((⟨#[110,117,109,98,101,114]⟩:ByteArray),iG.2.1,iG.2.2)))))=some (r1,r2,r3):=H
             have Xg:=am Jg
             clear Jg
             by_cases c45:Xf=true
             ·subst c45
              have H1:((az.f Gv ah uA uB).bind fun qU=>(some ((⟨#[100,105,109,101,110,115,105,111,110]⟩:ByteArray),qU.1,qU.2)))=some (r1,r2,r3):=by rw [if_pos rfl] at H;exact H
              clear H
              have H:=H1
              clear H1
              replace H:=Option.bind_eq_some_iff.mp H
              obtain⟨⟨Xh,Xi⟩,Xj,H⟩:=H
              replace H:(some ((⟨#[100,105,109,101,110,115,105,111,110]⟩:ByteArray),Xh,Xi))=some (r1,r2,r3):=H
              have A46:=am Xj
              clear Xj
              simp only [Option.some.injEq,Prod.mk.injEq] at H
              obtain⟨rfl,rfl,rfl⟩:=H
              go_wp2_with (first|(refine gL 113 73 Tryz.func113 #[.pointer (some ⟨g,0,none⟩),.int .i64 0] ?_;(with_reducible refine mK (aA.calls Gv g ah kO kP 0 true uA uB w0 _ qI qB Xg.out) ?_);clear aQ HB HK;intro w47 aQ HB HK;refine⟨_,rfl,?_⟩)|(refine gL 139 75 Tryz.func139 #[.pointer (some ⟨g,0,none⟩)] ?_;(with_reducible refine mK (az.calls Gv g ah uA uB Xh Xi w0 _ qI qB A46.out) ?_);clear aQ HB HK;intro w48 aQ HB HK;refine⟨_,rfl,?_⟩))
              go_ret
              exact⟨qG,qI,qB,qK⟩
             ·replace c45:=Bool.eq_false_iff.mpr c45
              subst c45
              have H1:((aa.f ah uA uB 0).bind fun iG=>(if iG.1=37 then (some ((⟨#[112,101,114,99,101,110,116,97,103,101]⟩:ByteArray),wrap64 (iG.2.1+1),iG.2.2)) else (some ((⟨#[110,117,109,98,101,114]⟩:ByteArray),iG.2.1,iG.2.2))))=some (r1,r2,r3):=by rw [if_neg (show ¬(false=true) by decide)] at H;exact H
              clear H
              have H:=H1
              clear H1
              replace H:=Option.bind_eq_some_iff.mp H
              obtain⟨⟨zv,Nz,NA⟩,Jh,H⟩:=H
              replace H:(if zv=37 then (some ((⟨#[112,101,114,99,101,110,116,97,103,101]⟩:ByteArray),wrap64 (Nz+1),NA)) else (some ((⟨#[110,117,109,98,101,114]⟩:ByteArray),Nz,NA)))=some (r1,r2,r3):=H
              have A49:=am Jh
              clear Jh
              by_cases SK:zv=37
              ·rw [if_pos SK] at H
               have Xk:(zv==37)=true:=beq_iff_eq.mpr SK
               have Xl:(zv !=37)=false:=bne_eq_false_iff_eq.mpr SK
               clear SK
               simp only [Option.some.injEq,Prod.mk.injEq] at H
               obtain⟨rfl,rfl,rfl⟩:=H
               go_wp2_with (first|(refine gL 113 73 Tryz.func113 #[.pointer (some ⟨g,0,none⟩),.int .i64 0] ?_;(with_reducible refine mK (aA.calls Gv g ah kO kP 0 false uA uB w0 _ qI qB Xg.out) ?_);clear aQ HB HK;intro w51 aQ HB HK;refine⟨_,rfl,?_⟩)|(refine gL 104 78 Tryz.func104 #[.pointer (some ⟨g,0,none⟩),.int .i64 0] ?_;(with_reducible refine mK (aa.calls g ah uA uB 0 zv Nz NA w0 _ qI qB A49.out) ?_);clear aQ HB HK;intro w52 aQ HB HK;refine⟨_,rfl,?_⟩;obtain⟨acG,acH,vt,Xm,acI⟩:=aQ.out;have acJ:=aK vt;have acK:=aM vt;have acL:=aN vt;have acM:=ai vt 1;have acN:=ai vt 2;clear vt Xm))
               go_ret
               exact⟨qG,qI,qB,qK⟩
              ·rw [if_neg SK] at H
               have Xk:(zv==37)=false:=beq_eq_false_iff_ne.mpr SK
               have Xl:(zv !=37)=true:=bne_iff_ne.mpr SK
               simp only [Option.some.injEq,Prod.mk.injEq] at H
               obtain⟨rfl,rfl,rfl⟩:=H
               go_wp2_with (first|(refine gL 113 73 Tryz.func113 #[.pointer (some ⟨g,0,none⟩),.int .i64 0] ?_;(with_reducible refine mK (aA.calls Gv g ah kO kP 0 false uA uB w0 _ qI qB Xg.out) ?_);clear aQ HB HK;intro w54 aQ HB HK;refine⟨_,rfl,?_⟩)|(refine gL 104 78 Tryz.func104 #[.pointer (some ⟨g,0,none⟩),.int .i64 0] ?_;(with_reducible refine mK (aa.calls g ah uA uB 0 zv Nz NA w0 _ qI qB A49.out) ?_);clear aQ HB HK;intro w55 aQ HB HK;refine⟨_,rfl,?_⟩))
               go_ret
               exact⟨qG,qI,qB,qK⟩
end Go.Proofs.YtlglijnaeaonpaaGreatDoor.bG
end
