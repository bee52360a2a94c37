/- FnRules: a part of the proof (Rh); in it lines that print.sh printed, those that are used. -/
import Derived.Test.YtlglijnaeaonpaaGreatDoorRa
import Derived.Test.YtlglijnaeaonpaaGreatDoorRf
import Derived.Test.YtlglijnaeaonpaaGreatDoorRb
import Derived.Test.YtlglijnaeaonpaaGreatDoorRd
import Derived.Test.YtlglijnaeaonpaaGreatDoorRg
import Derived.Lib.SlBytesConst
section
set_option maxHeartbeats 8000000
set_option maxRecDepth 100000
set_option linter.unusedVariables false
set_option linter.unusedSimpArgs false
namespace Go.Proofs.YtlglijnaeaonpaaGreatDoor.bG
open Go.RowKit Go.Proofs.YtlglijnaeaonpaaGreatDoorW.aC Go.Proofs.YtlglijnaeaonpaaGreatDoorW.dQ Go.Proofs.YtlglijnaeaonpaaGreatDoorW.eR
attribute [local go_sem] fZ ga iu iv fk fl gd gg
theorem vF (k:Nat) (a1:Int) (r:Bool) (W:World) (h:cD.f k [40,41,44,58,59,91,93,123,125] a1=some r):
  Calls Tryz.prog 53 #[.slice (some ⟨W.heap.size,0,none⟩) 9 9,.int .u8 a1] (W.alloc (.cells #[.int .u8 40,.int .u8 41,.int .u8 44,.int .u8 58,.int .u8 59,.int .u8 91,.int .u8 93,.int .u8 123,.int .u8 125] 5 (9,10))) fun e w' =>e= .returned (.bool r)∧cS (W.alloc (.cells #[.int .u8 40,.int .u8 41,.int .u8 44,.int .u8 58,.int .u8 59,.int .u8 91,.int .u8 93,.int .u8 123,.int .u8 125] 5 (9,10))) w':=by
 refine cD.calls k _ 9 [40,41,44,58,59,91,93,123,125] a1 r _ ?_ (Nat.le_refl _) h
 refine⟨rfl,by decide,fun _=>⟨_,rfl,fun j p hj=>⟨[.int .u8 p],rfl,rfl,fun i u hi=> ?_⟩⟩⟩
 obtain rfl:i=0:=by
  cases i with
  | zero=>rfl
  | succ i=>simp at hi
 simp only [List.getElem?_cons_zero,Option.some.injEq] at hi
 subst hi
 rw [show (Kd.int .u8).sz=1 from rfl,add_plain,Nat.mul_one,Nat.add_zero]
 unfold World.cell?
 rw [heap_alloc_new W _]
 show (_:Array Value)[j]? =_
 have eh:j<9:=(List.getElem?_eq_some_iff.1 hj).1
 clear h
 rcases j with _|_|_|_|_|_|_|_|_|j
 all_goals first|(simp at hj;subst hj;rfl)|omega
mutual
def ag.j0:Nat→Int→Int→Bool→List Int→Int→Bool→Option (ByteArray×Int×Bool)
 | 0,_,_,_,_,_,_=>none
 | k+1,x1,x2,x7,x1000,x1001,x1002=>if x7=true then ((az.f k x1000 (wrap64 (x1001+1)) x1002).bind fun zK=>(some ((⟨#[104,97,115,104]⟩:ByteArray),zK.1,zK.2))) else (if x1=64 then ((aA.f k x1000 x1001 x1002 1).bind fun sP=>(ag.j1 k x1 x2 sP.1 x1000 sP.2.1 sP.2.2)) else (ag.j1 k x1 x2 false x1000 x1001 x1002))
def ag.j1:Nat→Int→Int→Bool→List Int→Int→Bool→Option (ByteArray×Int×Bool)
 | 0,_,_,_,_,_,_=>none
 | k+1,x1,x2,x27,x1000,x1001,x1002=>if x27=true then ((az.f k x1000 (wrap64 (x1001+1)) x1002).bind fun zL=>(some ((⟨#[97,116]⟩:ByteArray),zL.1,zL.2))) else (if x1=124 then (ag.j2 k x1 x2 (x2==124) x1000 x1001 x1002) else (ag.j2 k x1 x2 false x1000 x1001 x1002))
def ag.j2:Nat→Int→Int→Bool→List Int→Int→Bool→Option (ByteArray×Int×Bool)
 | 0,_,_,_,_,_,_=>none
 | k+1,x1,x2,x43,x1000,x1001,x1002=>if x43=true then ((bU.f x1000 x1001 x1002 (⟨#[124,124]⟩:ByteArray)).bind fun sQ=>(some (sQ.1,sQ.2.1,sQ.2.2))) else (if x2=61 then (if x1=126 then (ag.j3 k x1 x2 true x1000 x1001 x1002) else (if x1=124 then (ag.j3 k x1 x2 true x1000 x1001 x1002) else (if x1=94 then (ag.j3 k x1 x2 true x1000 x1001 x1002) else (if x1=36 then (ag.j3 k x1 x2 true x1000 x1001 x1002) else (ag.j3 k x1 x2 (x1==42) x1000 x1001 x1002))))) else (ag.j3 k x1 x2 false x1000 x1001 x1002))
def ag.j3:Nat→Int→Int→Bool→List Int→Int→Bool→Option (ByteArray×Int×Bool)
 | 0,_,_,_,_,_,_=>none
 | k+1,x1,x2,x52,x1000,x1001,x1002=>if x52=true then ((bU.f x1000 x1001 x1002 (strOfNums (([x1,61]:List Int)))).bind fun m6=>(some (m6.1,m6.2.1,m6.2.2))) else (if x1=60 then (if x2=33 then ((aa.f x1000 x1001 x1002 2).bind fun m7=>(if m7.1=45 then ((aa.f x1000 m7.2.1 m7.2.2 3).bind fun m8=>(ag.j4 k x1 (m8.1==45) x1000 m8.2.1 m8.2.2)) else (ag.j4 k x1 false x1000 m7.2.1 m7.2.2))) else (ag.j4 k x1 false x1000 x1001 x1002)) else (ag.j4 k x1 false x1000 x1001 x1002))
def ag.j4:Nat→Int→Bool→List Int→Int→Bool→Option (ByteArray×Int×Bool)
 | 0,_,_,_,_,_=>none
 | k+1,x1,x80,x1000,x1001,x1002=>if x80=true then (some ((⟨#[60,33,45,45]⟩:ByteArray),wrap64 (x1001+4),x1002)) else ((cD.f k (([40,41,44,58,59,91,93,123,125]:List Int)) x1).bind fun zM=>(if zM=true then ((bF.f x1000 x1001 x1002 (strOfNums (([x1]:List Int)))).bind fun fG=>(some (fG.1,fG.2.1,fG.2.2))) else ((bF.f x1000 x1001 x1002 (⟨#[100,101,108,105,109]⟩:ByteArray)).bind fun gM=>(some (gM.1,gM.2.1,gM.2.2)))))
end
def ag.f (k:Nat) (ah:List Int) (bg:Int) (bq:Bool) (a1:Int) (a2:Int):Option (ByteArray×Int×Bool):=if a1=35 then ((bK.f a2).bind fun GC=>(if GC=true then (ag.j0 k a1 a2 true ah bg bq) else ((ay.f ah bg bq 1).bind fun jA=>(ag.j0 k a1 a2 jA.1 ah jA.2.1 jA.2.2)))) else (ag.j0 k a1 a2 false ah bg bq)
theorem ag.calls (k:Nat) (g:Nat) (ah:List Int) (bg:Int) (bq:Bool) (a1:Int) (a2:Int) (r1:ByteArray) (r2:Int) (r3:Bool) (w0 w:World) (hI:aD w0 w g ah bg bq) (hB:Below w0.heap.size w0 w) (h:ag.f k ah bg bq a1 a2=some (r1,r2,r3)):
  Calls Tryz.prog 115 #[.pointer (some ⟨g,0,none⟩),.int .u8 a1,.int .u8 a2] w fun e w' =>e= .returned (.string r1)∧aD w0 w' g ah r2 r3∧Below w0.heap.size w0 w' ∧aw w w' g none:=by
 have aQ:=am hI
 have HK:=am (aw.refl w g none)
 have HL:=am hB.size
 clear hI
 have yX:=am hB.size
 have HB:=am hB
 clear hB
 have H:(if a1=35 then ((bK.f a2).bind fun GC=>(if GC=true then (ag.j0 k a1 a2 true ah bg bq) else ((ay.f ah bg bq 1).bind fun jA=>(ag.j0 k a1 a2 jA.1 ah jA.2.1 jA.2.2)))) else (ag.j0 k a1 a2 false ah bg bq))=some (r1,r2,r3):=h
 clear h
 have Sh:=am H
 clear H
 go_enter Tryz.func115,Tryz.ntmps115
 go_upto_region 1 with (fail)
 go_cut [7] (fun v7 wc=>∃(kq:Nat) (NT:Bool) (iY:Int) (iZ:Bool),v7= .bool NT∧ak (ag.j0 kq a1 a2 NT ah iY iZ=some (r1,r2,r3))∧ak (kq≤k)∧ak (aD w0 wc g ah iY iZ)∧ak (aw w wc g none)∧ak (Below w0.heap.size w0 wc))
 case first=>
  have H:=Sh.out
  clear Sh
  by_cases c5:a1=35
  ·rw [if_pos c5] at H
   have df:(a1==35)=true:=beq_iff_eq.mpr c5
   have iX:(a1 !=35)=false:=bne_eq_false_iff_eq.mpr c5
   clear c5
   (first|rw [df]|(simp only [cB,cJ];rw [df])|skip)
   replace H:=Option.bind_eq_some_iff.mp H
   obtain⟨GC,My,H⟩:=H
   replace H:(if GC=true then (ag.j0 k a1 a2 true ah bg bq) else ((ay.f ah bg bq 1).bind fun jA=>(ag.j0 k a1 a2 jA.1 ah jA.2.1 jA.2.2)))=some (r1,r2,r3):=H
   have A6:=am My
   clear My
   by_cases c7:GC=true
   ·subst c7
    have H1:(ag.j0 k a1 a2 true ah bg bq)=some (r1,r2,r3):=by rw [if_pos rfl] at H;exact H
    clear H
    have H:=H1
    clear H1
    have H':=am H
    clear H
    go_wp2_with (first|(go_at_call 142;(with_reducible refine(bK.calls a2 true _ A6.out).mono ?_);rintro e w' ⟨rfl,⟨nd,rfl⟩⟩))
    go_meet
    case rel=>exact⟨_,(true),(bg),(bq),qF,H',⟨by first|omega|exact Nat.le_refl _⟩,⟨qI⟩,⟨qK⟩,⟨qB⟩⟩
   ·replace c7:=Bool.eq_false_iff.mpr c7
    subst c7
    have H1:((ay.f ah bg bq 1).bind fun jA=>(ag.j0 k a1 a2 jA.1 ah jA.2.1 jA.2.2))=some (r1,r2,r3):=by rw [if_neg (show ¬(false=true) by decide)] at H;exact H
    clear H
    have H:=H1
    clear H1
    replace H:=Option.bind_eq_some_iff.mp H
    obtain⟨⟨To,Tp,Tq⟩,Ed,H⟩:=H
    replace H:(ag.j0 k a1 a2 To ah Tp Tq)=some (r1,r2,r3):=H
    have A8:=am Ed
    clear Ed
    have H':=am H
    clear H
    go_wp2_with (first|(go_at_call 142;(with_reducible refine(bK.calls a2 false _ A6.out).mono ?_);rintro e w' ⟨rfl,⟨nd,rfl⟩⟩)|(go_at_call 135;(with_reducible refine mK (ay.calls g ah bg bq 1 To Tp Tq w0 _ qI qB A8.out) ?_);clear aQ HB HK;intro w9 aQ HB HK))
    go_meet
    case rel=>exact⟨_,(To),(Tp),(Tq),qF,H',⟨by first|omega|exact Nat.le_refl _⟩,⟨qI⟩,⟨qK⟩,⟨qB⟩⟩
  ·rw [if_neg c5] at H
   have df:(a1==35)=false:=beq_eq_false_iff_ne.mpr c5
   have iX:(a1 !=35)=true:=bne_iff_ne.mpr c5
   (first|rw [df]|(simp only [cB,cJ];rw [df])|skip)
   have H':=am H
   clear H
   go_wp2
   go_meet
   case rel=>exact⟨_,(false),(bg),(bq),qF,H',⟨by first|omega|exact Nat.le_refl _⟩,⟨qI⟩,⟨qK⟩,⟨qB⟩⟩
 case rest=>
  clear Sh
  try clear c1
  try clear p2
  try clear c5
  try clear df
  try clear iX
  try clear c7
  obtain⟨kq,NT,iY,iZ,rfl,HA,Cu,aQ,HK,HB⟩:=hcut
  cases kq with
  | zero=>exact absurd HA.out (by simp [ag.j0])
  | succ MZ=>
   have H:=HA.out
   clear HA
   simp only [ag.j0] at H
   by_cases eZ:NT=true
   ·subst eZ
    have H1:((az.f MZ ah (wrap64 (iY+1)) iZ).bind fun zK=>(some ((⟨#[104,97,115,104]⟩:ByteArray),zK.1,zK.2)))=some (r1,r2,r3):=by rw [if_pos rfl] at H;exact H
    clear H
    have H:=H1
    clear H1
    replace H:=Option.bind_eq_some_iff.mp H
    obtain⟨⟨X1,X2⟩,sl,H⟩:=H
    replace H:(some ((⟨#[104,97,115,104]⟩:ByteArray),X1,X2))=some (r1,r2,r3):=H
    have Mv:=am sl
    clear sl
    simp only [Option.some.injEq,Prod.mk.injEq] at H
    obtain⟨rfl,rfl,rfl⟩:=H
    obtain⟨NQ,NR,kT,Jr,NS⟩:=aQ.out
    have nO:=aK kT
    have nP:=aM kT
    have nQ:=aN kT
    have nR:=ai kT 1
    have nS:=ai kT 2
    clear kT Jr
    go_wp2_with (first|(refine gL 139 26 Tryz.func139 #[.pointer (some ⟨g,0,none⟩)] ?_;(with_reducible refine(az.calls MZ g ah (wrap64 (iY+1)) iZ X1 X2 w0 _ ?side1 ?side2 Mv.out).mono ?_);(case side1=>exact qI);(case side2=>exact qB);rintro e Qh ⟨rfl,hi,hb,hk⟩;refine⟨_,rfl,?_⟩;have cR:=am (aw.trans qK hk (.inl rfl));have cM:=am (hb);have cY:=am (hi);clear HK;clear HB;clear aQ;have HK:=cR;have HB:=cM;have aQ:=cY;clear cR cM cY;(try clear hb);(try clear dc);(try clear hk);(try clear hi)))
    go_ret
    exact⟨qG,qI,qB,qK⟩
   ·replace eZ:=Bool.eq_false_iff.mpr eZ
    subst eZ
    have H1:(if a1=64 then ((aA.f MZ ah iY iZ 1).bind fun sP=>(ag.j1 MZ a1 a2 sP.1 ah sP.2.1 sP.2.2)) else (ag.j1 MZ a1 a2 false ah iY iZ))=some (r1,r2,r3):=by rw [if_neg (show ¬(false=true) by decide)] at H;exact H
    clear H
    have H:=H1
    clear H1
    have Tr:=am H
    clear H
    go_upto_region 5 with (fail)
    go_cut [27] (fun v27 wc=>∃(kq:Nat) (xn:Bool) (bS:Int) (bT:Bool),v27= .bool xn∧ak (ag.j1 kq a1 a2 xn ah bS bT=some (r1,r2,r3))∧ak (kq≤MZ)∧ak (aD w0 wc g ah bS bT)∧ak (aw w wc g none)∧ak (Below w0.heap.size w0 wc))
    case first=>
     have H:=Tr.out
     clear Tr
     by_cases ox:a1=64
     ·rw [if_pos ox] at H
      have m9:(a1==64)=true:=beq_iff_eq.mpr ox
      have sR:(a1 !=64)=false:=bne_eq_false_iff_eq.mpr ox
      clear ox
      (first|rw [m9]|(simp only [cB,cJ];rw [m9])|skip)
      replace H:=Option.bind_eq_some_iff.mp H
      obtain⟨⟨Ts,Tt,Tu⟩,Jw,H⟩:=H
      replace H:(ag.j1 MZ a1 a2 Ts ah Tt Tu)=some (r1,r2,r3):=H
      have A16:=am Jw
      clear Jw
      have H':=am H
      clear H
      go_wp2_with (first|(go_at_call 113;(with_reducible refine mK (aA.calls MZ g ah iY iZ 1 Ts Tt Tu w0 _ qI qB A16.out) ?_);clear aQ HB HK;intro Eo aQ HB HK))
      go_meet
      case rel=>exact⟨_,(Ts),(Tt),(Tu),qF,H',⟨by have:=Cu.out;first|omega|exact Nat.le_refl _⟩,⟨qI⟩,⟨qK⟩,⟨qB⟩⟩
     ·rw [if_neg ox] at H
      have m9:(a1==64)=false:=beq_eq_false_iff_ne.mpr ox
      have sR:(a1 !=64)=true:=bne_iff_ne.mpr ox
      (first|rw [m9]|(simp only [cB,cJ];rw [m9])|skip)
      have H':=am H
      clear H
      go_wp2
      go_meet
      case rel=>exact⟨_,(false),(iY),(iZ),qF,H',⟨by have:=Cu.out;first|omega|exact Nat.le_refl _⟩,⟨qI⟩,⟨qK⟩,⟨qB⟩⟩
    case rest=>
     clear Tr
     try clear c1
     try clear p2
     try clear c5
     try clear df
     try clear iX
     try clear p6
     try clear c7
     try clear eZ
     try clear kJ
     try clear kr
     try clear ox
     try clear m9
     try clear sR
     try clear nO
     try clear nP
     try clear nQ
     try clear nR
     try clear nS
     try clear p2
     obtain⟨kq,xn,bS,bT,rfl,HA,ry,aQ,HK,HB⟩:=hcut
     cases kq with
     | zero=>exact absurd HA.out (by simp [ag.j1])
     | succ Jy=>
      have H:=HA.out
      clear HA
      simp only [ag.j1] at H
      by_cases uJ:xn=true
      ·subst uJ
       have H1:((az.f Jy ah (wrap64 (bS+1)) bT).bind fun zL=>(some ((⟨#[97,116]⟩:ByteArray),zL.1,zL.2)))=some (r1,r2,r3):=by rw [if_pos rfl] at H;exact H
       clear H
       have H:=H1
       clear H1
       replace H:=Option.bind_eq_some_iff.mp H
       obtain⟨⟨X3,X4⟩,Jn,H⟩:=H
       replace H:(some ((⟨#[97,116]⟩:ByteArray),X3,X4))=some (r1,r2,r3):=H
       have SM:=am Jn
       clear Jn
       simp only [Option.some.injEq,Prod.mk.injEq] at H
       obtain⟨rfl,rfl,rfl⟩:=H
       obtain⟨ads,adt,vG,X5,adu⟩:=aQ.out
       have xo:=aK vG
       have xp:=aM vG
       have xq:=aN vG
       have xr:=ai vG 1
       have xt:=ai vG 2
       clear vG X5
       go_wp2_with (first|(refine gL 139 42 Tryz.func139 #[.pointer (some ⟨g,0,none⟩)] ?_;(with_reducible refine(az.calls Jy g ah (wrap64 (bS+1)) bT X3 X4 w0 _ ?side1 ?side2 SM.out).mono ?_);(case side1=>exact qI);(case side2=>exact qB);rintro e w21 ⟨rfl,hi,hb,hk⟩;refine⟨_,rfl,?_⟩;have cR:=am (aw.trans qK hk (.inl rfl));have cM:=am (hb);have cY:=am (hi);clear HK;clear HB;clear aQ;have HK:=cR;have HB:=cM;have aQ:=cY;clear cR cM cY;(try clear hb);(try clear dc);(try clear hk);(try clear hi)))
       go_ret
       exact⟨qG,qI,qB,qK⟩
      ·replace uJ:=Bool.eq_false_iff.mpr uJ
       subst uJ
       have H1:(if a1=124 then (ag.j2 Jy a1 a2 (a2==124) ah bS bT) else (ag.j2 Jy a1 a2 false ah bS bT))=some (r1,r2,r3):=by rw [if_neg (show ¬(false=true) by decide)] at H;exact H
       clear H
       have H:=H1
       clear H1
       have Tv:=am H
       clear H
       go_upto_region 9 with (fail)
       go_cut [43] (fun v43 wc=>∃(kq:Nat) (xu:Bool),v43= .bool xu∧ak (ag.j2 kq a1 a2 xu ah bS bT=some (r1,r2,r3))∧ak (kq≤Jy)∧ak (aD w0 wc g ah bS bT)∧ak (aw w wc g none)∧ak (Below w0.heap.size w0 wc))
       case first=>
        have H:=Tv.out
        clear Tv
        by_cases CT:a1=124
        ·rw [if_pos CT] at H
         have pB:(a1==124)=true:=beq_iff_eq.mpr CT
         have Fc:(a1 !=124)=false:=bne_eq_false_iff_eq.mpr CT
         clear CT
         (first|rw [pB]|(simp only [cB,cJ];rw [pB])|skip)
         have H':=am H
         clear H
         go_wp2
         go_meet
         case rel=>exact⟨_,((a2==124)),qF,H',⟨by have:=Cu.out;have:=ry.out;first|omega|exact Nat.le_refl _⟩,⟨qI⟩,⟨qK⟩,⟨qB⟩⟩
        ·rw [if_neg CT] at H
         have pB:(a1==124)=false:=beq_eq_false_iff_ne.mpr CT
         have Fc:(a1 !=124)=true:=bne_iff_ne.mpr CT
         (first|rw [pB]|(simp only [cB,cJ];rw [pB])|skip)
         have H':=am H
         clear H
         go_wp2
         go_meet
         case rel=>exact⟨_,(false),qF,H',⟨by have:=Cu.out;have:=ry.out;first|omega|exact Nat.le_refl _⟩,⟨qI⟩,⟨qK⟩,⟨qB⟩⟩
       case rest=>
        clear Tv
        try clear c1
        try clear c2
        try clear p2
        try clear c5
        try clear df
        try clear iX
        try clear p6
        try clear c7
        try clear eZ
        try clear kJ
        try clear kr
        try clear ox
        try clear m9
        try clear sR
        try clear uJ
        try clear CT
        try clear pB
        try clear Fc
        try clear nO
        try clear nP
        try clear nQ
        try clear xo
        try clear xp
        try clear xq
        try clear nR
        try clear nS
        try clear xr
        try clear xt
        try clear p2
        try clear p6
        obtain⟨kq,xu,rfl,HA,uK,aQ,HK,HB⟩:=hcut
        cases kq with
        | zero=>exact absurd HA.out (by simp [ag.j2])
        | succ CU=>
         have H:=HA.out
         clear HA
         simp only [ag.j2] at H
         by_cases mJ:xu=true
         ·subst mJ
          have H1:((bU.f ah bS bT (⟨#[124,124]⟩:ByteArray)).bind fun sQ=>(some (sQ.1,sQ.2.1,sQ.2.2)))=some (r1,r2,r3):=by rw [if_pos rfl] at H;exact H
          clear H
          have H:=H1
          clear H1
          replace H:=Option.bind_eq_some_iff.mp H
          obtain⟨⟨X6,X7,X8⟩,X9,H⟩:=H
          replace H:(some (X6,X7,X8))=some (r1,r2,r3):=H
          have A25:=am X9
          clear X9
          simp only [Option.some.injEq,Prod.mk.injEq] at H
          obtain⟨rfl,rfl,rfl⟩:=H
          go_wp2_with (first|(refine gL 143 51 Tryz.func143 #[.pointer (some ⟨g,0,none⟩),.string (⟨#[124,124]⟩:ByteArray)] ?_;(with_reducible refine mK (bU.calls g ah bS bT (⟨#[124,124]⟩:ByteArray) X6 X7 X8 w0 _ qI qB A25.out) ?_);clear aQ HB HK;intro w26 aQ HB HK;refine⟨_,rfl,?_⟩))
          go_ret
          exact⟨qG,qI,qB,qK⟩
         ·replace mJ:=Bool.eq_false_iff.mpr mJ
          subst mJ
          have H1:(if a2=61 then (if a1=126 then (ag.j3 CU a1 a2 true ah bS bT) else (if a1=124 then (ag.j3 CU a1 a2 true ah bS bT) else (if a1=94 then (ag.j3 CU a1 a2 true ah bS bT) else (if a1=36 then (ag.j3 CU a1 a2 true ah bS bT) else (ag.j3 CU a1 a2 (a1==42) ah bS bT))))) else (ag.j3 CU a1 a2 false ah bS bT))=some (r1,r2,r3):=by rw [if_neg (show ¬(false=true) by decide)] at H;exact H
          clear H
          have H:=H1
          clear H1
          have Tw:=am H
          clear H
          go_upto_region 11 with (fail)
          go_cut [52] (fun v52 wc=>∃(kq:Nat) (xv:Bool),v52= .bool xv∧ak (ag.j3 kq a1 a2 xv ah bS bT=some (r1,r2,r3))∧ak (kq≤CU)∧ak (aD w0 wc g ah bS bT)∧ak (aw w wc g none)∧ak (Below w0.heap.size w0 wc))
          case first=>
           have H:=Tw.out
           clear Tw
           by_cases nE:a2=61
           ·rw [if_pos nE] at H
            have iU:(a2==61)=true:=beq_iff_eq.mpr nE
            have mh:(a2 !=61)=false:=bne_eq_false_iff_eq.mpr nE
            clear nE
            (first|rw [iU]|(simp only [cB,cJ];rw [iU])|skip)
            by_cases qq:a1=126
            ·rw [if_pos qq] at H
             have Jz:(a1==126)=true:=beq_iff_eq.mpr qq
             have JA:(a1 !=126)=false:=bne_eq_false_iff_eq.mpr qq
             clear qq
             have H':=am H
             clear H
             go_wp2
             go_meet
             case rel=>exact⟨_,(true),qF,H',⟨by have:=Cu.out;have:=ry.out;have:=uK.out;first|omega|exact Nat.le_refl _⟩,⟨qI⟩,⟨qK⟩,⟨qB⟩⟩
            ·rw [if_neg qq] at H
             have Jz:(a1==126)=false:=beq_eq_false_iff_ne.mpr qq
             have JA:(a1 !=126)=true:=bne_iff_ne.mpr qq
             by_cases Mz:a1=124
             ·rw [if_pos Mz] at H
              have JB:(a1==124)=true:=beq_iff_eq.mpr Mz
              have JC:(a1 !=124)=false:=bne_eq_false_iff_eq.mpr Mz
              clear Mz
              have H':=am H
              clear H
              go_wp2
              go_meet
              case rel=>exact⟨_,(true),qF,H',⟨by have:=Cu.out;have:=ry.out;have:=uK.out;first|omega|exact Nat.le_refl _⟩,⟨qI⟩,⟨qK⟩,⟨qB⟩⟩
             ·rw [if_neg Mz] at H
              have JB:(a1==124)=false:=beq_eq_false_iff_ne.mpr Mz
              have JC:(a1 !=124)=true:=bne_iff_ne.mpr Mz
              by_cases uh:a1=94
              ·rw [if_pos uh] at H
               have ow:(a1==94)=true:=beq_iff_eq.mpr uh
               have vk:(a1 !=94)=false:=bne_eq_false_iff_eq.mpr uh
               clear uh
               have H':=am H
               clear H
               go_wp2
               go_meet
               case rel=>exact⟨_,(true),qF,H',⟨by have:=Cu.out;have:=ry.out;have:=uK.out;first|omega|exact Nat.le_refl _⟩,⟨qI⟩,⟨qK⟩,⟨qB⟩⟩
              ·rw [if_neg uh] at H
               have ow:(a1==94)=false:=beq_eq_false_iff_ne.mpr uh
               have vk:(a1 !=94)=true:=bne_iff_ne.mpr uh
               by_cases vC:a1=36
               ·rw [if_pos vC] at H
                have oy:(a1==36)=true:=beq_iff_eq.mpr vC
                have vD:(a1 !=36)=false:=bne_eq_false_iff_eq.mpr vC
                clear vC
                have H':=am H
                clear H
                go_wp2
                go_meet
                case rel=>exact⟨_,(true),qF,H',⟨by have:=Cu.out;have:=ry.out;have:=uK.out;first|omega|exact Nat.le_refl _⟩,⟨qI⟩,⟨qK⟩,⟨qB⟩⟩
               ·rw [if_neg vC] at H
                have oy:(a1==36)=false:=beq_eq_false_iff_ne.mpr vC
                have vD:(a1 !=36)=true:=bne_iff_ne.mpr vC
                have H':=am H
                clear H
                go_wp2
                go_meet
                case rel=>exact⟨_,((a1==42)),qF,H',⟨by have:=Cu.out;have:=ry.out;have:=uK.out;first|omega|exact Nat.le_refl _⟩,⟨qI⟩,⟨qK⟩,⟨qB⟩⟩
           ·rw [if_neg nE] at H
            have iU:(a2==61)=false:=beq_eq_false_iff_ne.mpr nE
            have mh:(a2 !=61)=true:=bne_iff_ne.mpr nE
            (first|rw [iU]|(simp only [cB,cJ];rw [iU])|skip)
            have H':=am H
            clear H
            go_wp2
            go_meet
            case rel=>exact⟨_,(false),qF,H',⟨by have:=Cu.out;have:=ry.out;have:=uK.out;first|omega|exact Nat.le_refl _⟩,⟨qI⟩,⟨qK⟩,⟨qB⟩⟩
          case rest=>
           clear Tw
           try clear c1
           try clear c2
           try clear p2
           try clear c3
           try clear c5
           try clear df
           try clear iX
           try clear p6
           try clear c7
           try clear eZ
           try clear kJ
           try clear kr
           try clear mi
           try clear ox
           try clear m9
           try clear sR
           try clear uJ
           try clear CT
           try clear pB
           try clear Fc
           try clear mJ
           try clear nE
           try clear iU
           try clear mh
           try clear qq
           try clear Jz
           try clear JA
           try clear Mz
           try clear JB
           try clear JC
           try clear uh
           try clear ow
           try clear vk
           try clear vC
           try clear oy
           try clear vD
           try clear nO
           try clear nP
           try clear nQ
           try clear xo
           try clear xp
           try clear xq
           try clear nR
           try clear nS
           try clear xr
           try clear xt
           try clear p2
           try clear p6
           obtain⟨kq,xv,rfl,HA,NU,aQ,HK,HB⟩:=hcut
           cases kq with
           | zero=>exact absurd HA.out (by simp [ag.j3])
           | succ zN=>
            have H:=HA.out
            clear HA
            simp only [ag.j3] at H
            by_cases ru:xv=true
            ·subst ru
             have H1:((bU.f ah bS bT (strOfNums (([a1,61]:List Int)))).bind fun m6=>(some (m6.1,m6.2.1,m6.2.2)))=some (r1,r2,r3):=by rw [if_pos rfl] at H;exact H
             clear H
             have H:=H1
             clear H1
             obtain⟨Ty,zO⟩:∃y_:List Int,y_=(([a1,61]:List Int)):=⟨_,rfl⟩
             replace H:((bU.f ah bS bT (strOfNums Ty)).bind fun m6=>(some (m6.1,m6.2.1,m6.2.2)))=some (r1,r2,r3):=by first|(rw [zO];with_reducible exact H)|(have lN:=(Option.bind_some _ _).symm.trans H;rw [zO];with_reducible exact lN)|(have lN:=(Option.bind_some _ _).symm.trans H;with_reducible exact lN)|with_reducible exact H|(rw [zO];exact H)|exact H
             have Qx:=am zO
             clear zO
             replace H:=Option.bind_eq_some_iff.mp H
             obtain⟨⟨Ya,Yb,Yc⟩,zm,H⟩:=H
             replace H:(some (Ya,Yb,Yc))=some (r1,r2,r3):=H
             have VW:=am zm
             clear zm
             simp only [Option.some.injEq,Prod.mk.injEq] at H
             obtain⟨rfl,rfl,rfl⟩:=H
             go_wp2_with (first|((with_reducible refine gH (N:=77) rfl ?_);refine Kd.vd (Kd.int .u8) _ 5 ?hg (N:=77) ?hd (xs:=([a1,61]:List Int)) (inner:=[.int .u8 a1,.int .u8 61]) (ok:=fun _=>True) (okp:=fun _=>True) ?hr ?hp (fun _ hk=>hk) trivial (Below.refl _ _) (Nat.le_refl _) (by simp) ?_;(case hd=>rfl);(case hg=>rfl);(case hr=>first|(go_simp;done)|(go_simp;rfl));(case hp=>exact(eX.one (show Kd.M (Kd.int .u8) _ _ _ a1 [.int .u8 a1] from rfl) (eX.one (show Kd.M (Kd.int .u8) _ _ _ 61 [.int .u8 61] from rfl) (eX.none _ _))));intro agR w35 JD hb JE na;clear JE na;(first|rw [←Qx.out] at JD|(simp only [Int.reduceToNat] at JD;rw [←Qx.out] at JD));have cR:=am (Kd.lu JD (ve (w:=w) (g:=g) (row:=none) qK));have cM:=am (aD.below qI hb);have cY:=am (aw.trans qK (aw.fh hb g none) (.inl rfl));have sS:=am (fc qB hb);clear aQ;clear HK;clear HB;have Fe:=cR;have aQ:=cM;have HK:=cY;have HB:=sS;clear cR cM cY sS;clear hb JD;have Yd:=r9 (P:=Tryz.prog) Tryz.underlying24 Tryz.underlying5 Tryz.underlying9 (Kd.yR Fe.out))|(refine gL 143 79 Tryz.func143 #[.pointer (some ⟨g,0,none⟩),.string (strOfNums Ty)] ?_;(with_reducible refine(bU.calls g ah bS bT (strOfNums Ty) Ya Yb Yc w0 _ ?side1 ?side2 VW.out).mono ?_);(case side1=>exact qI);(case side2=>exact qB);rintro e w38 ⟨rfl,hi,hb,hk⟩;refine⟨_,rfl,?_⟩;have cR:=am (Kd.oJ (Kd.Ix (aD.apart (show aD w0 _ g ah bS bT from qI) (by(with_reducible repeat(first|apply Kd.cP|apply Kd.cQ|apply Kd.dA));exact Fe.out) (by decide)) hk (fun _ h=>h.2)) (fun _ h=>h.1));have cM:=am (aw.trans qK hk (.inl rfl));have cY:=am (hb);have sS:=am (hi);clear Fe;clear HK;clear HB;clear aQ;have Fe:=cR;have HK:=cM;have HB:=cY;have aQ:=sS;clear cR cM cY sS;(try clear hb);(try clear dc);(try clear hk);(try clear hi)))
             go_ret
             exact⟨qG,qI,qB,qK⟩
            ·replace ru:=Bool.eq_false_iff.mpr ru
             subst ru
             have H1:(if a1=60 then (if a2=33 then ((aa.f ah bS bT 2).bind fun m7=>(if m7.1=45 then ((aa.f ah m7.2.1 m7.2.2 3).bind fun m8=>(ag.j4 zN a1 (m8.1==45) ah m8.2.1 m8.2.2)) else (ag.j4 zN a1 false ah m7.2.1 m7.2.2))) else (ag.j4 zN a1 false ah bS bT)) else (ag.j4 zN a1 false ah bS bT))=some (r1,r2,r3):=by rw [if_neg (show ¬(false=true) by decide)] at H;exact H
             clear H
             have H:=H1
             clear H1
             have Tz:=am H
             clear H
             go_upto_region 13 with (fail)
             go_cut [80] (fun v80 wc=>∃(kq:Nat) (xw:Bool) (dH:Int) (dI:Bool),v80= .bool xw∧ak (ag.j4 kq a1 xw ah dH dI=some (r1,r2,r3))∧ak (kq≤zN)∧ak (aD w0 wc g ah dH dI)∧ak (aw w wc g none)∧ak (Below w0.heap.size w0 wc))
             case first=>
              have H:=Tz.out
              clear Tz
              by_cases NV:a1=60
              ·rw [if_pos NV] at H
               have vH:(a1==60)=true:=beq_iff_eq.mpr NV
               have Qy:(a1 !=60)=false:=bne_eq_false_iff_eq.mpr NV
               clear NV
               (first|rw [vH]|(simp only [cB,cJ];rw [vH])|skip)
               by_cases Fb:a2=33
               ·rw [if_pos Fb] at H
                have Qz:(a2==33)=true:=beq_iff_eq.mpr Fb
                have QA:(a2 !=33)=false:=bne_eq_false_iff_eq.mpr Fb
                clear Fb
                replace H:=Option.bind_eq_some_iff.mp H
                obtain⟨⟨zP,GD,GF⟩,Jx,H⟩:=H
                replace H:(if zP=45 then ((aa.f ah GD GF 3).bind fun m8=>(ag.j4 zN a1 (m8.1==45) ah m8.2.1 m8.2.2)) else (ag.j4 zN a1 false ah GD GF))=some (r1,r2,r3):=H
                have A42:=am Jx
                clear Jx
                by_cases zD:zP=45
                ·rw [if_pos zD] at H
                 have QB:(zP==45)=true:=beq_iff_eq.mpr zD
                 have QC:(zP !=45)=false:=bne_eq_false_iff_eq.mpr zD
                 clear zD
                 replace H:=Option.bind_eq_some_iff.mp H
                 obtain⟨⟨TA,TB,TC⟩,Jg,H⟩:=H
                 replace H:(ag.j4 zN a1 (TA==45) ah TB TC)=some (r1,r2,r3):=H
                 have Xg:=am Jg
                 clear Jg
                 have H':=am H
                 clear H
                 go_wp2_with (first|(go_at_call 104;(with_reducible refine mK (aa.calls g ah bS bT 2 zP GD GF w0 _ qI qB A42.out) ?_);clear aQ HB HK;intro w45 aQ HB HK)|(go_at_call 104;(with_reducible refine mK (aa.calls g ah GD GF 3 TA TB TC w0 _ qI qB Xg.out) ?_);clear aQ HB HK;intro w46 aQ HB HK))
                 go_meet
                 case rel=>exact⟨_,((TA==45)),(TB),(TC),qF,H',⟨by have:=Cu.out;have:=ry.out;have:=uK.out;have:=NU.out;first|omega|exact Nat.le_refl _⟩,⟨qI⟩,⟨qK⟩,⟨qB⟩⟩
                ·rw [if_neg zD] at H
                 have QB:(zP==45)=false:=beq_eq_false_iff_ne.mpr zD
                 have QC:(zP !=45)=true:=bne_iff_ne.mpr zD
                 have H':=am H
                 clear H
                 go_wp2_with (first|(go_at_call 104;(with_reducible refine mK (aa.calls g ah bS bT 2 zP GD GF w0 _ qI qB A42.out) ?_);clear aQ HB HK;intro w47 aQ HB HK))
                 go_meet
                 case rel=>exact⟨_,(false),(GD),(GF),qF,H',⟨by have:=Cu.out;have:=ry.out;have:=uK.out;have:=NU.out;first|omega|exact Nat.le_refl _⟩,⟨qI⟩,⟨qK⟩,⟨qB⟩⟩
               ·rw [if_neg Fb] at H
                have Qz:(a2==33)=false:=beq_eq_false_iff_ne.mpr Fb
                have QA:(a2 !=33)=true:=bne_iff_ne.mpr Fb
                have H':=am H
                clear H
                go_wp2
                go_meet
                case rel=>exact⟨_,(false),(bS),(bT),qF,H',⟨by have:=Cu.out;have:=ry.out;have:=uK.out;have:=NU.out;first|omega|exact Nat.le_refl _⟩,⟨qI⟩,⟨qK⟩,⟨qB⟩⟩
              ·rw [if_neg NV] at H
               have vH:(a1==60)=false:=beq_eq_false_iff_ne.mpr NV
               have Qy:(a1 !=60)=true:=bne_iff_ne.mpr NV
               (first|rw [vH]|(simp only [cB,cJ];rw [vH])|skip)
               have H':=am H
               clear H
               go_wp2
               go_meet
               case rel=>exact⟨_,(false),(bS),(bT),qF,H',⟨by have:=Cu.out;have:=ry.out;have:=uK.out;have:=NU.out;first|omega|exact Nat.le_refl _⟩,⟨qI⟩,⟨qK⟩,⟨qB⟩⟩
             case rest=>
              clear Tz
              try clear c1
              try clear c2
              try clear p2
              try clear c3
              try clear aeF
              try clear c4
              try clear c5
              try clear df
              try clear iX
              try clear p6
              try clear c7
              try clear eZ
              try clear kJ
              try clear kr
              try clear mi
              try clear ox
              try clear m9
              try clear sR
              try clear uJ
              try clear CT
              try clear pB
              try clear Fc
              try clear mJ
              try clear nE
              try clear iU
              try clear mh
              try clear qq
              try clear Jz
              try clear JA
              try clear Mz
              try clear JB
              try clear JC
              try clear uh
              try clear ow
              try clear vk
              try clear vC
              try clear oy
              try clear vD
              try clear ru
              try clear Yd
              try clear NV
              try clear vH
              try clear Qy
              try clear Fb
              try clear Qz
              try clear QA
              try clear zD
              try clear QB
              try clear QC
              try clear nO
              try clear nP
              try clear nQ
              try clear xo
              try clear xp
              try clear xq
              try clear nR
              try clear nS
              try clear xr
              try clear xt
              try clear p2
              try clear p6
              obtain⟨kq,xw,dH,dI,rfl,HA,agS,aQ,HK,HB⟩:=hcut
              cases kq with
              | zero=>exact absurd HA.out (by simp [ag.j4])
              | succ Ye=>
               have H:=HA.out
               clear HA
               simp only [ag.j4] at H
               by_cases CM:xw=true
               ·subst CM
                have H1:(some ((⟨#[60,33,45,45]⟩:ByteArray),wrap64 (dH+4),dI))=some (r1,r2,r3):=by rw [if_pos rfl] at H;exact H
                clear H
                have H:=H1
                clear H1
                simp only [Option.some.injEq,Prod.mk.injEq] at H
                obtain⟨rfl,rfl,rfl⟩:=H
                obtain⟨adv,adw,vI,Yf,adx⟩:=aQ.out
                have ady:=aK vI
                have adz:=aM vI
                have adA:=aN vI
                have adB:=ai vI 1
                have adC:=ai vI 2
                clear vI Yf
                go_wp2
                go_ret
                exact⟨qG,qI,qB,qK⟩
               ·replace CM:=Bool.eq_false_iff.mpr CM
                subst CM
                have H1:((cD.f Ye (([40,41,44,58,59,91,93,123,125]:List Int)) a1).bind fun zM=>(if zM=true then ((bF.f ah dH dI (strOfNums (([a1]:List Int)))).bind fun fG=>(some (fG.1,fG.2.1,fG.2.2))) else ((bF.f ah dH dI (⟨#[100,101,108,105,109]⟩:ByteArray)).bind fun gM=>(some (gM.1,gM.2.1,gM.2.2)))))=some (r1,r2,r3):=by rw [if_neg (show ¬(false=true) by decide)] at H;exact H
                clear H
                have H:=H1
                clear H1
                obtain⟨aeG,zQ⟩:∃y_:List Int,y_=(([40,41,44,58,59,91,93,123,125]:List Int)):=⟨_,rfl⟩
                replace H:((cD.f Ye aeG a1).bind fun zM=>(if zM=true then ((bF.f ah dH dI (strOfNums (([a1]:List Int)))).bind fun fG=>(some (fG.1,fG.2.1,fG.2.2))) else ((bF.f ah dH dI (⟨#[100,101,108,105,109]⟩:ByteArray)).bind fun gM=>(some (gM.1,gM.2.1,gM.2.2)))))=some (r1,r2,r3):=by first|(rw [zQ];with_reducible exact H)|(have lN:=(Option.bind_some _ _).symm.trans H;rw [zQ];with_reducible exact lN)|(have lN:=(Option.bind_some _ _).symm.trans H;with_reducible exact lN)|with_reducible exact H|(rw [zQ];exact H)|exact H
                have Ff:=am zQ
                clear zQ
                replace H:=Option.bind_eq_some_iff.mp H
                obtain⟨zM,Jo,H⟩:=H
                replace H:(if zM=true then ((bF.f ah dH dI (strOfNums (([a1]:List Int)))).bind fun fG=>(some (fG.1,fG.2.1,fG.2.2))) else ((bF.f ah dH dI (⟨#[100,101,108,105,109]⟩:ByteArray)).bind fun gM=>(some (gM.1,gM.2.1,gM.2.2))))=some (r1,r2,r3):=H
                have BX:=am Jo
                clear Jo
                by_cases c51:zM=true
                ·subst c51
                 have H1:((bF.f ah dH dI (strOfNums (([a1]:List Int)))).bind fun fG=>(some (fG.1,fG.2.1,fG.2.2)))=some (r1,r2,r3):=by rw [if_pos rfl] at H;exact H
                 clear H
                 have H:=H1
                 clear H1
                 obtain⟨TD,zR⟩:∃y_:List Int,y_=(([a1]:List Int)):=⟨_,rfl⟩
                 replace H:((bF.f ah dH dI (strOfNums TD)).bind fun fG=>(some (fG.1,fG.2.1,fG.2.2)))=some (r1,r2,r3):=by first|(rw [zR];with_reducible exact H)|(have lN:=(Option.bind_some _ _).symm.trans H;rw [zR];with_reducible exact lN)|(have lN:=(Option.bind_some _ _).symm.trans H;with_reducible exact lN)|with_reducible exact H|(rw [zR];exact H)|exact H
                 have QD:=am zR
                 clear zR
                 replace H:=Option.bind_eq_some_iff.mp H
                 obtain⟨⟨Yg,Yh,Yi⟩,Yj,H⟩:=H
                 replace H:(some (Yg,Yh,Yi))=some (r1,r2,r3):=H
                 have A52:=am Yj
                 clear Yj
                 simp only [Option.some.injEq,Prod.mk.injEq] at H
                 obtain⟨rfl,rfl,rfl⟩:=H
                 have TE:=Ff.out
                 clear Ff
                 subst TE
                 have kc:=fun (w:World) (C:Array Value) (n c:Nat)=>Lib.run_convert_bytes_const (P:=Tryz.prog) w 24 5 C n c Tryz.underlying24 Tryz.underlying5
                 go_wp2_with (first|(go_at_call 53;(with_reducible refine(vF _ _ _ _ BX.out).mono ?_);rintro e w' ⟨rfl,⟨nd,rfl⟩⟩)|((with_reducible refine gH (N:=111) rfl ?_);refine Kd.vd (Kd.int .u8) _ 5 ?hg (N:=111) ?hd (xs:=([a1]:List Int)) (inner:=[.int .u8 a1]) (ok:=fun _=>True) (okp:=fun _=>True) ?hr ?hp (fun _ hk=>hk) trivial (Below.refl _ _) (Nat.le_refl _) (by simp) ?_;(case hd=>rfl);(case hg=>rfl);(case hr=>first|(go_simp;done)|(go_simp;rfl));(case hp=>exact(eX.one (show Kd.M (Kd.int .u8) _ _ _ a1 [.int .u8 a1] from rfl) (eX.none _ _)));intro agT w56 JF hb JE na;clear JE na;(first|rw [←QD.out] at JF|(simp only [Int.reduceToNat] at JF;rw [←QD.out] at JF));have cM:=am (Kd.lu JF (ve (w:=w) (g:=g) (row:=none) qK));have cY:=am (aD.below qI hb);have sS:=am (aw.trans qK (aw.fh hb g none) (.inl rfl));have Fg:=am (fc qB hb);clear aQ;clear HK;clear HB;have Fh:=cM;have aQ:=cY;have HK:=sS;have HB:=Fg;clear cM cY sS Fg;clear hb JF;have agC:=r9 (P:=Tryz.prog) Tryz.underlying24 Tryz.underlying5 Tryz.underlying9 (Kd.yR Fh.out))|(refine gL 144 113 Tryz.func144 #[.pointer (some ⟨g,0,none⟩),.string (strOfNums TD)] ?_;(with_reducible refine(bF.calls g ah dH dI (strOfNums TD) Yg Yh Yi w0 _ ?side1 ?side2 A52.out).mono ?_);(case side1=>exact qI);(case side2=>exact qB);rintro e w59 ⟨rfl,hi,hb,hk⟩;refine⟨_,rfl,?_⟩;have cM:=am (Kd.oJ (Kd.Ix (aD.apart (show aD w0 _ g ah dH dI from qI) (by(with_reducible repeat(first|apply Kd.cP|apply Kd.cQ|apply Kd.dA));exact Fh.out) (by decide)) hk (fun _ h=>h.2)) (fun _ h=>h.1));have cY:=am (aw.trans qK hk (.inl rfl));have sS:=am (hb);have Fg:=am (hi);clear Fh;clear HK;clear HB;clear aQ;have Fh:=cM;have HK:=cY;have HB:=sS;have aQ:=Fg;clear cM cY sS Fg;(try clear hb);(try clear dc);(try clear hk);(try clear hi)))
                 go_ret
                 exact⟨qG,qI,qB,qK⟩
                ·replace c51:=Bool.eq_false_iff.mpr c51
                 subst c51
                 have H1:((bF.f ah dH dI (⟨#[100,101,108,105,109]⟩:ByteArray)).bind fun gM=>(some (gM.1,gM.2.1,gM.2.2)))=some (r1,r2,r3):=by rw [if_neg (show ¬(false=true) by decide)] at H;exact H
                 clear H
                 have H:=H1
                 clear H1
                 replace H:=Option.bind_eq_some_iff.mp H
                 obtain⟨⟨Yk,Yl,Ym⟩,Yn,H⟩:=H
                 replace H:(some (Yk,Yl,Ym))=some (r1,r2,r3):=H
                 have My:=am Yn
                 clear Yn
                 simp only [Option.some.injEq,Prod.mk.injEq] at H
                 obtain⟨rfl,rfl,rfl⟩:=H
                 have TE:=Ff.out
                 clear Ff
                 subst TE
                 have kc:=fun (w:World) (C:Array Value) (n c:Nat)=>Lib.run_convert_bytes_const (P:=Tryz.prog) w 24 5 C n c Tryz.underlying24 Tryz.underlying5
                 go_wp2_with (first|(go_at_call 53;(with_reducible refine(vF _ _ _ _ BX.out).mono ?_);rintro e w' ⟨rfl,⟨nd,rfl⟩⟩)|(refine gL 144 115 Tryz.func144 #[.pointer (some ⟨g,0,none⟩),.string (⟨#[100,101,108,105,109]⟩:ByteArray)] ?_;(with_reducible refine(bF.calls g ah dH dI (⟨#[100,101,108,105,109]⟩:ByteArray) Yk Yl Ym w0 _ ?side1 ?side2 My.out).mono ?_);(case side1=>exact qI);(case side2=>exact qB);rintro e fX ⟨rfl,hi,hb,hk⟩;refine⟨_,rfl,?_⟩;have cM:=am (aw.trans qK hk (.inl rfl));have cY:=am (hb);have sS:=am (hi);clear HK;clear HB;clear aQ;have HK:=cM;have HB:=cY;have aQ:=sS;clear cM cY sS;(try clear hb);(try clear dc);(try clear hk);(try clear hi)))
                 go_ret
                 exact⟨qG,qI,qB,qK⟩
end Go.Proofs.YtlglijnaeaonpaaGreatDoor.bG
end
