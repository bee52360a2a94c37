/- FnRules: a part of the proof (Rb); in it lines that print.sh printed, those that are used. -/
import Derived.Test.YtlglijnaeaonpaaGreatDoorRa
section
set_option maxHeartbeats 8000000
set_option maxRecDepth 100000
set_option linter.unusedVariables false
set_option linter.unusedSimpArgs false
namespace Go.Proofs.YtlglijnaeaonpaaGreatDoor.bG
open Go.RowKit Go.Proofs.YtlglijnaeaonpaaGreatDoorW.aC Go.Proofs.YtlglijnaeaonpaaGreatDoorW.dQ Go.Proofs.YtlglijnaeaonpaaGreatDoorW.eR
attribute [local go_sem] fZ ga iu iv fk fl gd gg
def aJ.l0:Nat→List Int→Int→Bool→Option (ByteArray×Int×Bool)
 | 0,_,_,_=>none
 | k+1,x1000,x1001,x1002=>(aV.f x1000 x1001 x1002).bind fun En=>(if En.1=true then (some ((⟨#[99,111,109,109,101,110,116]⟩:ByteArray),En.2.1,true)) else ((aa.f x1000 En.2.1 En.2.2 0).bind fun iB=>(if iB.1=42 then ((aa.f x1000 iB.2.1 iB.2.2 1).bind fun fz=>(if fz.1=47 then (some ((⟨#[99,111,109,109,101,110,116]⟩:ByteArray),wrap64 (fz.2.1+2),fz.2.2)) else (aJ.l0 k x1000 (wrap64 (fz.2.1+1)) fz.2.2))) else (aJ.l0 k x1000 (wrap64 (iB.2.1+1)) iB.2.2))))
def aJ.f (k:Nat) (ah:List Int) (bg:Int) (bq:Bool):Option (ByteArray×Int×Bool):=aJ.l0 k ah (wrap64 (bg+2)) bq
theorem aJ.calls (k:Nat) (g:Nat) (ah:List Int) (bg:Int) (bq:Bool) (r1:ByteArray) (r2:Int) (r3:Bool) (w0 w:World) (hI:aD w0 w g ah bg bq) (hB:Below w0.heap.size w0 w) (h:aJ.f k ah bg bq=some (r1,r2,r3)):
  Calls Tryz.prog 108 #[.pointer (some ⟨g,0,none⟩)] w fun e w' =>e= .returned (.string r1)∧aD w0 w' g ah r2 r3∧Below w0.heap.size w0 w' ∧aw w w' g none:=by
 have aQ:=am hI
 have HK:=am (aw.refl w g none)
 have HL:=am hB.size
 clear hI
 have yX:=am hB.size
 have HB:=am hB
 clear hB
 have H:(aJ.l0 k ah (wrap64 (bg+2)) bq)=some (r1,r2,r3):=h
 clear h
 have H':=am H
 clear H
 obtain⟨IF,IG,ky,II,IJ⟩:=aQ.out
 have Ci:=aK ky
 have Cj:=aM ky
 have Ck:=aN ky
 have Cl:=ai ky 1
 have Cn:=ai ky 2
 clear ky II
 go_enter Tryz.func108,Tryz.ntmps108
 go_wp2
 go_loopg [] k (fun kq w' =>∃(aZ:Int) (a8:Bool),ak (aJ.l0 kq ah aZ a8=some (r1,r2,r3))∧ak (kq≤k)∧ak (aD w0 w' g ah aZ a8)∧ak (aw w w' g none)∧ak (Below w0.heap.size w0 w'))
 case atStart=>exact⟨(wrap64 (bg+2)),(bq),H',⟨Nat.le_refl _⟩,⟨qI⟩,⟨qK⟩,⟨qB⟩⟩
 case round=>
  clear H'
  try clear c1
  try clear p2
  try clear Ci
  try clear Cj
  try clear Ck
  try clear Cl
  try clear Cn
  obtain⟨aZ,a8,HA,dR,aQ,HK,HB⟩:=hrel
  cases gk with
  | zero=>exact absurd HA.out (by simp [aJ.l0])
  | succ k1=>
   have H:=HA.out
   clear HA
   simp only [aJ.l0] at H
   replace H:=Option.bind_eq_some_iff.mp H
   obtain⟨⟨t234,t235,t236⟩,wy,H⟩:=H
   replace H:(if t234=true then (some ((⟨#[99,111,109,109,101,110,116]⟩:ByteArray),t235,true)) else ((aa.f ah t235 t236 0).bind fun iB=>(if iB.1=42 then ((aa.f ah iB.2.1 iB.2.2 1).bind fun fz=>(if fz.1=47 then (some ((⟨#[99,111,109,109,101,110,116]⟩:ByteArray),wrap64 (fz.2.1+2),fz.2.2)) else (aJ.l0 k1 ah (wrap64 (fz.2.1+1)) fz.2.2))) else (aJ.l0 k1 ah (wrap64 (iB.2.1+1)) iB.2.2))))=some (r1,r2,r3):=H
   have A3:=am wy
   clear wy
   by_cases c4:t234=true
   ·subst c4
    have H1:(some ((⟨#[99,111,109,109,101,110,116]⟩:ByteArray),t235,true))=some (r1,r2,r3):=by rw [if_pos rfl] at H;exact H
    clear H
    have H:=H1
    clear H1
    simp only [Option.some.injEq,Prod.mk.injEq] at H
    obtain⟨rfl,rfl,rfl⟩:=H
    go_wp2_with (first|(refine gL 67 11 Tryz.func67 #[.pointer (some ⟨g,0,none⟩)] ?_;(with_reducible refine mK (aV.calls g ah aZ a8 true t235 t236 w0 _ qI qB A3.out) ?_);clear aQ HB HK;intro w5 aQ HB HK;refine⟨_,rfl,?_⟩;obtain⟨IQ,IS,kF,IT,IU⟩:=aQ.out;have IV:=aK kF;have IW:=aM kF;have IX:=aN kF;have IY:=ai kF 1;have IZ:=ai kF 2;clear kF IT))
    go_ret
    exact⟨qG,qI,qB,qK⟩
   ·replace c4:=Bool.eq_false_iff.mpr c4
    subst c4
    have H1:((aa.f ah t235 t236 0).bind fun iB=>(if iB.1=42 then ((aa.f ah iB.2.1 iB.2.2 1).bind fun fz=>(if fz.1=47 then (some ((⟨#[99,111,109,109,101,110,116]⟩:ByteArray),wrap64 (fz.2.1+2),fz.2.2)) else (aJ.l0 k1 ah (wrap64 (fz.2.1+1)) fz.2.2))) else (aJ.l0 k1 ah (wrap64 (iB.2.1+1)) iB.2.2)))=some (r1,r2,r3):=by rw [if_neg (show ¬(false=true) by decide)] at H;exact H
    clear H
    have H:=H1
    clear H1
    replace H:=Option.bind_eq_some_iff.mp H
    obtain⟨⟨t237,t238,t239⟩,WD,H⟩:=H
    replace H:(if t237=42 then ((aa.f ah t238 t239 1).bind fun fz=>(if fz.1=47 then (some ((⟨#[99,111,109,109,101,110,116]⟩:ByteArray),wrap64 (fz.2.1+2),fz.2.2)) else (aJ.l0 k1 ah (wrap64 (fz.2.1+1)) fz.2.2))) else (aJ.l0 k1 ah (wrap64 (t238+1)) t239))=some (r1,r2,r3):=H
    have A7:=am WD
    clear WD
    by_cases c8:t237=42
    ·rw [if_pos c8] at H
     have Cv:(t237==42)=true:=beq_iff_eq.mpr c8
     have M0:(t237 !=42)=false:=bne_eq_false_iff_eq.mpr c8
     clear c8
     replace H:=Option.bind_eq_some_iff.mp H
     obtain⟨⟨t240,t241,t242⟩,Ee,H⟩:=H
     replace H:(if t240=47 then (some ((⟨#[99,111,109,109,101,110,116]⟩:ByteArray),wrap64 (t241+2),t242)) else (aJ.l0 k1 ah (wrap64 (t241+1)) t242))=some (r1,r2,r3):=H
     have A9:=am Ee
     clear Ee
     by_cases eZ:t240=47
     ·rw [if_pos eZ] at H
      have mg:(t240==47)=true:=beq_iff_eq.mpr eZ
      have qT:(t240 !=47)=false:=bne_eq_false_iff_eq.mpr eZ
      clear eZ
      simp only [Option.some.injEq,Prod.mk.injEq] at H
      obtain⟨rfl,rfl,rfl⟩:=H
      go_wp2_with (first|(refine gL 67 11 Tryz.func67 #[.pointer (some ⟨g,0,none⟩)] ?_;(with_reducible refine mK (aV.calls g ah aZ a8 false t235 t236 w0 _ qI qB A3.out) ?_);clear aQ HB HK;intro VT aQ HB HK;refine⟨_,rfl,?_⟩)|(refine gL 104 14 Tryz.func104 #[.pointer (some ⟨g,0,none⟩),.int .i64 0] ?_;(with_reducible refine mK (aa.calls g ah t235 t236 0 t237 t238 t239 w0 _ qI qB A7.out) ?_);clear aQ HB HK;intro VS aQ HB HK;refine⟨_,rfl,?_⟩)|(go_at_call 104;(with_reducible refine mK (aa.calls g ah t238 t239 1 t240 t241 t242 w0 _ qI qB A9.out) ?_);clear aQ HB HK;intro Qh aQ HB HK;obtain⟨abA,abB,vf,WE,abC⟩:=aQ.out;have abD:=aK vf;have abE:=aM vf;have abF:=aN vf;have abG:=ai vf 1;have abH:=ai vf 2;clear vf WE))
      go_ret
      exact⟨qG,qI,qB,qK⟩
     ·rw [if_neg eZ] at H
      have mg:(t240==47)=false:=beq_eq_false_iff_ne.mpr eZ
      have qT:(t240 !=47)=true:=bne_iff_ne.mpr eZ
      have H':=am H
      clear H
      go_wp2_with (first|(refine gL 67 11 Tryz.func67 #[.pointer (some ⟨g,0,none⟩)] ?_;(with_reducible refine mK (aV.calls g ah aZ a8 false t235 t236 w0 _ qI qB A3.out) ?_);clear aQ HB HK;intro w15 aQ HB HK;refine⟨_,rfl,?_⟩)|(refine gL 104 14 Tryz.func104 #[.pointer (some ⟨g,0,none⟩),.int .i64 0] ?_;(with_reducible refine mK (aa.calls g ah t235 t236 0 t237 t238 t239 w0 _ qI qB A7.out) ?_);clear aQ HB HK;intro M1 aQ HB HK;refine⟨_,rfl,?_⟩)|(go_at_call 104;(with_reducible refine mK (aa.calls g ah t238 t239 1 t240 t241 t242 w0 _ qI qB A9.out) ?_);clear aQ HB HK;intro Eo aQ HB HK;obtain⟨M3,M4,kG,I0,M5⟩:=aQ.out;have Ep:=aK kG;have Er:=aM kG;have Es:=aN kG;have Et:=ai kG 1;have Eu:=ai kG 2;clear kG I0))
      go_roundg k1
      case measure=>have:=dR.out;omega
      case rel=>exact⟨(wrap64 (t241+1)),(t242),H',⟨by have:=dR.out;omega⟩,⟨qI⟩,⟨qK⟩,⟨qB⟩⟩
    ·rw [if_neg c8] at H
     have Cv:(t237==42)=false:=beq_eq_false_iff_ne.mpr c8
     have M0:(t237 !=42)=true:=bne_iff_ne.mpr c8
     have H':=am H
     clear H
     go_wp2_with (first|(refine gL 67 11 Tryz.func67 #[.pointer (some ⟨g,0,none⟩)] ?_;(with_reducible refine mK (aV.calls g ah aZ a8 false t235 t236 w0 _ qI qB A3.out) ?_);clear aQ HB HK;intro M6 aQ HB HK;refine⟨_,rfl,?_⟩)|(refine gL 104 14 Tryz.func104 #[.pointer (some ⟨g,0,none⟩),.int .i64 0] ?_;(with_reducible refine mK (aa.calls g ah t235 t236 0 t237 t238 t239 w0 _ qI qB A7.out) ?_);clear aQ HB HK;intro VU aQ HB HK;refine⟨_,rfl,?_⟩;obtain⟨abI,abJ,vg,WG,abK⟩:=aQ.out;have abL:=aK vg;have abM:=aM vg;have abN:=aN vg;have abO:=ai vg 1;have abP:=ai vg 2;clear vg WG))
     go_roundg k1
     case measure=>have:=dR.out;omega
     case rel=>exact⟨(wrap64 (t238+1)),(t239),H',⟨by have:=dR.out;omega⟩,⟨qI⟩,⟨qK⟩,⟨qB⟩⟩
mutual
def aE.j0:Nat→Int→Bool→List Int→Int→Bool→Option (Bool×Int×Bool)
 | 0,_,_,_,_,_=>none
 | k+1,x3,x12,x1000,x1001,x1002=>if x12=true then (aE.j1 k 1 x1000 x1001 x1002) else (aE.j1 k x3 x1000 x1001 x1002)
def aE.j1:Nat→Int→List Int→Int→Bool→Option (Bool×Int×Bool)
 | 0,_,_,_,_=>none
 | k+1,x3,x1000,x1001,x1002=>(aa.f x1000 x1001 x1002 x3).bind fun za=>((aW.f za.1).bind fun t249=>(if t249=true then (some (true,za.2.1,za.2.2)) else ((aa.f x1000 za.2.1 za.2.2 x3).bind fun fA=>(if fA.1=46 then ((aa.f x1000 fA.2.1 fA.2.2 (wrap64 (x3+1))).bind fun gJ=>((aW.f gJ.1).bind fun ph=>(some (ph,gJ.2.1,gJ.2.2)))) else (some (false,fA.2.1,fA.2.2))))))
end
def aE.f (k:Nat) (ah:List Int) (bg:Int) (bq:Bool):Option (Bool×Int×Bool):=(aa.f ah bg bq 0).bind fun kH=>(if kH.1=43 then (aE.j0 k 0 true ah kH.2.1 kH.2.2) else (aE.j0 k 0 (kH.1==45) ah kH.2.1 kH.2.2))
theorem aE.calls (k:Nat) (g:Nat) (ah:List Int) (bg:Int) (bq:Bool) (r1:Bool) (r2:Int) (r3:Bool) (w0 w:World) (hI:aD w0 w g ah bg bq) (hB:Below w0.heap.size w0 w) (h:aE.f k ah bg bq=some (r1,r2,r3)):
  Calls Tryz.prog 109 #[.pointer (some ⟨g,0,none⟩)] w fun e w' =>e= .returned (.bool r1)∧aD w0 w' g ah r2 r3∧Below w0.heap.size w0 w' ∧aw w w' g none:=by
 have aQ:=am hI
 have HK:=am (aw.refl w g none)
 have HL:=am hB.size
 clear hI
 have yX:=am hB.size
 have HB:=am hB
 clear hB
 have H:((aa.f ah bg bq 0).bind fun kH=>(if kH.1=43 then (aE.j0 k 0 true ah kH.2.1 kH.2.2) else (aE.j0 k 0 (kH.1==45) ah kH.2.1 kH.2.2)))=some (r1,r2,r3):=h
 clear h
 replace H:=Option.bind_eq_some_iff.mp H
 obtain⟨⟨t243,t244,t245⟩,mf,H⟩:=H
 replace H:(if t243=43 then (aE.j0 k 0 true ah t244 t245) else (aE.j0 k 0 (t243==45) ah t244 t245))=some (r1,r2,r3):=H
 have A2:=am mf
 clear mf
 have Si:=am H
 clear H
 go_enter Tryz.func109,Tryz.ntmps109
 go_upto_region 3 with (first|(refine gL 104 6 Tryz.func104 #[.pointer (some ⟨g,0,none⟩),.int .i64 0] ?_;(with_reducible refine mK (aa.calls g ah bg bq 0 t243 t244 t245 w0 _ qI qB A2.out) ?_);clear aQ HB HK;intro w4 aQ HB HK;refine⟨_,rfl,?_⟩))
 (try simp only [Act.put,List.setIfInBounds_toArray,List.set_cons_zero,List.set_cons_succ])
 go_cut [12] (fun v12 wc=>∃(kq:Nat) (Ew:Bool),v12= .bool Ew∧ak (aE.j0 kq 0 Ew ah t244 t245=some (r1,r2,r3))∧ak (kq≤k)∧ak (aD w0 wc g ah t244 t245)∧ak (aw w wc g none)∧ak (Below w0.heap.size w0 wc))
 case first=>
  have H:=Si.out
  clear Si
  by_cases c5:t243=43
  ·rw [if_pos c5] at H
   have df:(t243==43)=true:=beq_iff_eq.mpr c5
   have iX:(t243 !=43)=false:=bne_eq_false_iff_eq.mpr c5
   clear c5
   (first|rw [df]|(simp only [cB,cJ];rw [df])|skip)
   have H':=am H
   clear H
   go_wp2
   go_meet
   case rel=>exact⟨_,(true),qF,H',⟨by first|omega|exact Nat.le_refl _⟩,⟨qI⟩,⟨qK⟩,⟨qB⟩⟩
  ·rw [if_neg c5] at H
   have df:(t243==43)=false:=beq_eq_false_iff_ne.mpr c5
   have iX:(t243 !=43)=true:=bne_iff_ne.mpr c5
   (first|rw [df]|(simp only [cB,cJ];rw [df])|skip)
   have H':=am H
   clear H
   go_wp2
   go_meet
   case rel=>exact⟨_,((t243==45)),qF,H',⟨by first|omega|exact Nat.le_refl _⟩,⟨qI⟩,⟨qK⟩,⟨qB⟩⟩
 case rest=>
  clear Si
  try clear c1
  try clear p2
  try clear c5
  try clear df
  try clear iX
  obtain⟨kq,Ew,rfl,HA,yC,aQ,HK,HB⟩:=hcut
  cases kq with
  | zero=>exact absurd HA.out (by simp [aE.j0])
  | succ Sj=>
   have H:=HA.out
   clear HA
   simp only [aE.j0] at H
   have I1:=am H
   clear H
   go_upto_if 12 with (fail)
   go_cut [3] (fun v3 wc=>∃(kq:Nat) (lD:Int),v3= .int .i64 lD∧ak (aE.j1 kq lD ah t244 t245=some (r1,r2,r3))∧ak (kq≤Sj)∧ak (aD w0 wc g ah t244 t245)∧ak (aw w wc g none)∧ak (Below w0.heap.size w0 wc))
   case first=>
    have H:=I1.out
    clear I1
    by_cases c7:Ew=true
    ·subst c7
     have H1:(aE.j1 Sj 1 ah t244 t245)=some (r1,r2,r3):=by rw [if_pos rfl] at H;exact H
     clear H
     have H:=H1
     clear H1
     have H':=am H
     clear H
     go_wp2
     go_meet
     case rel=>exact⟨_,(1),qF,H',⟨by have:=yC.out;first|omega|exact Nat.le_refl _⟩,⟨qI⟩,⟨qK⟩,⟨qB⟩⟩
    ·replace c7:=Bool.eq_false_iff.mpr c7
     subst c7
     have H1:(aE.j1 Sj 0 ah t244 t245)=some (r1,r2,r3):=by rw [if_neg (show ¬(false=true) by decide)] at H;exact H
     clear H
     have H:=H1
     clear H1
     have H':=am H
     clear H
     go_wp2
     go_meet
     case rel=>exact⟨_,(0),qF,H',⟨by have:=yC.out;first|omega|exact Nat.le_refl _⟩,⟨qI⟩,⟨qK⟩,⟨qB⟩⟩
   case rest=>
    clear I1
    try clear c1
    try clear p2
    try clear c5
    try clear df
    try clear iX
    try clear c7
    try clear p2
    obtain⟨kq,lD,rfl,HA,Cw,aQ,HK,HB⟩:=hcut
    cases kq with
    | zero=>exact absurd HA.out (by simp [aE.j1])
    | succ Mu=>
     have H:=HA.out
     clear HA
     simp only [aE.j1] at H
     replace H:=Option.bind_eq_some_iff.mp H
     obtain⟨⟨t246,t247,t248⟩,Ed,H⟩:=H
     replace H:((aW.f t246).bind fun t249=>(if t249=true then (some (true,t247,t248)) else ((aa.f ah t247 t248 lD).bind fun fA=>(if fA.1=46 then ((aa.f ah fA.2.1 fA.2.2 (wrap64 (lD+1))).bind fun gJ=>((aW.f gJ.1).bind fun ph=>(some (ph,gJ.2.1,gJ.2.2)))) else (some (false,fA.2.1,fA.2.2))))))=some (r1,r2,r3):=H
     have A8:=am Ed
     clear Ed
     replace H:=Option.bind_eq_some_iff.mp H
     obtain⟨t249,Ee,H⟩:=H
     replace H:(if t249=true then (some (true,t247,t248)) else ((aa.f ah t247 t248 lD).bind fun fA=>(if fA.1=46 then ((aa.f ah fA.2.1 fA.2.2 (wrap64 (lD+1))).bind fun gJ=>((aW.f gJ.1).bind fun ph=>(some (ph,gJ.2.1,gJ.2.2)))) else (some (false,fA.2.1,fA.2.2)))))=some (r1,r2,r3):=H
     have A9:=am Ee
     clear Ee
     by_cases eZ:t249=true
     ·subst eZ
      have H1:(some (true,t247,t248))=some (r1,r2,r3):=by rw [if_pos rfl] at H;exact H
      clear H
      have H:=H1
      clear H1
      simp only [Option.some.injEq,Prod.mk.injEq] at H
      obtain⟨rfl,rfl,rfl⟩:=H
      go_wp2_with (first|(refine gL 104 15 Tryz.func104 #[.pointer (some ⟨g,0,none⟩),.int .i64 lD] ?_;(with_reducible refine mK (aa.calls g ah t244 t245 lD t246 t247 t248 w0 _ qI qB A8.out) ?_);clear aQ HB HK;intro VT aQ HB HK;refine⟨_,rfl,?_⟩)|(refine gL 137 16 Tryz.func137 #[.int .u8 t246] ?_;(with_reducible refine(aW.calls t246 true _ A9.out).mono ?_);rintro e w' ⟨rfl,⟨nd,rfl⟩⟩;refine⟨_,rfl,?_⟩))
      go_ret
      exact⟨qG,qI,qB,qK⟩
     ·replace eZ:=Bool.eq_false_iff.mpr eZ
      subst eZ
      have H1:((aa.f ah t247 t248 lD).bind fun fA=>(if fA.1=46 then ((aa.f ah fA.2.1 fA.2.2 (wrap64 (lD+1))).bind fun gJ=>((aW.f gJ.1).bind fun ph=>(some (ph,gJ.2.1,gJ.2.2)))) else (some (false,fA.2.1,fA.2.2))))=some (r1,r2,r3):=by rw [if_neg (show ¬(false=true) by decide)] at H;exact H
      clear H
      have H:=H1
      clear H1
      replace H:=Option.bind_eq_some_iff.mp H
      obtain⟨⟨zb,I2,I3⟩,zc,H⟩:=H
      replace H:(if zb=46 then ((aa.f ah I2 I3 (wrap64 (lD+1))).bind fun gJ=>((aW.f gJ.1).bind fun ph=>(some (ph,gJ.2.1,gJ.2.2)))) else (some (false,I2,I3)))=some (r1,r2,r3):=H
      have Qi:=am zc
      clear zc
      by_cases kr:zb=46
      ·rw [if_pos kr] at H
       have jo:(zb==46)=true:=beq_iff_eq.mpr kr
       have mH:(zb !=46)=false:=bne_eq_false_iff_eq.mpr kr
       clear kr
       replace H:=Option.bind_eq_some_iff.mp H
       obtain⟨⟨Sk,Sl,So⟩,zd,H⟩:=H
       replace H:((aW.f Sk).bind fun ph=>(some (ph,Sl,So)))=some (r1,r2,r3):=H
       have VV:=am zd
       clear zd
       replace H:=Option.bind_eq_some_iff.mp H
       obtain⟨ph,sk,H⟩:=H
       replace H:(some (ph,Sl,So))=some (r1,r2,r3):=H
       have Qj:=am sk
       clear sk
       simp only [Option.some.injEq,Prod.mk.injEq] at H
       obtain⟨rfl,rfl,rfl⟩:=H
       go_wp2_with (first|(refine gL 104 15 Tryz.func104 #[.pointer (some ⟨g,0,none⟩),.int .i64 lD] ?_;(with_reducible refine mK (aa.calls g ah t244 t245 lD t246 t247 t248 w0 _ qI qB A8.out) ?_);clear aQ HB HK;intro M1 aQ HB HK;refine⟨_,rfl,?_⟩)|(refine gL 137 16 Tryz.func137 #[.int .u8 t246] ?_;(with_reducible refine(aW.calls t246 false _ A9.out).mono ?_);rintro e w' ⟨rfl,⟨nd,rfl⟩⟩;refine⟨_,rfl,?_⟩)|(go_at_call 104;(with_reducible refine mK (aa.calls g ah t247 t248 lD zb I2 I3 w0 _ qI qB Qi.out) ?_);clear aQ HB HK;intro Eo aQ HB HK)|(go_at_call 104;(with_reducible refine(aa.calls g ah I2 I3 (wrap64 (lD+1)) Sk Sl So w0 _ ?side1 ?side2 VV.out).mono ?_);(case side1=>exact qI);(case side2=>exact qB);rintro e w18 ⟨rfl,hi,hb,hk⟩;have cR:=am (aw.trans qK hk (.inl rfl));have cM:=am (hb);have cY:=am (hi);clear HK;clear HB;clear aQ;have HK:=cR;have HB:=cM;have aQ:=cY;clear cR cM cY;(try clear hb);(try clear dc);(try clear hk);(try clear hi))|(go_at_call 137;(with_reducible refine(aW.calls Sk ph _ Qj.out).mono ?_);rintro e w' ⟨rfl,⟨nd,rfl⟩⟩))
       go_ret
       exact⟨qG,qI,qB,qK⟩
      ·rw [if_neg kr] at H
       have jo:(zb==46)=false:=beq_eq_false_iff_ne.mpr kr
       have mH:(zb !=46)=true:=bne_iff_ne.mpr kr
       simp only [Option.some.injEq,Prod.mk.injEq] at H
       obtain⟨rfl,rfl,rfl⟩:=H
       go_wp2_with (first|(refine gL 104 15 Tryz.func104 #[.pointer (some ⟨g,0,none⟩),.int .i64 lD] ?_;(with_reducible refine mK (aa.calls g ah t244 t245 lD t246 t247 t248 w0 _ qI qB A8.out) ?_);clear aQ HB HK;intro M6 aQ HB HK;refine⟨_,rfl,?_⟩)|(refine gL 137 16 Tryz.func137 #[.int .u8 t246] ?_;(with_reducible refine(aW.calls t246 false _ A9.out).mono ?_);rintro e w' ⟨rfl,⟨nd,rfl⟩⟩;refine⟨_,rfl,?_⟩)|(go_at_call 104;(with_reducible refine mK (aa.calls g ah t247 t248 lD zb I2 I3 w0 _ qI qB Qi.out) ?_);clear aQ HB HK;intro VU aQ HB HK))
       go_ret
       exact⟨qG,qI,qB,qK⟩
def dm.f (a0:Int):Option (Bool):=if a0≥97 then (if a0≤122 then (some true) else (if a0≥65 then (some (decide (a0≤90))) else (some false))) else (if a0≥65 then (some (decide (a0≤90))) else (some false))
theorem dm.calls (a0:Int) (r:Bool) (w:World) (h:dm.f a0=some r):
  Calls Tryz.prog 52 #[.int .u8 a0] w fun e w' =>e= .returned (.bool r)∧cS w w':=by
 have H:(if a0≥97 then (if a0≤122 then (some true) else (if a0≥65 then (some (decide (a0≤90))) else (some false))) else (if a0≥65 then (some (decide (a0≤90))) else (some false)))=some r:=h
 clear h
 by_cases c2:a0≥97
 ·rw [if_pos c2] at H
  have oc:decide (97≤a0)=true:=decide_eq_true c2
  clear c2
  by_cases c3:a0≤122
  ·rw [if_pos c3] at H
   have jZ:decide (a0≤122)=true:=decide_eq_true c3
   clear c3
   obtain rfl:=Option.some.inj H
   go_enter Tryz.func52,Tryz.ntmps52
   go_wp2
   go_ret
   exact⟨qF,qE⟩
  ·rw [if_neg c3] at H
   have jZ:decide (a0≤122)=false:=decide_eq_false c3
   clear c3
   by_cases c4:a0≥65
   ·rw [if_pos c4] at H
    have eF:decide (65≤a0)=true:=decide_eq_true c4
    clear c4
    obtain rfl:=Option.some.inj H
    go_enter Tryz.func52,Tryz.ntmps52
    go_wp2
    go_ret
    exact⟨qF,qE⟩
   ·rw [if_neg c4] at H
    have eF:decide (65≤a0)=false:=decide_eq_false c4
    clear c4
    obtain rfl:=Option.some.inj H
    go_enter Tryz.func52,Tryz.ntmps52
    go_wp2
    go_ret
    exact⟨qF,qE⟩
 ·rw [if_neg c2] at H
  have oc:decide (97≤a0)=false:=decide_eq_false c2
  clear c2
  by_cases c5:a0≥65
  ·rw [if_pos c5] at H
   have df:decide (65≤a0)=true:=decide_eq_true c5
   clear c5
   obtain rfl:=Option.some.inj H
   go_enter Tryz.func52,Tryz.ntmps52
   go_wp2
   go_ret
   exact⟨qF,qE⟩
  ·rw [if_neg c5] at H
   have df:decide (65≤a0)=false:=decide_eq_false c5
   clear c5
   obtain rfl:=Option.some.inj H
   go_enter Tryz.func52,Tryz.ntmps52
   go_wp2
   go_ret
   exact⟨qF,qE⟩
def bO.f (a0:Int):Option (Bool):=(dm.f a0).bind fun Gl=>(if Gl=true then (some true) else (if a0=95 then (some true) else (some (decide (a0≥128)))))
theorem bO.calls (a0:Int) (r:Bool) (w:World) (h:bO.f a0=some r):
  Calls Tryz.prog 32 #[.int .u8 a0] w fun e w' =>e= .returned (.bool r)∧cS w w':=by
 have H:((dm.f a0).bind fun Gl=>(if Gl=true then (some true) else (if a0=95 then (some true) else (some (decide (a0≥128))))))=some r:=h
 clear h
 replace H:=Option.bind_eq_some_iff.mp H
 obtain⟨Gl,mf,H⟩:=H
 replace H:(if Gl=true then (some true) else (if a0=95 then (some true) else (some (decide (a0≥128)))))=some r:=H
 have A2:=am mf
 clear mf
 by_cases c3:Gl=true
 ·subst c3
  have H1:(some true)=some r:=by rw [if_pos rfl] at H;exact H
  clear H
  have H:=H1
  clear H1
  obtain rfl:=Option.some.inj H
  go_enter Tryz.func32,Tryz.ntmps32
  go_wp2_with (first|(refine gL 52 4 Tryz.func52 #[.int .u8 a0] ?_;(with_reducible refine(dm.calls a0 true _ A2.out).mono ?_);rintro e w' ⟨rfl,⟨nd,rfl⟩⟩;refine⟨_,rfl,?_⟩))
  go_ret
  exact⟨qF,qE⟩
 ·replace c3:=Bool.eq_false_iff.mpr c3
  subst c3
  have H1:(if a0=95 then (some true) else (some (decide (a0≥128))))=some r:=by rw [if_neg (show ¬(false=true) by decide)] at H;exact H
  clear H
  have H:=H1
  clear H1
  by_cases c4:a0=95
  ·rw [if_pos c4] at H
   have eF:(a0==95)=true:=beq_iff_eq.mpr c4
   have uq:(a0 !=95)=false:=bne_eq_false_iff_eq.mpr c4
   clear c4
   obtain rfl:=Option.some.inj H
   go_enter Tryz.func32,Tryz.ntmps32
   go_wp2_with (first|(refine gL 52 4 Tryz.func52 #[.int .u8 a0] ?_;(with_reducible refine(dm.calls a0 false _ A2.out).mono ?_);rintro e w' ⟨rfl,⟨nd,rfl⟩⟩;refine⟨_,rfl,?_⟩))
   go_ret
   exact⟨qF,qE⟩
  ·rw [if_neg c4] at H
   have eF:(a0==95)=false:=beq_eq_false_iff_ne.mpr c4
   have uq:(a0 !=95)=true:=bne_iff_ne.mpr c4
   obtain rfl:=Option.some.inj H
   go_enter Tryz.func32,Tryz.ntmps32
   go_wp2_with (first|(refine gL 52 4 Tryz.func52 #[.int .u8 a0] ?_;(with_reducible refine(dm.calls a0 false _ A2.out).mono ?_);rintro e w' ⟨rfl,⟨nd,rfl⟩⟩;refine⟨_,rfl,?_⟩))
   go_ret
   exact⟨qF,qE⟩
def aA.j0:Nat→Int→List Int→Int→Bool→Option (Bool×Int×Bool)
 | 0,_,_,_,_=>none
 | k+1,x1,x1000,x1001,x1002=>(aa.f x1000 x1001 x1002 (wrap64 (x1+1))).bind fun ze=>((bO.f ze.1).bind fun Gm=>(if Gm=true then (some (true,ze.2.1,ze.2.2)) else ((ay.f x1000 ze.2.1 ze.2.2 (wrap64 (x1+1))).bind fun jq=>(some (jq.1,jq.2.1,jq.2.2)))))
def aA.f (k:Nat) (ah:List Int) (bg:Int) (bq:Bool) (a1:Int):Option (Bool×Int×Bool):=(aa.f ah bg bq a1).bind fun iC=>(if iC.1=45 then ((aa.f ah iC.2.1 iC.2.2 (wrap64 (a1+1))).bind fun jO=>(if jO.1=45 then (aA.j0 k a1 ah jO.2.1 true) else (aA.j0 k a1 ah jO.2.1 jO.2.2))) else ((bO.f iC.1).bind fun zg=>(if zg=true then (some (true,iC.2.1,iC.2.2)) else ((ay.f ah iC.2.1 iC.2.2 a1).bind fun gK=>(some (gK.1,gK.2.1,gK.2.2))))))
theorem aA.calls (k:Nat) (g:Nat) (ah:List Int) (bg:Int) (bq:Bool) (a1:Int) (r1:Bool) (r2:Int) (r3:Bool) (w0 w:World) (hI:aD w0 w g ah bg bq) (hB:Below w0.heap.size w0 w) (h:aA.f k ah bg bq a1=some (r1,r2,r3)):
  Calls Tryz.prog 113 #[.pointer (some ⟨g,0,none⟩),.int .i64 a1] w fun e w' =>e= .returned (.bool r1)∧aD w0 w' g ah r2 r3∧Below w0.heap.size w0 w' ∧aw w w' g none:=by
 have aQ:=am hI
 have HK:=am (aw.refl w g none)
 have HL:=am hB.size
 clear hI
 have yX:=am hB.size
 have HB:=am hB
 clear hB
 have H:((aa.f ah bg bq a1).bind fun iC=>(if iC.1=45 then ((aa.f ah iC.2.1 iC.2.2 (wrap64 (a1+1))).bind fun jO=>(if jO.1=45 then (aA.j0 k a1 ah jO.2.1 true) else (aA.j0 k a1 ah jO.2.1 jO.2.2))) else ((bO.f iC.1).bind fun zg=>(if zg=true then (some (true,iC.2.1,iC.2.2)) else ((ay.f ah iC.2.1 iC.2.2 a1).bind fun gK=>(some (gK.1,gK.2.1,gK.2.2)))))))=some (r1,r2,r3):=h
 clear h
 replace H:=Option.bind_eq_some_iff.mp H
 obtain⟨⟨pj,rj,rk⟩,wy,H⟩:=H
 replace H:(if pj=45 then ((aa.f ah rj rk (wrap64 (a1+1))).bind fun jO=>(if jO.1=45 then (aA.j0 k a1 ah jO.2.1 true) else (aA.j0 k a1 ah jO.2.1 jO.2.2))) else ((bO.f pj).bind fun zg=>(if zg=true then (some (true,rj,rk)) else ((ay.f ah rj rk a1).bind fun gK=>(some (gK.1,gK.2.1,gK.2.2))))))=some (r1,r2,r3):=H
 have A3:=am wy
 clear wy
 by_cases c4:pj=45
 ·rw [if_pos c4] at H
  have eF:(pj==45)=true:=beq_iff_eq.mpr c4
  have uq:(pj !=45)=false:=bne_eq_false_iff_eq.mpr c4
  clear c4
  replace H:=Option.bind_eq_some_iff.mp H
  obtain⟨⟨Cx,Cy,Sp⟩,BX,H⟩:=H
  replace H:(if Cx=45 then (aA.j0 k a1 ah Cy true) else (aA.j0 k a1 ah Cy Sp))=some (r1,r2,r3):=H
  have A5:=am BX
  clear BX
  have I1:=am H
  clear H
  go_enter Tryz.func113,Tryz.ntmps113
  go_upto_if 15 with (first|(refine gL 104 8 Tryz.func104 #[.pointer (some ⟨g,0,none⟩),.int .i64 a1] ?_;(with_reducible refine mK (aa.calls g ah bg bq a1 pj rj rk w0 _ qI qB A3.out) ?_);clear aQ HB HK;intro w7 aQ HB HK;refine⟨_,rfl,?_⟩)|(refine gL 104 14 Tryz.func104 #[.pointer (some ⟨g,0,none⟩),.int .i64 (wrap64 (a1+1))] ?_;(with_reducible refine(aa.calls g ah rj rk (wrap64 (a1+1)) Cx Cy Sp w0 _ ?side1 ?side2 A5.out).mono ?_);(case side1=>exact qI);(case side2=>exact qB);rintro e w8 ⟨rfl,hi,hb,hk⟩;refine⟨_,rfl,?_⟩;have cR:=am (aw.trans qK hk (.inl rfl));have cM:=am (hb);have cY:=am (hi);clear HK;clear HB;clear aQ;have HK:=cR;have HB:=cM;have aQ:=cY;clear cR cM cY;(try clear hb);(try clear dc);(try clear hk);(try clear hi)))
  (try simp only [Act.put,List.setIfInBounds_toArray,List.set_cons_zero,List.set_cons_succ])
  go_cut [] (fun wc=>∃(kq:Nat) (pk:Bool),ak (aA.j0 kq a1 ah Cy pk=some (r1,r2,r3))∧ak (kq≤k)∧ak (aD w0 wc g ah Cy pk)∧ak (aw w wc g none)∧ak (Below w0.heap.size w0 wc))
  case first=>
   have H:=I1.out
   clear I1
   by_cases c9:Cx=45
   ·rw [if_pos c9] at H
    have pn:(Cx==45)=true:=beq_iff_eq.mpr c9
    have ur:(Cx !=45)=false:=bne_eq_false_iff_eq.mpr c9
    clear c9
    (first|rw [pn]|(simp only [cB,cJ];rw [pn])|skip)
    have H':=am H
    clear H
    obtain⟨M7,M8,kI,I4,M9⟩:=aQ.out
    have Ex:=aK kI
    have Ey:=aM kI
    have Ez:=aN kI
    have EA:=ai kI 1
    have EB:=ai kI 2
    clear kI I4
    go_wp2
    go_meet
    case rel=>exact⟨_,(true),H',⟨by first|omega|exact Nat.le_refl _⟩,⟨qI⟩,⟨qK⟩,⟨qB⟩⟩
   ·rw [if_neg c9] at H
    have pn:(Cx==45)=false:=beq_eq_false_iff_ne.mpr c9
    have ur:(Cx !=45)=true:=bne_iff_ne.mpr c9
    (first|rw [pn]|(simp only [cB,cJ];rw [pn])|skip)
    have H':=am H
    clear H
    go_wp2
    go_meet
    case rel=>exact⟨_,(Sp),H',⟨by first|omega|exact Nat.le_refl _⟩,⟨qI⟩,⟨qK⟩,⟨qB⟩⟩
  case rest=>
   clear I1
   try clear c1
   try clear p2
   try clear c4
   try clear eF
   try clear uq
   try clear p6
   try clear c9
   try clear pn
   try clear ur
   try clear eZ
   try clear Ex
   try clear Ey
   try clear Ez
   try clear EA
   try clear EB
   obtain⟨kq,pk,HA,Cw,aQ,HK,HB⟩:=hcut
   cases kq with
   | zero=>exact absurd HA.out (by simp [aA.j0])
   | succ Mu=>
    have H:=HA.out
    clear HA
    simp only [aA.j0] at H
    replace H:=Option.bind_eq_some_iff.mp H
    obtain⟨⟨Cz,wD,wE⟩,sl,H⟩:=H
    replace H:((bO.f Cz).bind fun Gm=>(if Gm=true then (some (true,wD,wE)) else ((ay.f ah wD wE (wrap64 (a1+1))).bind fun jq=>(some (jq.1,jq.2.1,jq.2.2)))))=some (r1,r2,r3):=H
    have Mv:=am sl
    clear sl
    replace H:=Option.bind_eq_some_iff.mp H
    obtain⟨Gm,zc,H⟩:=H
    replace H:(if Gm=true then (some (true,wD,wE)) else ((ay.f ah wD wE (wrap64 (a1+1))).bind fun jq=>(some (jq.1,jq.2.1,jq.2.2))))=some (r1,r2,r3):=H
    have Qi:=am zc
    clear zc
    by_cases kr:Gm=true
    ·subst kr
     have H1:(some (true,wD,wE))=some (r1,r2,r3):=by rw [if_pos rfl] at H;exact H
     clear H
     have H:=H1
     clear H1
     simp only [Option.some.injEq,Prod.mk.injEq] at H
     obtain⟨rfl,rfl,rfl⟩:=H
     go_wp2_with (first|(refine gL 104 22 Tryz.func104 #[.pointer (some ⟨g,0,none⟩),.int .i64 (wrap64 (a1+1))] ?_;(with_reducible refine(aa.calls g ah Cy pk (wrap64 (a1+1)) Cz wD wE w0 _ ?side1 ?side2 Mv.out).mono ?_);(case side1=>exact qI);(case side2=>exact qB);rintro e w14 ⟨rfl,hi,hb,hk⟩;refine⟨_,rfl,?_⟩;have cR:=am (aw.trans qK hk (.inl rfl));have cM:=am (hb);have cY:=am (hi);clear HK;clear HB;clear aQ;have HK:=cR;have HB:=cM;have aQ:=cY;clear cR cM cY;(try clear hb);(try clear dc);(try clear hk);(try clear hi))|(refine gL 32 23 Tryz.func32 #[.int .u8 Cz] ?_;(with_reducible refine(bO.calls Cz true _ Qi.out).mono ?_);rintro e w' ⟨rfl,⟨nd,rfl⟩⟩;refine⟨_,rfl,?_⟩))
     go_ret
     exact⟨qG,qI,qB,qK⟩
    ·replace kr:=Bool.eq_false_iff.mpr kr
     subst kr
     have H1:((ay.f ah wD wE (wrap64 (a1+1))).bind fun jq=>(some (jq.1,jq.2.1,jq.2.2)))=some (r1,r2,r3):=by rw [if_neg (show ¬(false=true) by decide)] at H;exact H
     clear H
     have H:=H1
     clear H1
     replace H:=Option.bind_eq_some_iff.mp H
     obtain⟨⟨WH,WI,WJ⟩,sk,H⟩:=H
     replace H:(some (WH,WI,WJ))=some (r1,r2,r3):=H
     have Qj:=am sk
     clear sk
     simp only [Option.some.injEq,Prod.mk.injEq] at H
     obtain⟨rfl,rfl,rfl⟩:=H
     go_wp2_with (first|(refine gL 104 22 Tryz.func104 #[.pointer (some ⟨g,0,none⟩),.int .i64 (wrap64 (a1+1))] ?_;(with_reducible refine(aa.calls g ah Cy pk (wrap64 (a1+1)) Cz wD wE w0 _ ?side1 ?side2 Mv.out).mono ?_);(case side1=>exact qI);(case side2=>exact qB);rintro e M1 ⟨rfl,hi,hb,hk⟩;refine⟨_,rfl,?_⟩;have cR:=am (aw.trans qK hk (.inl rfl));have cM:=am (hb);have cY:=am (hi);clear HK;clear HB;clear aQ;have HK:=cR;have HB:=cM;have aQ:=cY;clear cR cM cY;(try clear hb);(try clear dc);(try clear hk);(try clear hi))|(refine gL 32 23 Tryz.func32 #[.int .u8 Cz] ?_;(with_reducible refine(bO.calls Cz false _ Qi.out).mono ?_);rintro e w' ⟨rfl,⟨nd,rfl⟩⟩;refine⟨_,rfl,?_⟩)|(go_at_call 135;(with_reducible refine(ay.calls g ah wD wE (wrap64 (a1+1)) WH WI WJ w0 _ ?side1 ?side2 Qj.out).mono ?_);(case side1=>exact qI);(case side2=>exact qB);rintro e Eo ⟨rfl,hi,hb,hk⟩;have cR:=am (aw.trans qK hk (.inl rfl));have cM:=am (hb);have cY:=am (hi);clear HK;clear HB;clear aQ;have HK:=cR;have HB:=cM;have aQ:=cY;clear cR cM cY;(try clear hb);(try clear dc);(try clear hk);(try clear hi)))
     go_ret
     exact⟨qG,qI,qB,qK⟩
 ·rw [if_neg c4] at H
  have eF:(pj==45)=false:=beq_eq_false_iff_ne.mpr c4
  have uq:(pj !=45)=true:=bne_iff_ne.mpr c4
  replace H:=Option.bind_eq_some_iff.mp H
  obtain⟨zg,WK,H⟩:=H
  replace H:(if zg=true then (some (true,rj,rk)) else ((ay.f ah rj rk a1).bind fun gK=>(some (gK.1,gK.2.1,gK.2.2))))=some (r1,r2,r3):=H
  have A18:=am WK
  clear WK
  by_cases EC:zg=true
  ·subst EC
   have H1:(some (true,rj,rk))=some (r1,r2,r3):=by rw [if_pos rfl] at H;exact H
   clear H
   have H:=H1
   clear H1
   simp only [Option.some.injEq,Prod.mk.injEq] at H
   obtain⟨rfl,rfl,rfl⟩:=H
   go_enter Tryz.func113,Tryz.ntmps113
   go_wp2_with (first|(refine gL 104 8 Tryz.func104 #[.pointer (some ⟨g,0,none⟩),.int .i64 a1] ?_;(with_reducible refine mK (aa.calls g ah bg bq a1 pj rj rk w0 _ qI qB A3.out) ?_);clear aQ HB HK;intro VU aQ HB HK;refine⟨_,rfl,?_⟩)|(refine gL 32 31 Tryz.func32 #[.int .u8 pj] ?_;(with_reducible refine(bO.calls pj true _ A18.out).mono ?_);rintro e w' ⟨rfl,⟨nd,rfl⟩⟩;refine⟨_,rfl,?_⟩))
   go_ret
   exact⟨qG,qI,qB,qK⟩
  ·replace EC:=Bool.eq_false_iff.mpr EC
   subst EC
   have H1:((ay.f ah rj rk a1).bind fun gK=>(some (gK.1,gK.2.1,gK.2.2)))=some (r1,r2,r3):=by rw [if_neg (show ¬(false=true) by decide)] at H;exact H
   clear H
   have H:=H1
   clear H1
   replace H:=Option.bind_eq_some_iff.mp H
   obtain⟨⟨WM,WN,WO⟩,I5,H⟩:=H
   replace H:(some (WM,WN,WO))=some (r1,r2,r3):=H
   have A21:=am I5
   clear I5
   simp only [Option.some.injEq,Prod.mk.injEq] at H
   obtain⟨rfl,rfl,rfl⟩:=H
   go_enter Tryz.func113,Tryz.ntmps113
   go_wp2_with (first|(refine gL 104 8 Tryz.func104 #[.pointer (some ⟨g,0,none⟩),.int .i64 a1] ?_;(with_reducible refine mK (aa.calls g ah bg bq a1 pj rj rk w0 _ qI qB A3.out) ?_);clear aQ HB HK;intro w22 aQ HB HK;refine⟨_,rfl,?_⟩)|(refine gL 32 31 Tryz.func32 #[.int .u8 pj] ?_;(with_reducible refine(bO.calls pj false _ A18.out).mono ?_);rintro e w' ⟨rfl,⟨nd,rfl⟩⟩;refine⟨_,rfl,?_⟩)|(go_at_call 135;(with_reducible refine mK (ay.calls g ah rj rk a1 WM WN WO w0 _ qI qB A21.out) ?_);clear aQ HB HK;intro w23 aQ HB HK))
   go_ret
   exact⟨qG,qI,qB,qK⟩
def aT.l0:Nat→List Int→Int→Bool→Option (Int×Bool)
 | 0,_,_,_=>none
 | k+1,x1000,x1001,x1002=>(aa.f x1000 x1001 x1002 0).bind fun zh=>((aW.f zh.1).bind fun Gn=>(if Gn=true then (aT.l0 k x1000 (wrap64 (zh.2.1+1)) zh.2.2) else (some (zh.2.1,zh.2.2))))
def aT.f (k:Nat) (ah:List Int) (bg:Int) (bq:Bool):Option (Int×Bool):=aT.l0 k ah bg bq
theorem aT.calls (k:Nat) (g:Nat) (ah:List Int) (bg:Int) (bq:Bool) (r1:Int) (r2:Bool) (w0 w:World) (hI:aD w0 w g ah bg bq) (hB:Below w0.heap.size w0 w) (h:aT.f k ah bg bq=some (r1,r2)):
  Calls Tryz.prog 138 #[.pointer (some ⟨g,0,none⟩)] w fun e w' =>e= .returned (.tuple #[])∧aD w0 w' g ah r1 r2∧Below w0.heap.size w0 w' ∧aw w w' g none:=by
 have aQ:=am hI
 have HK:=am (aw.refl w g none)
 have HL:=am hB.size
 clear hI
 have yX:=am hB.size
 have HB:=am hB
 clear hB
 have H:(aT.l0 k ah bg bq)=some (r1,r2):=h
 clear h
 have H':=am H
 clear H
 go_enter Tryz.func138,Tryz.ntmps138
 go_wp2
 go_loopg [] k (fun kq w' =>∃(aZ:Int) (a8:Bool),ak (aT.l0 kq ah aZ a8=some (r1,r2))∧ak (kq≤k)∧ak (aD w0 w' g ah aZ a8)∧ak (aw w w' g none)∧ak (Below w0.heap.size w0 w'))
 case atStart=>exact⟨(bg),(bq),H',⟨Nat.le_refl _⟩,⟨qI⟩,⟨qK⟩,⟨qB⟩⟩
 case round=>
  clear H'
  try clear c1
  obtain⟨aZ,a8,HA,dR,aQ,HK,HB⟩:=hrel
  cases gk with
  | zero=>exact absurd HA.out (by simp [aT.l0])
  | succ k1=>
   have H:=HA.out
   clear HA
   simp only [aT.l0] at H
   replace H:=Option.bind_eq_some_iff.mp H
   obtain⟨⟨CA,uu,uv⟩,mf,H⟩:=H
   replace H:((aW.f CA).bind fun Gn=>(if Gn=true then (aT.l0 k1 ah (wrap64 (uu+1)) uv) else (some (uu,uv))))=some (r1,r2):=H
   have A2:=am mf
   clear mf
   replace H:=Option.bind_eq_some_iff.mp H
   obtain⟨Gn,wy,H⟩:=H
   replace H:(if Gn=true then (aT.l0 k1 ah (wrap64 (uu+1)) uv) else (some (uu,uv)))=some (r1,r2):=H
   have A3:=am wy
   clear wy
   by_cases c4:Gn=true
   ·subst c4
    have H1:(aT.l0 k1 ah (wrap64 (uu+1)) uv)=some (r1,r2):=by rw [if_pos rfl] at H;exact H
    clear H
    have H:=H1
    clear H1
    have H':=am H
    clear H
    go_wp2_with (first|(refine gL 104 3 Tryz.func104 #[.pointer (some ⟨g,0,none⟩),.int .i64 0] ?_;(with_reducible refine mK (aa.calls g ah aZ a8 0 CA uu uv w0 _ qI qB A2.out) ?_);clear aQ HB HK;intro w5 aQ HB HK;refine⟨_,rfl,?_⟩)|(refine gL 137 4 Tryz.func137 #[.int .u8 CA] ?_;(with_reducible refine(aW.calls CA true _ A3.out).mono ?_);rintro e w' ⟨rfl,⟨nd,rfl⟩⟩;refine⟨_,rfl,?_⟩;(try(rw [dC w5];generalize gI:World.drewN w5 _=w5;have cR:ak (aD w0 w5 g ah uu uv):=⟨by rw [←gI];exact qI⟩;have cM:ak (aw w w5 g none):=⟨by rw [←gI];exact qK⟩;have cY:ak (Below w0.heap.size w0 w5):=⟨by rw [←gI];exact qB⟩;clear aQ HK HB gI;have aQ:=cR;have HK:=cM;have HB:=cY;clear cR cM cY));obtain⟨IQ,IS,kF,IT,IU⟩:=aQ.out;have IV:=aK kF;have IW:=aM kF;have IX:=aN kF;have IY:=ai kF 1;have IZ:=ai kF 2;clear kF IT))
    go_roundg k1
    case measure=>have:=dR.out;omega
    case rel=>exact⟨(wrap64 (uu+1)),(uv),H',⟨by have:=dR.out;omega⟩,⟨qI⟩,⟨qK⟩,⟨qB⟩⟩
   ·replace c4:=Bool.eq_false_iff.mpr c4
    subst c4
    have H1:(some (uu,uv))=some (r1,r2):=by rw [if_neg (show ¬(false=true) by decide)] at H;exact H
    clear H
    have H:=H1
    clear H1
    simp only [Option.some.injEq,Prod.mk.injEq] at H
    obtain⟨rfl,rfl⟩:=H
    go_wp2_with (first|(refine gL 104 3 Tryz.func104 #[.pointer (some ⟨g,0,none⟩),.int .i64 0] ?_;(with_reducible refine mK (aa.calls g ah aZ a8 0 CA uu uv w0 _ qI qB A2.out) ?_);clear aQ HB HK;intro w7 aQ HB HK;refine⟨_,rfl,?_⟩)|(refine gL 137 4 Tryz.func137 #[.int .u8 CA] ?_;(with_reducible refine(aW.calls CA false _ A3.out).mono ?_);rintro e w' ⟨rfl,⟨nd,rfl⟩⟩;refine⟨_,rfl,?_⟩))
    first|go_end0|((try simp only [Exit.inBlock,Exit.then]);refine bodyPost_ret (results_none rfl _ _ _) rfl ?_)
    exact⟨qG,qI,qB,qK⟩
def bK.f (a0:Int):Option (Bool):=(bO.f a0).bind fun Gp=>(if Gp=true then (some true) else ((aW.f a0).bind fun uw=>(if uw=true then (some true) else (some (a0==45)))))
theorem bK.calls (a0:Int) (r:Bool) (w:World) (h:bK.f a0=some r):
  Calls Tryz.prog 142 #[.int .u8 a0] w fun e w' =>e= .returned (.bool r)∧cS w w':=by
 have H:((bO.f a0).bind fun Gp=>(if Gp=true then (some true) else ((aW.f a0).bind fun uw=>(if uw=true then (some true) else (some (a0==45))))))=some r:=h
 clear h
 replace H:=Option.bind_eq_some_iff.mp H
 obtain⟨Gp,mf,H⟩:=H
 replace H:(if Gp=true then (some true) else ((aW.f a0).bind fun uw=>(if uw=true then (some true) else (some (a0==45)))))=some r:=H
 have A2:=am mf
 clear mf
 by_cases c3:Gp=true
 ·subst c3
  have H1:(some true)=some r:=by rw [if_pos rfl] at H;exact H
  clear H
  have H:=H1
  clear H1
  obtain rfl:=Option.some.inj H
  go_enter Tryz.func142,Tryz.ntmps142
  go_wp2_with (first|(refine gL 32 4 Tryz.func32 #[.int .u8 a0] ?_;(with_reducible refine(bO.calls a0 true _ A2.out).mono ?_);rintro e w' ⟨rfl,⟨nd,rfl⟩⟩;refine⟨_,rfl,?_⟩))
  go_ret
  exact⟨qF,qE⟩
 ·replace c3:=Bool.eq_false_iff.mpr c3
  subst c3
  have H1:((aW.f a0).bind fun uw=>(if uw=true then (some true) else (some (a0==45))))=some r:=by rw [if_neg (show ¬(false=true) by decide)] at H;exact H
  clear H
  have H:=H1
  clear H1
  replace H:=Option.bind_eq_some_iff.mp H
  obtain⟨uw,Qk,H⟩:=H
  replace H:(if uw=true then (some true) else (some (a0==45)))=some r:=H
  have A4:=am Qk
  clear Qk
  by_cases c5:uw=true
  ·subst c5
   have H1:(some true)=some r:=by rw [if_pos rfl] at H;exact H
   clear H
   have H:=H1
   clear H1
   obtain rfl:=Option.some.inj H
   go_enter Tryz.func142,Tryz.ntmps142
   go_wp2_with (first|(refine gL 32 4 Tryz.func32 #[.int .u8 a0] ?_;(with_reducible refine(bO.calls a0 false _ A2.out).mono ?_);rintro e w' ⟨rfl,⟨nd,rfl⟩⟩;refine⟨_,rfl,?_⟩)|(go_at_call 137;(with_reducible refine(aW.calls a0 true _ A4.out).mono ?_);rintro e w' ⟨rfl,⟨nd,rfl⟩⟩))
   go_ret
   exact⟨qF,qE⟩
  ·replace c5:=Bool.eq_false_iff.mpr c5
   subst c5
   have H1:(some (a0==45))=some r:=by rw [if_neg (show ¬(false=true) by decide)] at H;exact H
   clear H
   have H:=H1
   clear H1
   obtain rfl:=Option.some.inj H
   go_enter Tryz.func142,Tryz.ntmps142
   go_wp2_with (first|(refine gL 32 4 Tryz.func32 #[.int .u8 a0] ?_;(with_reducible refine(bO.calls a0 false _ A2.out).mono ?_);rintro e w' ⟨rfl,⟨nd,rfl⟩⟩;refine⟨_,rfl,?_⟩)|(go_at_call 137;(with_reducible refine(aW.calls a0 false _ A4.out).mono ?_);rintro e w' ⟨rfl,⟨nd,rfl⟩⟩))
   go_ret
   exact⟨qF,qE⟩
end Go.Proofs.YtlglijnaeaonpaaGreatDoor.bG
end
