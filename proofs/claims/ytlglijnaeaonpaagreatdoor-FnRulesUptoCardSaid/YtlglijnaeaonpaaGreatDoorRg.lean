/- FnRules: a part of the proof (Rg); in it lines that print.sh printed, those that are used. -/
import Derived.Test.YtlglijnaeaonpaaGreatDoorRa
import Derived.Test.YtlglijnaeaonpaaGreatDoorRc
section
set_option maxHeartbeats 8000000
set_option maxRecDepth 100000
set_option linter.unusedVariables false
set_option linter.unusedSimpArgs false
namespace Go.Proofs.YtlglijnaeaonpaaGreatDoor.bG
open Go.RowKit Go.Proofs.YtlglijnaeaonpaaGreatDoorW.aC Go.Proofs.YtlglijnaeaonpaaGreatDoorW.dQ Go.Proofs.YtlglijnaeaonpaaGreatDoorW.eR
attribute [local go_sem] fZ ga iu iv fk fl gd gg
def dY.f (a0:Int):Option (Int):=if a0≥65 then (if a0≤90 then (some ((((a0+97) % 256) - 65) % 256)) else (some a0)) else (some a0)
theorem dY.calls (a0:Int) (r:Int) (w:World) (h:dY.f a0=some r):
  Calls Tryz.prog 154 #[.int .u8 a0] w fun e w' =>e= .returned (.int .u8 r)∧cS w w':=by
 have H:(if a0≥65 then (if a0≤90 then (some ((((a0+97) % 256) - 65) % 256)) else (some a0)) else (some a0))=some r:=h
 clear h
 by_cases c2:a0≥65
 ·rw [if_pos c2] at H
  have oc:decide (65≤a0)=true:=decide_eq_true c2
  clear c2
  by_cases c3:a0≤90
  ·rw [if_pos c3] at H
   have jZ:decide (a0≤90)=true:=decide_eq_true c3
   clear c3
   obtain rfl:=Option.some.inj H
   go_enter Tryz.func154,Tryz.ntmps154
   go_wp2
   go_ret
   exact⟨qF,qE⟩
  ·rw [if_neg c3] at H
   have jZ:decide (a0≤90)=false:=decide_eq_false c3
   clear c3
   obtain rfl:=Option.some.inj H
   go_enter Tryz.func154,Tryz.ntmps154
   go_wp2
   go_ret
   exact⟨qF,qE⟩
 ·rw [if_neg c2] at H
  have oc:decide (65≤a0)=false:=decide_eq_false c2
  clear c2
  obtain rfl:=Option.some.inj H
  go_enter Tryz.func154,Tryz.ntmps154
  go_wp2
  go_ret
  exact⟨qF,qE⟩
def bx.l0:Nat→List Int→List Int→Int→Int→Option (Bool)
 | 0,_,_,_,_=>none
 | k+1,x1,x12,x13,x14=>if x14<x13 then (if 0≤x14 then (if x14<(x12.length:Int) then ((dY.f (rd x12 x14)).bind fun pz=>(if x14<(x1.length:Int) then (if pz=(rd x1 x14) then (bx.l0 k x1 x12 x13 (wrap64 (x14+1))) else (some false)) else (none))) else (none)) else (none)) else (some true)
def bx.f (k:Nat) (l0:List Int) (l1:List Int):Option (Bool):=if (l0.length:Int)=(l1.length:Int) then (bx.l0 k l1 l0 (l0.length:Int) 0) else (some false)
theorem bx.calls (k:Nat) (A0:Option Addr) (c0:Nat) (l0:List Int) (A1:Option Addr) (c1:Nat) (l1:List Int) (r:Bool) (w:World) (mE:Kd.C (Kd.int .u8) w A0 l0.length l0) (gh:l0.length≤c0) (wo:Kd.C (Kd.int .u8) w A1 l1.length l1) (oe:l1.length≤c1) (h:bx.f k l0 l1=some r):
  Calls Tryz.prog 140 #[.slice A0 l0.length c0,.slice A1 l1.length c1] w fun e w' =>e= .returned (.bool r)∧cS w w':=by
 have lM:=am mE
 have Xz:=am gh
 clear mE gh
 have qu:=am wo
 have HC1:=am oe
 clear wo oe
 have H:(if (l0.length:Int)=(l1.length:Int) then (bx.l0 k l1 l0 (l0.length:Int) 0) else (some false))=some r:=h
 clear h
 by_cases c3:(l0.length:Int)=(l1.length:Int)
 ·rw [if_pos c3] at H
  have jZ:((l0.length:Int)==(l1.length:Int))=true:=beq_iff_eq.mpr c3
  have wu:((l0.length:Int) !=(l1.length:Int))=false:=bne_eq_false_iff_eq.mpr c3
  have XJ:(l0.length==l1.length)=true:=by first|simpa using c3|(simp at c3⊢;omega)
  clear c3
  have H':=am H
  clear H
  go_enter Tryz.func140,Tryz.ntmps140
  go_wp2
  repeat(go_quiet (fail);try go_wp2)
  go_loopg [14] k (fun kq W9 w' =>∃(cx:Int),W9= .int .i64 cx∧ak (bx.l0 kq l1 l0 (l0.length:Int) cx=some r)∧ak (kq≤k)∧cS w w')
  case atStart=>exact⟨(0),qF,H',⟨Nat.le_refl _⟩,qE⟩
  case round=>
   clear H'
   try clear c1
   try clear p2
   try clear c3
   try clear jZ
   try clear wu
   try clear XJ
   obtain⟨cx,rfl,HA,dR,⟨m1,rfl⟩⟩:=hrel
   cases gk with
   | zero=>exact absurd HA.out (by simp [bx.l0])
   | succ k1=>
    have H:=HA.out
    clear HA
    simp only [bx.l0] at H
    by_cases c4:cx<(l0.length:Int)
    ·rw [if_pos c4] at H
     have eF:decide (cx<(l0.length:Int))=true:=decide_eq_true c4
     clear c4
     by_cases c5:0≤cx
     ·rw [if_pos c5] at H
      have df:decide (0≤cx)=true:=decide_eq_true c5
      clear c5
      by_cases c6:cx<(l0.length:Int)
      ·rw [if_pos c6] at H
       have sj:decide (cx<(l0.length:Int))=true:=decide_eq_true c6
       clear c6
       replace H:=Option.bind_eq_some_iff.mp H
       obtain⟨pz,WD,H⟩:=H
       replace H:(if cx<(l1.length:Int) then (if pz=(rd l1 cx) then (bx.l0 k1 l1 l0 (l0.length:Int) (wrap64 (cx+1))) else (some false)) else (none))=some r:=H
       have A7:=am WD
       clear WD
       by_cases c8:cx<(l1.length:Int)
       ·rw [if_pos c8] at H
        have Cv:decide (cx<(l1.length:Int))=true:=decide_eq_true c8
        clear c8
        by_cases c9:pz=(rd l1 cx)
        ·rw [if_pos c9] at H
         have pn:(pz==(rd l1 cx))=true:=beq_iff_eq.mpr c9
         have ur:(pz !=(rd l1 cx))=false:=bne_eq_false_iff_eq.mpr c9
         clear c9
         have H':=am H
         clear H
         have CR:0≤(cx:Int):=of_decide_eq_true qH
         have CS:cx<(l0.length:Int):=of_decide_eq_true qH
         obtain⟨XK,Th,NP⟩:=Kd.cK lM.out cx CR CS
         cases Th
         replace CR:=eq_true CR
         replace CS:=eq_true CS
         go_wp2_with (first|(go_at_call 154;(with_reducible refine(dY.calls (rd l0 cx) pz _ A7.out).mono ?_);rintro e w' ⟨rfl,⟨nd,rfl⟩⟩;(try first|exact⟨rfl,_,World.drewN_drewN _ _ _⟩|exact⟨rfl,_,Eq.trans (World.drewN_drewN _ _ _) (congrArg (World.drewN _) (Nat.add_assoc _ _ _))⟩);have jx:0≤(cx:Int):=of_decide_eq_true qH;have jy:cx<(l1.length:Int):=of_decide_eq_true qH;obtain⟨zF,sM,pA⟩:=Kd.cK qu.out cx jx jy;cases sM;replace jx:=eq_true jx;replace jy:=eq_true jy))
         repeat(go_quiet (first|(go_at_call 154;(with_reducible refine(dY.calls (rd l0 cx) pz _ A7.out).mono ?_);rintro e w' ⟨rfl,⟨nd,rfl⟩⟩;(try first|exact⟨rfl,_,World.drewN_drewN _ _ _⟩|exact⟨rfl,_,Eq.trans (World.drewN_drewN _ _ _) (congrArg (World.drewN _) (Nat.add_assoc _ _ _))⟩);have jx:0≤(cx:Int):=of_decide_eq_true qH;have jy:cx<(l1.length:Int):=of_decide_eq_true qH;obtain⟨zF,sM,pA⟩:=Kd.cK qu.out cx jx jy;cases sM;replace jx:=eq_true jx;replace jy:=eq_true jy));try go_wp2_with (first|(go_at_call 154;(with_reducible refine(dY.calls (rd l0 cx) pz _ A7.out).mono ?_);rintro e w' ⟨rfl,⟨nd,rfl⟩⟩;(try first|exact⟨rfl,_,World.drewN_drewN _ _ _⟩|exact⟨rfl,_,Eq.trans (World.drewN_drewN _ _ _) (congrArg (World.drewN _) (Nat.add_assoc _ _ _))⟩);have jx:0≤(cx:Int):=of_decide_eq_true qH;have jy:cx<(l1.length:Int):=of_decide_eq_true qH;obtain⟨zF,sM,pA⟩:=Kd.cK qu.out cx jx jy;cases sM;replace jx:=eq_true jx;replace jy:=eq_true jy)))
         go_roundg k1
         case measure=>have:=dR.out;omega
         case rel=>exact⟨(wrap64 (cx+1)),qF,H',⟨by have:=dR.out;omega⟩,qE⟩
        ·rw [if_neg c9] at H
         have pn:(pz==(rd l1 cx))=false:=beq_eq_false_iff_ne.mpr c9
         have ur:(pz !=(rd l1 cx))=true:=bne_iff_ne.mpr c9
         obtain rfl:=Option.some.inj H
         have CR:0≤(cx:Int):=of_decide_eq_true qH
         have CS:cx<(l0.length:Int):=of_decide_eq_true qH
         obtain⟨XK,Th,NP⟩:=Kd.cK lM.out cx CR CS
         cases Th
         replace CR:=eq_true CR
         replace CS:=eq_true CS
         go_wp2_with (first|(go_at_call 154;(with_reducible refine(dY.calls (rd l0 cx) pz _ A7.out).mono ?_);rintro e w' ⟨rfl,⟨nd,rfl⟩⟩;(try first|exact⟨rfl,_,World.drewN_drewN _ _ _⟩|exact⟨rfl,_,Eq.trans (World.drewN_drewN _ _ _) (congrArg (World.drewN _) (Nat.add_assoc _ _ _))⟩);have jx:0≤(cx:Int):=of_decide_eq_true qH;have jy:cx<(l1.length:Int):=of_decide_eq_true qH;obtain⟨zF,sM,pA⟩:=Kd.cK qu.out cx jx jy;cases sM;replace jx:=eq_true jx;replace jy:=eq_true jy))
         repeat(go_quiet (first|(go_at_call 154;(with_reducible refine(dY.calls (rd l0 cx) pz _ A7.out).mono ?_);rintro e w' ⟨rfl,⟨nd,rfl⟩⟩;(try first|exact⟨rfl,_,World.drewN_drewN _ _ _⟩|exact⟨rfl,_,Eq.trans (World.drewN_drewN _ _ _) (congrArg (World.drewN _) (Nat.add_assoc _ _ _))⟩);have jx:0≤(cx:Int):=of_decide_eq_true qH;have jy:cx<(l1.length:Int):=of_decide_eq_true qH;obtain⟨zF,sM,pA⟩:=Kd.cK qu.out cx jx jy;cases sM;replace jx:=eq_true jx;replace jy:=eq_true jy));try go_wp2_with (first|(go_at_call 154;(with_reducible refine(dY.calls (rd l0 cx) pz _ A7.out).mono ?_);rintro e w' ⟨rfl,⟨nd,rfl⟩⟩;(try first|exact⟨rfl,_,World.drewN_drewN _ _ _⟩|exact⟨rfl,_,Eq.trans (World.drewN_drewN _ _ _) (congrArg (World.drewN _) (Nat.add_assoc _ _ _))⟩);have jx:0≤(cx:Int):=of_decide_eq_true qH;have jy:cx<(l1.length:Int):=of_decide_eq_true qH;obtain⟨zF,sM,pA⟩:=Kd.cK qu.out cx jx jy;cases sM;replace jx:=eq_true jx;replace jy:=eq_true jy)))
         go_ret
         exact⟨qF,qE⟩
       ·rw [if_neg c8] at H
        exact absurd H (by simp)
      ·rw [if_neg c6] at H
       exact absurd H (by simp)
     ·rw [if_neg c5] at H
      exact absurd H (by simp)
    ·rw [if_neg c4] at H
     have eF:decide (cx<(l0.length:Int))=false:=decide_eq_false c4
     clear c4
     obtain rfl:=Option.some.inj H
     go_wp2
     repeat(go_quiet (fail);try go_wp2)
     go_ret
     exact⟨qF,qE⟩
 ·rw [if_neg c3] at H
  have jZ:((l0.length:Int)==(l1.length:Int))=false:=beq_eq_false_iff_ne.mpr c3
  have wu:((l0.length:Int) !=(l1.length:Int))=true:=bne_iff_ne.mpr c3
  have XJ:(l0.length==l1.length)=false:=by first|simpa using c3|(simp at c3⊢;omega)
  obtain rfl:=Option.some.inj H
  go_enter Tryz.func140,Tryz.ntmps140
  go_wp2
  repeat(go_quiet (fail);try go_wp2)
  go_ret
  exact⟨qF,qE⟩
def ba.f (ah:List Int) (bg:Int) (bq:Bool):Option (ByteArray×Int×Bool):=some ((⟨#[98,97,100,32,117,114,108]⟩:ByteArray),bg,true)
theorem ba.calls (g:Nat) (ah:List Int) (bg:Int) (bq:Bool) (r1:ByteArray) (r2:Int) (r3:Bool) (w0 w:World) (hI:aD w0 w g ah bg bq) (hB:Below w0.heap.size w0 w) (h:ba.f ah bg bq=some (r1,r2,r3)):
  Calls Tryz.prog 155 #[.pointer (some ⟨g,0,none⟩)] w fun e w' =>e= .returned (.string r1)∧aD w0 w' g ah r2 r3∧Below w0.heap.size w0 w' ∧aw w w' g none:=by
 have aQ:=am hI
 have HK:=am (aw.refl w g none)
 have HL:=am hB.size
 clear hI
 have yX:=am hB.size
 have HB:=am hB
 clear hB
 have H:(some ((⟨#[98,97,100,32,117,114,108]⟩:ByteArray),bg,true))=some (r1,r2,r3):=h
 clear h
 simp only [Option.some.injEq,Prod.mk.injEq] at H
 obtain⟨rfl,rfl,rfl⟩:=H
 obtain⟨IF,IG,ky,II,IJ⟩:=aQ.out
 have Ci:=aK ky
 have Cj:=aM ky
 have Ck:=aN ky
 have Cl:=ai ky 1
 have Cn:=ai ky 2
 clear ky II
 go_enter Tryz.func155,Tryz.ntmps155
 go_wp2
 go_ret
 exact⟨qG,qI,qB,qK⟩
def cH.f (a0:Int):Option (Bool):=if a0≤8 then (some true) else (if a0=11 then (some true) else (if a0≥14 then (if a0≤31 then (some true) else (some (a0==127))) else (some (a0==127))))
theorem cH.calls (a0:Int) (r:Bool) (w:World) (h:cH.f a0=some r):
  Calls Tryz.prog 156 #[.int .u8 a0] w fun e w' =>e= .returned (.bool r)∧cS w w':=by
 have H:(if a0≤8 then (some true) else (if a0=11 then (some true) else (if a0≥14 then (if a0≤31 then (some true) else (some (a0==127))) else (some (a0==127)))))=some r:=h
 clear h
 by_cases c2:a0≤8
 ·rw [if_pos c2] at H
  have oc:decide (a0≤8)=true:=decide_eq_true c2
  clear c2
  obtain rfl:=Option.some.inj H
  go_enter Tryz.func156,Tryz.ntmps156
  go_wp2
  go_ret
  exact⟨qF,qE⟩
 ·rw [if_neg c2] at H
  have oc:decide (a0≤8)=false:=decide_eq_false c2
  clear c2
  by_cases c3:a0=11
  ·rw [if_pos c3] at H
   have jZ:(a0==11)=true:=beq_iff_eq.mpr c3
   have wu:(a0 !=11)=false:=bne_eq_false_iff_eq.mpr c3
   clear c3
   obtain rfl:=Option.some.inj H
   go_enter Tryz.func156,Tryz.ntmps156
   go_wp2
   go_ret
   exact⟨qF,qE⟩
  ·rw [if_neg c3] at H
   have jZ:(a0==11)=false:=beq_eq_false_iff_ne.mpr c3
   have wu:(a0 !=11)=true:=bne_iff_ne.mpr c3
   by_cases c4:a0≥14
   ·rw [if_pos c4] at H
    have eF:decide (14≤a0)=true:=decide_eq_true c4
    clear c4
    by_cases c5:a0≤31
    ·rw [if_pos c5] at H
     have df:decide (a0≤31)=true:=decide_eq_true c5
     clear c5
     obtain rfl:=Option.some.inj H
     go_enter Tryz.func156,Tryz.ntmps156
     go_wp2
     go_ret
     exact⟨qF,qE⟩
    ·rw [if_neg c5] at H
     have df:decide (a0≤31)=false:=decide_eq_false c5
     clear c5
     obtain rfl:=Option.some.inj H
     go_enter Tryz.func156,Tryz.ntmps156
     go_wp2
     go_ret
     exact⟨qF,qE⟩
   ·rw [if_neg c4] at H
    have eF:decide (14≤a0)=false:=decide_eq_false c4
    clear c4
    obtain rfl:=Option.some.inj H
    go_enter Tryz.func156,Tryz.ntmps156
    go_wp2
    go_ret
    exact⟨qF,qE⟩
mutual
def an.l0:Nat→List Int→Int→Bool→Option (ByteArray×Int×Bool)
 | 0,_,_,_=>none
 | k+1,x1000,x1001,x1002=>(aV.f x1000 x1001 x1002).bind fun E8=>(if E8.1=true then (some ((⟨#[117,114,108]⟩:ByteArray),E8.2.1,true)) else ((aa.f x1000 E8.2.1 E8.2.2 0).bind fun bM=>(if bM.1=41 then (some ((⟨#[117,114,108]⟩:ByteArray),wrap64 (bM.2.1+1),bM.2.2)) else ((bJ.f bM.1).bind fun uI=>(if uI=true then ((aH.f k x1000 bM.2.1 bM.2.2).bind fun iL=>((aa.f x1000 iL.1 iL.2 0).bind fun cU=>(if cU.1=41 then (some ((⟨#[117,114,108]⟩:ByteArray),wrap64 (cU.2.1+1),cU.2.2)) else ((ba.f x1000 cU.2.1 cU.2.2).bind fun dZ=>(some (dZ.1,dZ.2.1,dZ.2.2)))))) else (if bM.1=34 then (an.j1 k bM.1 true x1000 bM.2.1 bM.2.2) else (if bM.1=39 then (an.j1 k bM.1 true x1000 bM.2.1 bM.2.2) else (if bM.1=40 then (an.j1 k bM.1 true x1000 bM.2.1 bM.2.2) else ((cH.f bM.1).bind fun oL=>(an.j1 k bM.1 oL x1000 bM.2.1 bM.2.2))))))))))
def an.j1:Nat→Int→Bool→List Int→Int→Bool→Option (ByteArray×Int×Bool)
 | 0,_,_,_,_,_=>none
 | k+1,x3,x45,x1000,x1001,x1002=>if x45=true then ((ba.f x1000 x1001 x1002).bind fun sN=>(some (sN.1,sN.2.1,sN.2.2))) else (if x3=92 then ((ay.f x1000 x1001 x1002 0).bind fun mZ=>(if mZ.1=true then ((aj.f k x1000 mZ.2.1 mZ.2.2).bind fun m0=>(an.l0 k x1000 m0.1 m0.2)) else ((ba.f x1000 mZ.2.1 mZ.2.2).bind fun jz=>(some (jz.1,jz.2.1,jz.2.2))))) else (an.l0 k x1000 (wrap64 (x1001+1)) x1002))
end
def an.f (k:Nat) (ah:List Int) (bg:Int) (bq:Bool):Option (ByteArray×Int×Bool):=(aH.f k ah bg bq).bind fun zG=>(an.l0 k ah zG.1 zG.2)
theorem an.calls (k:Nat) (g:Nat) (ah:List Int) (bg:Int) (bq:Bool) (r1:ByteArray) (r2:Int) (r3:Bool) (w0 w:World) (hI:aD w0 w g ah bg bq) (hB:Below w0.heap.size w0 w) (h:an.f k ah bg bq=some (r1,r2,r3)):
  Calls Tryz.prog 141 #[.pointer (some ⟨g,0,none⟩)] w fun e w' =>e= .returned (.string r1)∧aD w0 w' g ah r2 r3∧Below w0.heap.size w0 w' ∧aw w w' g none:=by
 have aQ:=am hI
 have HK:=am (aw.refl w g none)
 have HL:=am hB.size
 clear hI
 have yX:=am hB.size
 have HB:=am hB
 clear hB
 have H:((aH.f k ah bg bq).bind fun zG=>(an.l0 k ah zG.1 zG.2))=some (r1,r2,r3):=h
 clear h
 replace H:=Option.bind_eq_some_iff.mp H
 obtain⟨⟨Ti,Tj⟩,mf,H⟩:=H
 replace H:(an.l0 k ah Ti Tj)=some (r1,r2,r3):=H
 have A2:=am mf
 clear mf
 have H':=am H
 clear H
 go_enter Tryz.func141,Tryz.ntmps141
 go_wp2_with (first|(refine gL 106 5 Tryz.func106 #[.pointer (some ⟨g,0,none⟩)] ?_;(with_reducible refine mK (aH.calls k g ah bg bq Ti Tj w0 _ qI qB A2.out) ?_);clear aQ HB HK;intro w3 aQ HB HK;refine⟨_,rfl,?_⟩))
 go_simp
 go_loopg [] k (fun kq w' =>∃(aZ:Int) (a8:Bool),ak (an.l0 kq ah aZ a8=some (r1,r2,r3))∧ak (kq≤k)∧ak (aD w0 w' g ah aZ a8)∧ak (aw w w' g none)∧ak (Below w0.heap.size w0 w'))
 case atStart=>exact⟨(Ti),(Tj),H',⟨Nat.le_refl _⟩,⟨qI⟩,⟨qK⟩,⟨qB⟩⟩
 case round=>
  clear H'
  try clear c1
  try clear p2
  obtain⟨aZ,a8,HA,dR,aQ,HK,HB⟩:=hrel
  cases gk with
  | zero=>exact absurd HA.out (by simp [an.l0])
  | succ k1=>
   have H:=HA.out
   clear HA
   simp only [an.l0] at H
   replace H:=Option.bind_eq_some_iff.mp H
   obtain⟨⟨XL,qv,sO⟩,Qk,H⟩:=H
   replace H:(if XL=true then (some ((⟨#[117,114,108]⟩:ByteArray),qv,true)) else ((aa.f ah qv sO 0).bind fun bM=>(if bM.1=41 then (some ((⟨#[117,114,108]⟩:ByteArray),wrap64 (bM.2.1+1),bM.2.2)) else ((bJ.f bM.1).bind fun uI=>(if uI=true then ((aH.f k1 ah bM.2.1 bM.2.2).bind fun iL=>((aa.f ah iL.1 iL.2 0).bind fun cU=>(if cU.1=41 then (some ((⟨#[117,114,108]⟩:ByteArray),wrap64 (cU.2.1+1),cU.2.2)) else ((ba.f ah cU.2.1 cU.2.2).bind fun dZ=>(some (dZ.1,dZ.2.1,dZ.2.2)))))) else (if bM.1=34 then (an.j1 k1 bM.1 true ah bM.2.1 bM.2.2) else (if bM.1=39 then (an.j1 k1 bM.1 true ah bM.2.1 bM.2.2) else (if bM.1=40 then (an.j1 k1 bM.1 true ah bM.2.1 bM.2.2) else ((cH.f bM.1).bind fun oL=>(an.j1 k1 bM.1 oL ah bM.2.1 bM.2.2))))))))))=some (r1,r2,r3):=H
   have A4:=am Qk
   clear Qk
   by_cases c5:XL=true
   ·subst c5
    have H1:(some ((⟨#[117,114,108]⟩:ByteArray),qv,true))=some (r1,r2,r3):=by rw [if_pos rfl] at H;exact H
    clear H
    have H:=H1
    clear H1
    simp only [Option.some.injEq,Prod.mk.injEq] at H
    obtain⟨rfl,rfl,rfl⟩:=H
    go_wp2_with (first|(refine gL 67 7 Tryz.func67 #[.pointer (some ⟨g,0,none⟩)] ?_;(with_reducible refine mK (aV.calls g ah aZ a8 true qv sO w0 _ qI qB A4.out) ?_);clear aQ HB HK;intro w6 aQ HB HK;refine⟨_,rfl,?_⟩;obtain⟨wz,wA,fM,wB,wC⟩:=aQ.out;have ly:=aK fM;have lz:=aM fM;have lA:=aN fM;have lB:=ai fM 1;have lC:=ai fM 2;clear fM wB))
    go_ret
    exact⟨qG,qI,qB,qK⟩
   ·replace c5:=Bool.eq_false_iff.mpr c5
    subst c5
    have H1:((aa.f ah qv sO 0).bind fun bM=>(if bM.1=41 then (some ((⟨#[117,114,108]⟩:ByteArray),wrap64 (bM.2.1+1),bM.2.2)) else ((bJ.f bM.1).bind fun uI=>(if uI=true then ((aH.f k1 ah bM.2.1 bM.2.2).bind fun iL=>((aa.f ah iL.1 iL.2 0).bind fun cU=>(if cU.1=41 then (some ((⟨#[117,114,108]⟩:ByteArray),wrap64 (cU.2.1+1),cU.2.2)) else ((ba.f ah cU.2.1 cU.2.2).bind fun dZ=>(some (dZ.1,dZ.2.1,dZ.2.2)))))) else (if bM.1=34 then (an.j1 k1 bM.1 true ah bM.2.1 bM.2.2) else (if bM.1=39 then (an.j1 k1 bM.1 true ah bM.2.1 bM.2.2) else (if bM.1=40 then (an.j1 k1 bM.1 true ah bM.2.1 bM.2.2) else ((cH.f bM.1).bind fun oL=>(an.j1 k1 bM.1 oL ah bM.2.1 bM.2.2)))))))))=some (r1,r2,r3):=by rw [if_neg (show ¬(false=true) by decide)] at H;exact H
    clear H
    have H:=H1
    clear H1
    replace H:=Option.bind_eq_some_iff.mp H
    obtain⟨⟨cO,fR,fS⟩,Ed,H⟩:=H
    replace H:(if cO=41 then (some ((⟨#[117,114,108]⟩:ByteArray),wrap64 (fR+1),fS)) else ((bJ.f cO).bind fun uI=>(if uI=true then ((aH.f k1 ah fR fS).bind fun iL=>((aa.f ah iL.1 iL.2 0).bind fun cU=>(if cU.1=41 then (some ((⟨#[117,114,108]⟩:ByteArray),wrap64 (cU.2.1+1),cU.2.2)) else ((ba.f ah cU.2.1 cU.2.2).bind fun dZ=>(some (dZ.1,dZ.2.1,dZ.2.2)))))) else (if cO=34 then (an.j1 k1 cO true ah fR fS) else (if cO=39 then (an.j1 k1 cO true ah fR fS) else (if cO=40 then (an.j1 k1 cO true ah fR fS) else ((cH.f cO).bind fun oL=>(an.j1 k1 cO oL ah fR fS))))))))=some (r1,r2,r3):=H
    have A8:=am Ed
    clear Ed
    by_cases c9:cO=41
    ·rw [if_pos c9] at H
     have pn:(cO==41)=true:=beq_iff_eq.mpr c9
     have ur:(cO !=41)=false:=bne_eq_false_iff_eq.mpr c9
     clear c9
     simp only [Option.some.injEq,Prod.mk.injEq] at H
     obtain⟨rfl,rfl,rfl⟩:=H
     go_wp2_with (first|(refine gL 67 7 Tryz.func67 #[.pointer (some ⟨g,0,none⟩)] ?_;(with_reducible refine mK (aV.calls g ah aZ a8 false qv sO w0 _ qI qB A4.out) ?_);clear aQ HB HK;intro Qg aQ HB HK;refine⟨_,rfl,?_⟩)|(refine gL 104 10 Tryz.func104 #[.pointer (some ⟨g,0,none⟩),.int .i64 0] ?_;(with_reducible refine mK (aa.calls g ah qv sO 0 cO fR fS w0 _ qI qB A8.out) ?_);clear aQ HB HK;intro VT aQ HB HK;refine⟨_,rfl,?_⟩;obtain⟨NQ,NR,kT,Jr,NS⟩:=aQ.out;have nO:=aK kT;have nP:=aM kT;have nQ:=aN kT;have nR:=ai kT 1;have nS:=ai kT 2;clear kT Jr))
     go_ret
     exact⟨qG,qI,qB,qK⟩
    ·rw [if_neg c9] at H
     have pn:(cO==41)=false:=beq_eq_false_iff_ne.mpr c9
     have ur:(cO !=41)=true:=bne_iff_ne.mpr c9
     replace H:=Option.bind_eq_some_iff.mp H
     obtain⟨uI,zo,H⟩:=H
     replace H:(if uI=true then ((aH.f k1 ah fR fS).bind fun iL=>((aa.f ah iL.1 iL.2 0).bind fun cU=>(if cU.1=41 then (some ((⟨#[117,114,108]⟩:ByteArray),wrap64 (cU.2.1+1),cU.2.2)) else ((ba.f ah cU.2.1 cU.2.2).bind fun dZ=>(some (dZ.1,dZ.2.1,dZ.2.2)))))) else (if cO=34 then (an.j1 k1 cO true ah fR fS) else (if cO=39 then (an.j1 k1 cO true ah fR fS) else (if cO=40 then (an.j1 k1 cO true ah fR fS) else ((cH.f cO).bind fun oL=>(an.j1 k1 cO oL ah fR fS))))))=some (r1,r2,r3):=H
     have Qo:=am zo
     clear zo
     by_cases mi:uI=true
     ·subst mi
      have H1:((aH.f k1 ah fR fS).bind fun iL=>((aa.f ah iL.1 iL.2 0).bind fun cU=>(if cU.1=41 then (some ((⟨#[117,114,108]⟩:ByteArray),wrap64 (cU.2.1+1),cU.2.2)) else ((ba.f ah cU.2.1 cU.2.2).bind fun dZ=>(some (dZ.1,dZ.2.1,dZ.2.2))))))=some (r1,r2,r3):=by rw [if_pos rfl] at H;exact H
      clear H
      have H:=H1
      clear H1
      replace H:=Option.bind_eq_some_iff.mp H
      obtain⟨⟨Js,Jt⟩,sk,H⟩:=H
      replace H:((aa.f ah Js Jt 0).bind fun cU=>(if cU.1=41 then (some ((⟨#[117,114,108]⟩:ByteArray),wrap64 (cU.2.1+1),cU.2.2)) else ((ba.f ah cU.2.1 cU.2.2).bind fun dZ=>(some (dZ.1,dZ.2.1,dZ.2.2)))))=some (r1,r2,r3):=H
      have Qj:=am sk
      clear sk
      replace H:=Option.bind_eq_some_iff.mp H
      obtain⟨⟨zH,Ju,Jv⟩,Jw,H⟩:=H
      replace H:(if zH=41 then (some ((⟨#[117,114,108]⟩:ByteArray),wrap64 (Ju+1),Jv)) else ((ba.f ah Ju Jv).bind fun dZ=>(some (dZ.1,dZ.2.1,dZ.2.2))))=some (r1,r2,r3):=H
      have A16:=am Jw
      clear Jw
      by_cases Qs:zH=41
      ·rw [if_pos Qs] at H
       have Qt:(zH==41)=true:=beq_iff_eq.mpr Qs
       have Qu:(zH !=41)=false:=bne_eq_false_iff_eq.mpr Qs
       clear Qs
       simp only [Option.some.injEq,Prod.mk.injEq] at H
       obtain⟨rfl,rfl,rfl⟩:=H
       go_wp2_with (first|(refine gL 67 7 Tryz.func67 #[.pointer (some ⟨g,0,none⟩)] ?_;(with_reducible refine mK (aV.calls g ah aZ a8 false qv sO w0 _ qI qB A4.out) ?_);clear aQ HB HK;intro w18 aQ HB HK;refine⟨_,rfl,?_⟩)|(refine gL 104 10 Tryz.func104 #[.pointer (some ⟨g,0,none⟩),.int .i64 0] ?_;(with_reducible refine mK (aa.calls g ah qv sO 0 cO fR fS w0 _ qI qB A8.out) ?_);clear aQ HB HK;intro M6 aQ HB HK;refine⟨_,rfl,?_⟩)|(refine gL 105 30 Tryz.func105 #[.int .u8 cO] ?_;(with_reducible refine(bJ.calls cO true _ Qo.out).mono ?_);rintro e w' ⟨rfl,⟨nd,rfl⟩⟩;refine⟨_,rfl,?_⟩;(try(rw [dC M6];generalize gI:World.drewN M6 _=M6;have cR:ak (aD w0 M6 g ah fR fS):=⟨by rw [←gI];exact qI⟩;have cM:ak (aw w M6 g none):=⟨by rw [←gI];exact qK⟩;have cY:ak (Below w0.heap.size w0 M6):=⟨by rw [←gI];exact qB⟩;clear aQ HK HB gI;have aQ:=cR;have HK:=cM;have HB:=cY;clear cR cM cY)))|(refine gL 106 32 Tryz.func106 #[.pointer (some ⟨g,0,none⟩)] ?_;(with_reducible refine mK (aH.calls k1 g ah fR fS Js Jt w0 _ qI qB Qj.out) ?_);clear aQ HB HK;intro VU aQ HB HK;refine⟨_,rfl,?_⟩)|(refine gL 104 34 Tryz.func104 #[.pointer (some ⟨g,0,none⟩),.int .i64 0] ?_;(with_reducible refine mK (aa.calls g ah Js Jt 0 zH Ju Jv w0 _ qI qB A16.out) ?_);clear aQ HB HK;intro w21 aQ HB HK;refine⟨_,rfl,?_⟩;obtain⟨Nq,Nr,kN,Je,Ns⟩:=aQ.out;have lG:=aK kN;have lH:=aM kN;have lI:=aN kN;have lJ:=ai kN 1;have lK:=ai kN 2;clear kN Je))
       go_ret
       exact⟨qG,qI,qB,qK⟩
      ·rw [if_neg Qs] at H
       have Qt:(zH==41)=false:=beq_eq_false_iff_ne.mpr Qs
       have Qu:(zH !=41)=true:=bne_iff_ne.mpr Qs
       replace H:=Option.bind_eq_some_iff.mp H
       obtain⟨⟨XM,XN,XO⟩,sm,H⟩:=H
       replace H:(some (XM,XN,XO))=some (r1,r2,r3):=H
       have I6:=am sm
       clear sm
       simp only [Option.some.injEq,Prod.mk.injEq] at H
       obtain⟨rfl,rfl,rfl⟩:=H
       go_wp2_with (first|(refine gL 67 7 Tryz.func67 #[.pointer (some ⟨g,0,none⟩)] ?_;(with_reducible refine mK (aV.calls g ah aZ a8 false qv sO w0 _ qI qB A4.out) ?_);clear aQ HB HK;intro w24 aQ HB HK;refine⟨_,rfl,?_⟩)|(refine gL 104 10 Tryz.func104 #[.pointer (some ⟨g,0,none⟩),.int .i64 0] ?_;(with_reducible refine mK (aa.calls g ah qv sO 0 cO fR fS w0 _ qI qB A8.out) ?_);clear aQ HB HK;intro Na aQ HB HK;refine⟨_,rfl,?_⟩)|(refine gL 105 30 Tryz.func105 #[.int .u8 cO] ?_;(with_reducible refine(bJ.calls cO true _ Qo.out).mono ?_);rintro e w' ⟨rfl,⟨nd,rfl⟩⟩;refine⟨_,rfl,?_⟩)|(refine gL 106 32 Tryz.func106 #[.pointer (some ⟨g,0,none⟩)] ?_;(with_reducible refine mK (aH.calls k1 g ah fR fS Js Jt w0 _ qI qB Qj.out) ?_);clear aQ HB HK;intro w26 aQ HB HK;refine⟨_,rfl,?_⟩)|(refine gL 104 34 Tryz.func104 #[.pointer (some ⟨g,0,none⟩),.int .i64 0] ?_;(with_reducible refine mK (aa.calls g ah Js Jt 0 zH Ju Jv w0 _ qI qB A16.out) ?_);clear aQ HB HK;intro w27 aQ HB HK;refine⟨_,rfl,?_⟩)|(refine gL 155 44 Tryz.func155 #[.pointer (some ⟨g,0,none⟩)] ?_;(with_reducible refine mK (ba.calls g ah Ju Jv XM XN XO w0 _ qI qB I6.out) ?_);clear aQ HB HK;intro w28 aQ HB HK;refine⟨_,rfl,?_⟩))
       go_ret
       exact⟨qG,qI,qB,qK⟩
     ·replace mi:=Bool.eq_false_iff.mpr mi
      subst mi
      have H1:(if cO=34 then (an.j1 k1 cO true ah fR fS) else (if cO=39 then (an.j1 k1 cO true ah fR fS) else (if cO=40 then (an.j1 k1 cO true ah fR fS) else ((cH.f cO).bind fun oL=>(an.j1 k1 cO oL ah fR fS)))))=some (r1,r2,r3):=by rw [if_neg (show ¬(false=true) by decide)] at H;exact H
      clear H
      have H:=H1
      clear H1
      have CD:=am H
      clear H
      go_upto_region 14 with (first|(refine gL 67 7 Tryz.func67 #[.pointer (some ⟨g,0,none⟩)] ?_;(with_reducible refine mK (aV.calls g ah aZ a8 false qv sO w0 _ qI qB A4.out) ?_);clear aQ HB HK;intro w30 aQ HB HK;refine⟨_,rfl,?_⟩)|(refine gL 104 10 Tryz.func104 #[.pointer (some ⟨g,0,none⟩),.int .i64 0] ?_;(with_reducible refine mK (aa.calls g ah qv sO 0 cO fR fS w0 _ qI qB A8.out) ?_);clear aQ HB HK;intro w31 aQ HB HK;refine⟨_,rfl,?_⟩)|(refine gL 105 30 Tryz.func105 #[.int .u8 cO] ?_;(with_reducible refine(bJ.calls cO false _ Qo.out).mono ?_);rintro e w' ⟨rfl,⟨nd,rfl⟩⟩;refine⟨_,rfl,?_⟩))
      (try simp only [Act.put,List.setIfInBounds_toArray,List.set_cons_zero,List.set_cons_succ])
      go_cut [45] (fun v45 wc=>∃(kq:Nat) (xm:Bool),v45= .bool xm∧ak (an.j1 kq cO xm ah fR fS=some (r1,r2,r3))∧ak (kq≤k1)∧ak (aD w0 wc g ah fR fS)∧ak (aw w wc g none)∧ak (Below w0.heap.size w0 wc))
      case first=>
       have H:=CD.out
       clear CD
       by_cases vC:cO=34
       ·rw [if_pos vC] at H
        have oy:(cO==34)=true:=beq_iff_eq.mpr vC
        have vD:(cO !=34)=false:=bne_eq_false_iff_eq.mpr vC
        clear vC
        (first|rw [oy]|(simp only [cB,cJ];rw [oy])|skip)
        have H':=am H
        clear H
        go_wp2
        go_meet
        case rel=>exact⟨_,(true),qF,H',⟨by have:=dR.out;first|omega|exact Nat.le_refl _⟩,⟨qI⟩,⟨qK⟩,⟨qB⟩⟩
       ·rw [if_neg vC] at H
        have oy:(cO==34)=false:=beq_eq_false_iff_ne.mpr vC
        have vD:(cO !=34)=true:=bne_iff_ne.mpr vC
        (first|rw [oy]|(simp only [cB,cJ];rw [oy])|skip)
        by_cases ru:cO=39
        ·rw [if_pos ru] at H
         have mS:(cO==39)=true:=beq_iff_eq.mpr ru
         have sy:(cO !=39)=false:=bne_eq_false_iff_eq.mpr ru
         clear ru
         have H':=am H
         clear H
         go_wp2
         go_meet
         case rel=>exact⟨_,(true),qF,H',⟨by have:=dR.out;first|omega|exact Nat.le_refl _⟩,⟨qI⟩,⟨qK⟩,⟨qB⟩⟩
        ·rw [if_neg ru] at H
         have mS:(cO==39)=false:=beq_eq_false_iff_ne.mpr ru
         have sy:(cO !=39)=true:=bne_iff_ne.mpr ru
         by_cases Gr:cO=40
         ·rw [if_pos Gr] at H
          have Qv:(cO==40)=true:=beq_iff_eq.mpr Gr
          have Qw:(cO !=40)=false:=bne_eq_false_iff_eq.mpr Gr
          clear Gr
          have H':=am H
          clear H
          go_wp2
          go_meet
          case rel=>exact⟨_,(true),qF,H',⟨by have:=dR.out;first|omega|exact Nat.le_refl _⟩,⟨qI⟩,⟨qK⟩,⟨qB⟩⟩
         ·rw [if_neg Gr] at H
          have Qv:(cO==40)=false:=beq_eq_false_iff_ne.mpr Gr
          have Qw:(cO !=40)=true:=bne_iff_ne.mpr Gr
          replace H:=Option.bind_eq_some_iff.mp H
          obtain⟨oL,Jc,H⟩:=H
          replace H:(an.j1 k1 cO oL ah fR fS)=some (r1,r2,r3):=H
          have A35:=am Jc
          clear Jc
          have H':=am H
          clear H
          go_wp2_with (first|(go_at_call 156;(with_reducible refine(cH.calls cO oL _ A35.out).mono ?_);rintro e w' ⟨rfl,⟨nd,rfl⟩⟩))
          go_meet
          case rel=>exact⟨_,(oL),qF,H',⟨by have:=dR.out;first|omega|exact Nat.le_refl _⟩,⟨qI⟩,⟨qK⟩,⟨qB⟩⟩
      case rest=>
       clear CD
       try clear c1
       try clear p2
       try clear c3
       try clear c5
       try clear c6
       try clear p6
       try clear c9
       try clear pn
       try clear ur
       try clear eZ
       try clear mi
       try clear ox
       try clear Qs
       try clear Qt
       try clear Qu
       try clear vC
       try clear oy
       try clear vD
       try clear ru
       try clear mS
       try clear sy
       try clear Gr
       try clear Qv
       try clear Qw
       try clear nO
       try clear nP
       try clear nQ
       try clear lG
       try clear lH
       try clear lI
       try clear ly
       try clear lz
       try clear lA
       try clear nR
       try clear nS
       try clear lJ
       try clear lK
       try clear lB
       try clear lC
       try clear p2
       obtain⟨kq,xm,rfl,HA,I8,aQ,HK,HB⟩:=hcut
       cases kq with
       | zero=>exact absurd HA.out (by simp [an.j1])
       | succ rm=>
        have H:=HA.out
        clear HA
        simp only [an.j1] at H
        by_cases V5:xm=true
        ·subst V5
         have H1:((ba.f ah fR fS).bind fun sN=>(some (sN.1,sN.2.1,sN.2.2)))=some (r1,r2,r3):=by rw [if_pos rfl] at H;exact H
         clear H
         have H:=H1
         clear H1
         replace H:=Option.bind_eq_some_iff.mp H
         obtain⟨⟨XP,XQ,XR⟩,Jf,H⟩:=H
         replace H:(some (XP,XQ,XR))=some (r1,r2,r3):=H
         have A37:=am Jf
         clear Jf
         simp only [Option.some.injEq,Prod.mk.injEq] at H
         obtain⟨rfl,rfl,rfl⟩:=H
         go_wp2_with (first|(refine gL 155 61 Tryz.func155 #[.pointer (some ⟨g,0,none⟩)] ?_;(with_reducible refine mK (ba.calls g ah fR fS XP XQ XR w0 _ qI qB A37.out) ?_);clear aQ HB HK;intro w38 aQ HB HK;refine⟨_,rfl,?_⟩))
         go_ret
         exact⟨qG,qI,qB,qK⟩
        ·replace V5:=Bool.eq_false_iff.mpr V5
         subst V5
         have H1:(if cO=92 then ((ay.f ah fR fS 0).bind fun mZ=>(if mZ.1=true then ((aj.f rm ah mZ.2.1 mZ.2.2).bind fun m0=>(an.l0 rm ah m0.1 m0.2)) else ((ba.f ah mZ.2.1 mZ.2.2).bind fun jz=>(some (jz.1,jz.2.1,jz.2.2))))) else (an.l0 rm ah (wrap64 (fR+1)) fS))=some (r1,r2,r3):=by rw [if_neg (show ¬(false=true) by decide)] at H;exact H
         clear H
         have H:=H1
         clear H1
         by_cases Tl:cO=92
         ·rw [if_pos Tl] at H
          have XS:(cO==92)=true:=beq_iff_eq.mpr Tl
          have XT:(cO !=92)=false:=bne_eq_false_iff_eq.mpr Tl
          clear Tl
          replace H:=Option.bind_eq_some_iff.mp H
          obtain⟨⟨XU,zI,zJ⟩,XV,H⟩:=H
          replace H:(if XU=true then ((aj.f rm ah zI zJ).bind fun m0=>(an.l0 rm ah m0.1 m0.2)) else ((ba.f ah zI zJ).bind fun jz=>(some (jz.1,jz.2.1,jz.2.2))))=some (r1,r2,r3):=H
          have Qk:=am XV
          clear XV
          by_cases Fb:XU=true
          ·subst Fb
           have H1:((aj.f rm ah zI zJ).bind fun m0=>(an.l0 rm ah m0.1 m0.2))=some (r1,r2,r3):=by rw [if_pos rfl] at H;exact H
           clear H
           have H:=H1
           clear H1
           replace H:=Option.bind_eq_some_iff.mp H
           obtain⟨⟨Tm,Tn⟩,Jx,H⟩:=H
           replace H:(an.l0 rm ah Tm Tn)=some (r1,r2,r3):=H
           have A42:=am Jx
           clear Jx
           have H':=am H
           clear H
           go_wp2_with (first|(refine gL 135 66 Tryz.func135 #[.pointer (some ⟨g,0,none⟩),.int .i64 0] ?_;(with_reducible refine mK (ay.calls g ah fR fS 0 true zI zJ w0 _ qI qB Qk.out) ?_);clear aQ HB HK;intro w43 aQ HB HK;refine⟨_,rfl,?_⟩)|(refine gL 136 71 Tryz.func136 #[.pointer (some ⟨g,0,none⟩)] ?_;(with_reducible refine mK (aj.calls rm g ah zI zJ Tm Tn w0 _ qI qB A42.out) ?_);clear aQ HB HK;intro w44 aQ HB HK;refine⟨_,rfl,?_⟩))
           go_roundg rm
           case measure=>have:=dR.out;have:=I8.out;omega
           case rel=>exact⟨(Tm),(Tn),H',⟨by have:=dR.out;have:=I8.out;omega⟩,⟨qI⟩,⟨qK⟩,⟨qB⟩⟩
          ·replace Fb:=Bool.eq_false_iff.mpr Fb
           subst Fb
           have H1:((ba.f ah zI zJ).bind fun jz=>(some (jz.1,jz.2.1,jz.2.2)))=some (r1,r2,r3):=by rw [if_neg (show ¬(false=true) by decide)] at H;exact H
           clear H
           have H:=H1
           clear H1
           replace H:=Option.bind_eq_some_iff.mp H
           obtain⟨⟨XW,XX,XY⟩,XZ,H⟩:=H
           replace H:(some (XW,XX,XY))=some (r1,r2,r3):=H
           have A45:=am XZ
           clear XZ
           simp only [Option.some.injEq,Prod.mk.injEq] at H
           obtain⟨rfl,rfl,rfl⟩:=H
           go_wp2_with (first|(refine gL 135 66 Tryz.func135 #[.pointer (some ⟨g,0,none⟩),.int .i64 0] ?_;(with_reducible refine mK (ay.calls g ah fR fS 0 false zI zJ w0 _ qI qB Qk.out) ?_);clear aQ HB HK;intro w46 aQ HB HK;refine⟨_,rfl,?_⟩)|(refine gL 155 69 Tryz.func155 #[.pointer (some ⟨g,0,none⟩)] ?_;(with_reducible refine mK (ba.calls g ah zI zJ XW XX XY w0 _ qI qB A45.out) ?_);clear aQ HB HK;intro w47 aQ HB HK;refine⟨_,rfl,?_⟩))
           go_ret
           exact⟨qG,qI,qB,qK⟩
         ·rw [if_neg Tl] at H
          have XS:(cO==92)=false:=beq_eq_false_iff_ne.mpr Tl
          have XT:(cO !=92)=true:=bne_iff_ne.mpr Tl
          have H':=am H
          clear H
          obtain⟨adk,adl,vE,X0,adm⟩:=aQ.out
          have adn:=aK vE
          have ado:=aM vE
          have adp:=aN vE
          have adq:=ai vE 1
          have adr:=ai vE 2
          clear vE X0
          go_wp2
          go_roundg rm
          case measure=>have:=dR.out;have:=I8.out;omega
          case rel=>exact⟨(wrap64 (fR+1)),(fS),H',⟨by have:=dR.out;have:=I8.out;omega⟩,⟨qI⟩,⟨qK⟩,⟨qB⟩⟩
def bU.f (ah:List Int) (bg:Int) (bq:Bool) (a1:ByteArray):Option (ByteArray×Int×Bool):=some (a1,wrap64 (bg+2),bq)
theorem bU.calls (g:Nat) (ah:List Int) (bg:Int) (bq:Bool) (a1:ByteArray) (r1:ByteArray) (r2:Int) (r3:Bool) (w0 w:World) (hI:aD w0 w g ah bg bq) (hB:Below w0.heap.size w0 w) (h:bU.f ah bg bq a1=some (r1,r2,r3)):
  Calls Tryz.prog 143 #[.pointer (some ⟨g,0,none⟩),.string a1] w fun e w' =>e= .returned (.string r1)∧aD w0 w' g ah r2 r3∧Below w0.heap.size w0 w' ∧aw w w' g none:=by
 have aQ:=am hI
 have HK:=am (aw.refl w g none)
 have HL:=am hB.size
 clear hI
 have yX:=am hB.size
 have HB:=am hB
 clear hB
 have H:(some (a1,wrap64 (bg+2),bq))=some (r1,r2,r3):=h
 clear h
 simp only [Option.some.injEq,Prod.mk.injEq] at H
 obtain⟨rfl,rfl,rfl⟩:=H
 obtain⟨Ji,Jj,kQ,Jk,Jl⟩:=aQ.out
 have js:=aK kQ
 have jt:=aM kQ
 have ju:=aN kQ
 have jv:=ai kQ 1
 have jw:=ai kQ 2
 clear kQ Jk
 go_enter Tryz.func143,Tryz.ntmps143
 go_wp2
 go_ret
 exact⟨qG,qI,qB,qK⟩
def bF.f (ah:List Int) (bg:Int) (bq:Bool) (a1:ByteArray):Option (ByteArray×Int×Bool):=some (a1,wrap64 (bg+1),bq)
theorem bF.calls (g:Nat) (ah:List Int) (bg:Int) (bq:Bool) (a1:ByteArray) (r1:ByteArray) (r2:Int) (r3:Bool) (w0 w:World) (hI:aD w0 w g ah bg bq) (hB:Below w0.heap.size w0 w) (h:bF.f ah bg bq a1=some (r1,r2,r3)):
  Calls Tryz.prog 144 #[.pointer (some ⟨g,0,none⟩),.string a1] w fun e w' =>e= .returned (.string r1)∧aD w0 w' g ah r2 r3∧Below w0.heap.size w0 w' ∧aw w w' g none:=by
 have aQ:=am hI
 have HK:=am (aw.refl w g none)
 have HL:=am hB.size
 clear hI
 have yX:=am hB.size
 have HB:=am hB
 clear hB
 have H:(some (a1,wrap64 (bg+1),bq))=some (r1,r2,r3):=h
 clear h
 simp only [Option.some.injEq,Prod.mk.injEq] at H
 obtain⟨rfl,rfl,rfl⟩:=H
 obtain⟨Ji,Jj,kQ,Jk,Jl⟩:=aQ.out
 have js:=aK kQ
 have jt:=aM kQ
 have ju:=aN kQ
 have jv:=ai kQ 1
 have jw:=ai kQ 2
 clear kQ Jk
 go_enter Tryz.func144,Tryz.ntmps144
 go_wp2
 go_ret
 exact⟨qG,qI,qB,qK⟩
end Go.Proofs.YtlglijnaeaonpaaGreatDoor.bG
end
