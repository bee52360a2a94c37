/- FnRules: a part of the proof (Rf); in it lines that print.sh printed, those that are used. -/
import Derived.Test.YtlglijnaeaonpaaGreatDoorRa
section
set_option maxHeartbeats 8000000
set_option maxRecDepth 100000
set_option linter.unusedVariables false
set_option linter.unusedSimpArgs false
namespace Go.Proofs.YtlglijnaeaonpaaGreatDoor.bG
open Go.RowKit Go.Proofs.YtlglijnaeaonpaaGreatDoorW.aC Go.Proofs.YtlglijnaeaonpaaGreatDoorW.dQ Go.Proofs.YtlglijnaeaonpaaGreatDoorW.eR
attribute [local go_sem] fZ ga iu iv fk fl gd gg
def lL.f (a0:ByteArray):Option (Bool):=if a0.toList=([101,110,100]:List UInt8) then (some true) else (some (a0.toList==([101,110,100,32,97,116]:List UInt8)))
theorem lL.calls (a0:ByteArray) (r:Bool) (w:World) (h:lL.f a0=some r):
  Calls Tryz.prog 26 #[.string a0] w fun e w' =>e= .returned (.bool r)∧cS w w':=by
 have H:(if a0.toList=([101,110,100]:List UInt8) then (some true) else (some (a0.toList==([101,110,100,32,97,116]:List UInt8))))=some r:=h
 clear h
 by_cases c2:a0.toList=([101,110,100]:List UInt8)
 ·rw [if_pos c2] at H
  have oc:(a0.toList==([101,110,100]:List UInt8))=true:=beq_iff_eq.mpr c2
  have Gk:(a0.toList !=([101,110,100]:List UInt8))=false:=bne_eq_false_iff_eq.mpr c2
  clear c2
  obtain rfl:=Option.some.inj H
  go_enter Tryz.func26,Tryz.ntmps26
  go_wp2
  go_ret
  exact⟨qF,qE⟩
 ·rw [if_neg c2] at H
  have oc:(a0.toList==([101,110,100]:List UInt8))=false:=beq_eq_false_iff_ne.mpr c2
  have Gk:(a0.toList !=([101,110,100]:List UInt8))=true:=bne_iff_ne.mpr c2
  obtain rfl:=Option.some.inj H
  go_enter Tryz.func26,Tryz.ntmps26
  go_wp2
  go_ret
  exact⟨qF,qE⟩
def cD.l0:Nat→Int→List Int→Int→Int→Option (Bool)
 | 0,_,_,_,_=>none
 | k+1,x1,x7,x8,x9=>if x9<x8 then (if 0≤x9 then (if x9<(x7.length:Int) then (if (rd x7 x9)=x1 then (some true) else (cD.l0 k x1 x7 x8 (wrap64 (x9+1)))) else (none)) else (none)) else (some false)
def cD.f (k:Nat) (l0:List Int) (a1:Int):Option (Bool):=cD.l0 k a1 l0 (l0.length:Int) 0
theorem cD.calls (k:Nat) (A0:Option Addr) (c0:Nat) (l0:List Int) (a1:Int) (r:Bool) (w:World) (mE:Kd.C (Kd.int .u8) w A0 l0.length l0) (gh:l0.length≤c0) (h:cD.f k l0 a1=some r):
  Calls Tryz.prog 53 #[.slice A0 l0.length c0,.int .u8 a1] w fun e w' =>e= .returned (.bool r)∧cS w w':=by
 have lM:=am mE
 have Xz:=am gh
 clear mE gh
 have H:(cD.l0 k a1 l0 (l0.length:Int) 0)=some r:=h
 clear h
 have H':=am H
 clear H
 go_enter Tryz.func53,Tryz.ntmps53
 go_wp2
 go_loopg [9] k (fun kq v9 w' =>∃(aI:Int),v9= .int .i64 aI∧ak (cD.l0 kq a1 l0 (l0.length:Int) aI=some r)∧ak (kq≤k)∧cS w w')
 case atStart=>exact⟨(0),qF,H',⟨Nat.le_refl _⟩,qE⟩
 case round=>
  clear H'
  try clear p2
  obtain⟨aI,rfl,HA,dR,⟨m1,rfl⟩⟩:=hrel
  cases gk with
  | zero=>exact absurd HA.out (by simp [cD.l0])
  | succ k1=>
   have H:=HA.out
   clear HA
   simp only [cD.l0] at H
   by_cases c3:aI<(l0.length:Int)
   ·rw [if_pos c3] at H
    have jZ:decide (aI<(l0.length:Int))=true:=decide_eq_true c3
    clear c3
    by_cases c4:0≤aI
    ·rw [if_pos c4] at H
     have eF:decide (0≤aI)=true:=decide_eq_true c4
     clear c4
     by_cases c5:aI<(l0.length:Int)
     ·rw [if_pos c5] at H
      have df:decide (aI<(l0.length:Int))=true:=decide_eq_true c5
      clear c5
      by_cases c6:(rd l0 aI)=a1
      ·rw [if_pos c6] at H
       have sj:((rd l0 aI)==a1)=true:=beq_iff_eq.mpr c6
       have XA:((rd l0 aI) !=a1)=false:=bne_eq_false_iff_eq.mpr c6
       clear c6
       obtain rfl:=Option.some.inj H
       have CP:0≤(aI:Int):=of_decide_eq_true qH
       have CQ:aI<(l0.length:Int):=of_decide_eq_true qH
       obtain⟨XB,SX,NN⟩:=Kd.cK lM.out aI CP CQ
       cases SX
       replace CP:=eq_true CP
       replace CQ:=eq_true CQ
       go_wp2
       go_ret
       exact⟨qF,qE⟩
      ·rw [if_neg c6] at H
       have sj:((rd l0 aI)==a1)=false:=beq_eq_false_iff_ne.mpr c6
       have XA:((rd l0 aI) !=a1)=true:=bne_iff_ne.mpr c6
       have H':=am H
       clear H
       have CP:0≤(aI:Int):=of_decide_eq_true qH
       have CQ:aI<(l0.length:Int):=of_decide_eq_true qH
       obtain⟨XB,SX,NN⟩:=Kd.cK lM.out aI CP CQ
       cases SX
       replace CP:=eq_true CP
       replace CQ:=eq_true CQ
       go_wp2
       go_roundg k1
       case measure=>have:=dR.out;omega
       case rel=>exact⟨(wrap64 (aI+1)),qF,H',⟨by have:=dR.out;omega⟩,qE⟩
     ·rw [if_neg c5] at H
      exact absurd H (by simp)
    ·rw [if_neg c4] at H
     exact absurd H (by simp)
   ·rw [if_neg c3] at H
    have jZ:decide (aI<(l0.length:Int))=false:=decide_eq_false c3
    clear c3
    obtain rfl:=Option.some.inj H
    go_wp2
    go_ret
    exact⟨qF,qE⟩
def fF.f (l0:List Int):Option (Int):=if 0<(l0.length:Int) then (if 1<(l0.length:Int) then (if 2<(l0.length:Int) then (if 3<(l0.length:Int) then (if 4<(l0.length:Int) then (if 5<(l0.length:Int) then (if 6<(l0.length:Int) then (if 7<(l0.length:Int) then (some (Go.bits .or .u64 (Go.bits .or .u64 (Go.bits .or .u64 (Go.bits .or .u64 (Go.bits .or .u64 (Go.bits .or .u64 (Go.bits .or .u64 (IntKind.u64.wrap (rd l0 0)) (IntKind.u64.wrap ((IntKind.u64.wrap (rd l0 1))*256))) (IntKind.u64.wrap ((IntKind.u64.wrap (rd l0 2))*65536))) (IntKind.u64.wrap ((IntKind.u64.wrap (rd l0 3))*16777216))) (IntKind.u64.wrap ((IntKind.u64.wrap (rd l0 4))*4294967296))) (IntKind.u64.wrap ((IntKind.u64.wrap (rd l0 5))*1099511627776))) (IntKind.u64.wrap ((IntKind.u64.wrap (rd l0 6))*281474976710656))) (IntKind.u64.wrap ((IntKind.u64.wrap (rd l0 7))*72057594037927936)))) else (none)) else (none)) else (none)) else (none)) else (none)) else (none)) else (none)) else (none)
theorem fF.calls (A0:Option Addr) (c0:Nat) (l0:List Int) (r:Int) (w:World) (mE:Kd.C (Kd.int .u8) w A0 l0.length l0) (gh:l0.length≤c0) (h:fF.f l0=some r):
  Calls Tryz.prog 133 #[.slice A0 l0.length c0] w fun e w' =>e= .returned (.int .u64 r)∧cS w w':=by
 have lM:=am mE
 have Xz:=am gh
 clear mE gh
 have H:(if 0<(l0.length:Int) then (if 1<(l0.length:Int) then (if 2<(l0.length:Int) then (if 3<(l0.length:Int) then (if 4<(l0.length:Int) then (if 5<(l0.length:Int) then (if 6<(l0.length:Int) then (if 7<(l0.length:Int) then (some (Go.bits .or .u64 (Go.bits .or .u64 (Go.bits .or .u64 (Go.bits .or .u64 (Go.bits .or .u64 (Go.bits .or .u64 (Go.bits .or .u64 (IntKind.u64.wrap (rd l0 0)) (IntKind.u64.wrap ((IntKind.u64.wrap (rd l0 1))*256))) (IntKind.u64.wrap ((IntKind.u64.wrap (rd l0 2))*65536))) (IntKind.u64.wrap ((IntKind.u64.wrap (rd l0 3))*16777216))) (IntKind.u64.wrap ((IntKind.u64.wrap (rd l0 4))*4294967296))) (IntKind.u64.wrap ((IntKind.u64.wrap (rd l0 5))*1099511627776))) (IntKind.u64.wrap ((IntKind.u64.wrap (rd l0 6))*281474976710656))) (IntKind.u64.wrap ((IntKind.u64.wrap (rd l0 7))*72057594037927936)))) else (none)) else (none)) else (none)) else (none)) else (none)) else (none)) else (none)) else (none))=some r:=h
 clear h
 by_cases c2:0<(l0.length:Int)
 ·rw [if_pos c2] at H
  have oc:decide (0<(l0.length:Int))=true:=decide_eq_true c2
  have Gk:decide (0<l0.length)=true:=decide_eq_true (by omega)
  clear c2
  by_cases c3:1<(l0.length:Int)
  ·rw [if_pos c3] at H
   have jZ:decide (1<(l0.length:Int))=true:=decide_eq_true c3
   have wu:decide (1<l0.length)=true:=decide_eq_true (by omega)
   clear c3
   by_cases c4:2<(l0.length:Int)
   ·rw [if_pos c4] at H
    have eF:decide (2<(l0.length:Int))=true:=decide_eq_true c4
    have uq:decide (2<l0.length)=true:=decide_eq_true (by omega)
    clear c4
    by_cases c5:3<(l0.length:Int)
    ·rw [if_pos c5] at H
     have df:decide (3<(l0.length:Int))=true:=decide_eq_true c5
     have iX:decide (3<l0.length)=true:=decide_eq_true (by omega)
     clear c5
     by_cases c6:4<(l0.length:Int)
     ·rw [if_pos c6] at H
      have sj:decide (4<(l0.length:Int))=true:=decide_eq_true c6
      have XA:decide (4<l0.length)=true:=decide_eq_true (by omega)
      clear c6
      by_cases c7:5<(l0.length:Int)
      ·rw [if_pos c7] at H
       have mF:decide (5<(l0.length:Int))=true:=decide_eq_true c7
       have NO:decide (5<l0.length)=true:=decide_eq_true (by omega)
       clear c7
       by_cases c8:6<(l0.length:Int)
       ·rw [if_pos c8] at H
        have Cv:decide (6<(l0.length:Int))=true:=decide_eq_true c8
        have M0:decide (6<l0.length)=true:=decide_eq_true (by omega)
        clear c8
        by_cases c9:7<(l0.length:Int)
        ·rw [if_pos c9] at H
         have pn:decide (7<(l0.length:Int))=true:=decide_eq_true c9
         have ur:decide (7<l0.length)=true:=decide_eq_true (by omega)
         clear c9
         obtain rfl:=Option.some.inj H
         have SY:0≤(0:Int):=(by omega)
         have SZ:0<(l0.length:Int):=of_decide_eq_true qH
         obtain⟨sL,aex,E0⟩:=Kd.cK lM.out 0 SY SZ
         cases aex
         have agu:(0<l0.length)=True:=eq_true (by omega)
         (try rw [show ((0:Int)).toNat=0 from rfl] at E0)
         (try rw [Addr.add_zero'] at E0)
         replace SY:=eq_true SY
         replace SZ:=eq_true SZ
         have S0:0≤(1:Int):=(by omega)
         have S3:1<(l0.length:Int):=of_decide_eq_true qH
         obtain⟨XC,aey,E1⟩:=Kd.cK lM.out 1 S0 S3
         obtain rfl:sL=XC:=(by injection aey)
         (try simp only [show (1:Int).toNat=1 from rfl,Nat.reduceMul,Nat.reduceEqDiff,Go.Addr.add,↓reduceIte] at E1)
         have agv:(1<l0.length)=True:=eq_true (by omega)
         (try rw [show ((1:Int)).toNat=1 from rfl] at E1)
         replace S0:=eq_true S0
         replace S3:=eq_true S3
         have S4:0≤(2:Int):=(by omega)
         have S5:2<(l0.length:Int):=of_decide_eq_true qH
         obtain⟨XD,aez,E2⟩:=Kd.cK lM.out 2 S4 S5
         obtain rfl:sL=XD:=(by injection aez)
         (try simp only [show (2:Int).toNat=2 from rfl,Nat.reduceMul,Nat.reduceEqDiff,Go.Addr.add,↓reduceIte] at E2)
         have agw:(2<l0.length)=True:=eq_true (by omega)
         (try rw [show ((2:Int)).toNat=2 from rfl] at E2)
         replace S4:=eq_true S4
         replace S5:=eq_true S5
         have S6:0≤(3:Int):=(by omega)
         have S7:3<(l0.length:Int):=of_decide_eq_true qH
         obtain⟨XE,aeA,E3⟩:=Kd.cK lM.out 3 S6 S7
         obtain rfl:sL=XE:=(by injection aeA)
         (try simp only [show (3:Int).toNat=3 from rfl,Nat.reduceMul,Nat.reduceEqDiff,Go.Addr.add,↓reduceIte] at E3)
         have agx:(3<l0.length)=True:=eq_true (by omega)
         (try rw [show ((3:Int)).toNat=3 from rfl] at E3)
         replace S6:=eq_true S6
         replace S7:=eq_true S7
         have S8:0≤(4:Int):=(by omega)
         have S9:4<(l0.length:Int):=of_decide_eq_true qH
         obtain⟨XF,aeB,E4⟩:=Kd.cK lM.out 4 S8 S9
         obtain rfl:sL=XF:=(by injection aeB)
         (try simp only [show (4:Int).toNat=4 from rfl,Nat.reduceMul,Nat.reduceEqDiff,Go.Addr.add,↓reduceIte] at E4)
         have agy:(4<l0.length)=True:=eq_true (by omega)
         (try rw [show ((4:Int)).toNat=4 from rfl] at E4)
         replace S8:=eq_true S8
         replace S9:=eq_true S9
         have Ta:0≤(5:Int):=(by omega)
         have Tc:5<(l0.length:Int):=of_decide_eq_true qH
         obtain⟨XG,aeC,E5⟩:=Kd.cK lM.out 5 Ta Tc
         obtain rfl:sL=XG:=(by injection aeC)
         (try simp only [show (5:Int).toNat=5 from rfl,Nat.reduceMul,Nat.reduceEqDiff,Go.Addr.add,↓reduceIte] at E5)
         have agz:(5<l0.length)=True:=eq_true (by omega)
         (try rw [show ((5:Int)).toNat=5 from rfl] at E5)
         replace Ta:=eq_true Ta
         replace Tc:=eq_true Tc
         have Td:0≤(6:Int):=(by omega)
         have Te:6<(l0.length:Int):=of_decide_eq_true qH
         obtain⟨XH,aeD,E6⟩:=Kd.cK lM.out 6 Td Te
         obtain rfl:sL=XH:=(by injection aeD)
         (try simp only [show (6:Int).toNat=6 from rfl,Nat.reduceMul,Nat.reduceEqDiff,Go.Addr.add,↓reduceIte] at E6)
         have agA:(6<l0.length)=True:=eq_true (by omega)
         (try rw [show ((6:Int)).toNat=6 from rfl] at E6)
         replace Td:=eq_true Td
         replace Te:=eq_true Te
         have Tf:0≤(7:Int):=(by omega)
         have Tg:7<(l0.length:Int):=of_decide_eq_true qH
         obtain⟨XI,aeE,E7⟩:=Kd.cK lM.out 7 Tf Tg
         obtain rfl:sL=XI:=(by injection aeE)
         (try simp only [show (7:Int).toNat=7 from rfl,Nat.reduceMul,Nat.reduceEqDiff,Go.Addr.add,↓reduceIte] at E7)
         have agB:(7<l0.length)=True:=eq_true (by omega)
         (try rw [show ((7:Int)).toNat=7 from rfl] at E7)
         replace Tf:=eq_true Tf
         replace Tg:=eq_true Tg
         go_enter Tryz.func133,Tryz.ntmps133
         go_wp2
         repeat(go_quiet (fail);try go_wp2)
         go_ret
         exact⟨qF,qE⟩
        ·rw [if_neg c9] at H
         exact absurd H (by simp)
       ·rw [if_neg c8] at H
        exact absurd H (by simp)
      ·rw [if_neg c7] at H
       exact absurd H (by simp)
     ·rw [if_neg c6] at H
      exact absurd H (by simp)
    ·rw [if_neg c5] at H
     exact absurd H (by simp)
   ·rw [if_neg c4] at H
    exact absurd H (by simp)
  ·rw [if_neg c3] at H
   exact absurd H (by simp)
 ·rw [if_neg c2] at H
  exact absurd H (by simp)
end Go.Proofs.YtlglijnaeaonpaaGreatDoor.bG
end
