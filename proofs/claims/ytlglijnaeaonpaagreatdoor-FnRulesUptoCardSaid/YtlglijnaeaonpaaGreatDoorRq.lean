/- FnRules: a part of the proof (Rq); in it lines that print.sh printed, those that are used. -/
import Derived.Test.YtlglijnaeaonpaaGreatDoorRa
import Derived.Test.YtlglijnaeaonpaaGreatDoorRp
import Derived.Test.YtlglijnaeaonpaaGreatDoorRf
section
set_option maxHeartbeats 8000000
set_option maxRecDepth 100000
set_option linter.unusedVariables false
set_option linter.unusedSimpArgs false
namespace Go.Proofs.YtlglijnaeaonpaaGreatDoor.bG
open Go.RowKit Go.Proofs.YtlglijnaeaonpaaGreatDoorW.aC Go.Proofs.YtlglijnaeaonpaaGreatDoorW.dQ Go.Proofs.YtlglijnaeaonpaaGreatDoorW.eR
attribute [local go_sem] fZ ga iu iv fk fl gd gg
def bb.l0:Nat→List Int→List Int→Int→Int→Option (Bool)
 | 0,_,_,_,_=>none
 | k+1,x0,x5,x6,x7=>if x7<x6 then (if 0≤x7 then (if x7<(x5.length:Int) then (if (rd x5 x7)≥97 then (if ((rd x5 x7)≤122) then (bb.l0 k x0 x5 x6 (wrap64 (x7+1))) else (if (rd x5 x7)=45 then (if x7=0 then (some false) else (if x7=(wrap64 ((x0.length:Int) - 1)) then (some false) else (if 0≤(wrap64 (x7 - 1)) then (if (wrap64 (x7 - 1))<(x0.length:Int) then (if (rd x0 (wrap64 (x7 - 1)))=45 then (some false) else (bb.l0 k x0 x5 x6 (wrap64 (x7+1)))) else (none)) else (none)))) else (some false))) else (if (rd x5 x7)=45 then (if x7=0 then (some false) else (if x7=(wrap64 ((x0.length:Int) - 1)) then (some false) else (if 0≤(wrap64 (x7 - 1)) then (if (wrap64 (x7 - 1))<(x0.length:Int) then (if (rd x0 (wrap64 (x7 - 1)))=45 then (some false) else (bb.l0 k x0 x5 x6 (wrap64 (x7+1)))) else (none)) else (none)))) else (some false))) else (none)) else (none)) else (if (x0.length:Int)>0 then (some (decide ((x0.length:Int)≤20))) else (some false))
def bb.f (k:Nat) (l0:List Int):Option (Bool):=bb.l0 k l0 l0 (l0.length:Int) 0
theorem bb.calls (k:Nat) (A0:Option Addr) (c0:Nat) (l0:List Int) (r:Bool) (w:World) (mE:Kd.C (Kd.int .u8) w A0 l0.length l0) (gh:l0.length≤c0) (h:bb.f k l0=some r):
  Calls Tryz.prog 30 #[.slice A0 l0.length c0] w fun e w' =>e= .returned (.bool r)∧cS w w':=by
 have lM:=am mE
 have Xz:=am gh
 clear mE gh
 have H:(bb.l0 k l0 l0 (l0.length:Int) 0)=some r:=h
 clear h
 have H':=am H
 clear H
 go_enter Tryz.func30,Tryz.ntmps30
 go_wp2
 go_loopg [7] k (fun kq v7 w' =>∃(bV:Int),v7= .int .i64 bV∧ak (bb.l0 kq l0 l0 (l0.length:Int) bV=some r)∧ak (kq≤k)∧cS w w')
 case atStart=>exact⟨(0),qF,H',⟨Nat.le_refl _⟩,qE⟩
 case round=>
  clear H'
  obtain⟨bV,rfl,HA,dR,⟨m1,rfl⟩⟩:=hrel
  cases gk with
  | zero=>exact absurd HA.out (by simp [bb.l0])
  | succ k1=>
   have H:=HA.out
   clear HA
   simp only [bb.l0] at H
   by_cases c2:bV<(l0.length:Int)
   ·rw [if_pos c2] at H
    have oc:decide (bV<(l0.length:Int))=true:=decide_eq_true c2
    clear c2
    by_cases c3:0≤bV
    ·rw [if_pos c3] at H
     have jZ:decide (0≤bV)=true:=decide_eq_true c3
     clear c3
     by_cases c4:bV<(l0.length:Int)
     ·rw [if_pos c4] at H
      have eF:decide (bV<(l0.length:Int))=true:=decide_eq_true c4
      clear c4
      by_cases c5:(rd l0 bV)≥97
      ·rw [if_pos c5] at H
       have df:decide (97≤(rd l0 bV))=true:=decide_eq_true c5
       clear c5
       by_cases c6:((rd l0 bV)≤122)
       ·rw [if_pos c6] at H
        have sj:decide ((rd l0 bV)≤122)=true:=decide_eq_true c6
        clear c6
        have H':=am H
        clear H
        have eK:0≤(bV:Int):=of_decide_eq_true qH
        have eM:bV<(l0.length:Int):=of_decide_eq_true qH
        obtain⟨jS,kn,iw⟩:=Kd.cK lM.out bV eK eM
        cases kn
        replace eK:=eq_true eK
        replace eM:=eq_true eM
        go_wp2
        go_roundg k1
        case measure=>have:=dR.out;omega
        case rel=>exact⟨(wrap64 (bV+1)),qF,H',⟨by have:=dR.out;omega⟩,qE⟩
       ·rw [if_neg c6] at H
        have sj:decide ((rd l0 bV)≤122)=false:=decide_eq_false c6
        clear c6
        by_cases c7:(rd l0 bV)=45
        ·rw [if_pos c7] at H
         have mF:((rd l0 bV)==45)=true:=beq_iff_eq.mpr c7
         have NO:((rd l0 bV) !=45)=false:=bne_eq_false_iff_eq.mpr c7
         clear c7
         by_cases c8:bV=0
         ·rw [if_pos c8] at H
          have Cv:(bV==0)=true:=beq_iff_eq.mpr c8
          have M0:(bV !=0)=false:=bne_eq_false_iff_eq.mpr c8
          clear c8
          obtain rfl:=Option.some.inj H
          have eK:0≤(bV:Int):=of_decide_eq_true qH
          have eM:bV<(l0.length:Int):=of_decide_eq_true qH
          obtain⟨jS,kn,iw⟩:=Kd.cK lM.out bV eK eM
          cases kn
          replace eK:=eq_true eK
          replace eM:=eq_true eM
          go_wp2
          go_ret
          exact⟨qF,qE⟩
         ·rw [if_neg c8] at H
          have Cv:(bV==0)=false:=beq_eq_false_iff_ne.mpr c8
          have M0:(bV !=0)=true:=bne_iff_ne.mpr c8
          by_cases c9:bV=(wrap64 ((l0.length:Int) - 1))
          ·rw [if_pos c9] at H
           have pn:(bV==(wrap64 ((l0.length:Int) - 1)))=true:=beq_iff_eq.mpr c9
           have ur:(bV !=(wrap64 ((l0.length:Int) - 1)))=false:=bne_eq_false_iff_eq.mpr c9
           clear c9
           obtain rfl:=Option.some.inj H
           have eK:0≤(bV:Int):=of_decide_eq_true qH
           have eM:bV<(l0.length:Int):=of_decide_eq_true qH
           obtain⟨jS,kn,iw⟩:=Kd.cK lM.out bV eK eM
           cases kn
           replace eK:=eq_true eK
           replace eM:=eq_true eM
           go_wp2
           go_ret
           exact⟨qF,qE⟩
          ·rw [if_neg c9] at H
           have pn:(bV==(wrap64 ((l0.length:Int) - 1)))=false:=beq_eq_false_iff_ne.mpr c9
           have ur:(bV !=(wrap64 ((l0.length:Int) - 1)))=true:=bne_iff_ne.mpr c9
           obtain⟨lU,FM⟩:∃j_:Int,(wrap64 (bV - 1))=j_:=⟨_,rfl⟩
           replace H:(if 0≤(lU) then (if (lU)<(l0.length:Int) then (if (rd l0 (lU))=45 then (some false) else (bb.l0 k1 l0 l0 (l0.length:Int) (wrap64 (bV+1)))) else (none)) else (none))=some r:=by first|(rw [FM] at H;exact H)|(simp only [FM] at H⊢;exact H)
           have afk:(IntKind.i64.wrap (bV - 1))=lU:=(cB _).trans FM
           by_cases kJ:0≤(lU)
           ·rw [if_pos kJ] at H
            have agL:decide (0≤(lU))=true:=decide_eq_true kJ
            clear kJ
            by_cases ln:(lU)<(l0.length:Int)
            ·rw [if_pos ln] at H
             have iE:decide ((lU)<(l0.length:Int))=true:=decide_eq_true ln
             clear ln
             by_cases kr:(rd l0 (lU))=45
             ·rw [if_pos kr] at H
              have jo:((rd l0 (lU))==45)=true:=beq_iff_eq.mpr kr
              have mH:((rd l0 (lU)) !=45)=false:=bne_eq_false_iff_eq.mpr kr
              clear kr
              obtain rfl:=Option.some.inj H
              have eK:0≤(bV:Int):=of_decide_eq_true qH
              have eM:bV<(l0.length:Int):=of_decide_eq_true qH
              obtain⟨jS,kn,iw⟩:=Kd.cK lM.out bV eK eM
              cases kn
              replace eK:=eq_true eK
              replace eM:=eq_true eM
              have DF:0≤((lU):Int):=of_decide_eq_true qH
              have DG:(lU)<(l0.length:Int):=of_decide_eq_true qH
              obtain⟨Lh,Um,OD⟩:=Kd.cK lM.out (lU) DF DG
              obtain rfl:jS=Lh:=(by injection Um)
              replace DF:=eq_true DF
              replace DG:=eq_true DG
              go_wp2
              go_ret
              exact⟨by first|rfl|(simp;done)|(simp only [←FM]<;>(first|rfl|simp))|(simp [*];done),qE⟩
             ·rw [if_neg kr] at H
              have jo:((rd l0 (lU))==45)=false:=beq_eq_false_iff_ne.mpr kr
              have mH:((rd l0 (lU)) !=45)=true:=bne_iff_ne.mpr kr
              have H':=am H
              clear H
              have eK:0≤(bV:Int):=of_decide_eq_true qH
              have eM:bV<(l0.length:Int):=of_decide_eq_true qH
              obtain⟨jS,kn,iw⟩:=Kd.cK lM.out bV eK eM
              cases kn
              replace eK:=eq_true eK
              replace eM:=eq_true eM
              have DF:0≤((lU):Int):=of_decide_eq_true qH
              have DG:(lU)<(l0.length:Int):=of_decide_eq_true qH
              obtain⟨Lh,Um,OD⟩:=Kd.cK lM.out (lU) DF DG
              obtain rfl:jS=Lh:=(by injection Um)
              replace DF:=eq_true DF
              replace DG:=eq_true DG
              go_wp2
              go_roundg k1
              case measure=>have:=dR.out;omega
              case rel=>exact⟨(wrap64 (bV+1)),qF,H',⟨by have:=dR.out;omega⟩,qE⟩
            ·rw [if_neg ln] at H
             exact absurd H (by simp)
           ·rw [if_neg kJ] at H
            exact absurd H (by simp)
        ·rw [if_neg c7] at H
         have mF:((rd l0 bV)==45)=false:=beq_eq_false_iff_ne.mpr c7
         have NO:((rd l0 bV) !=45)=true:=bne_iff_ne.mpr c7
         obtain rfl:=Option.some.inj H
         have eK:0≤(bV:Int):=of_decide_eq_true qH
         have eM:bV<(l0.length:Int):=of_decide_eq_true qH
         obtain⟨jS,kn,iw⟩:=Kd.cK lM.out bV eK eM
         cases kn
         replace eK:=eq_true eK
         replace eM:=eq_true eM
         go_wp2
         go_ret
         exact⟨qF,qE⟩
      ·rw [if_neg c5] at H
       have df:decide (97≤(rd l0 bV))=false:=decide_eq_false c5
       clear c5
       by_cases mi:(rd l0 bV)=45
       ·rw [if_pos mi] at H
        have mj:((rd l0 bV)==45)=true:=beq_iff_eq.mpr mi
        have ml:((rd l0 bV) !=45)=false:=bne_eq_false_iff_eq.mpr mi
        clear mi
        by_cases ox:bV=0
        ·rw [if_pos ox] at H
         have m9:(bV==0)=true:=beq_iff_eq.mpr ox
         have sR:(bV !=0)=false:=bne_eq_false_iff_eq.mpr ox
         clear ox
         obtain rfl:=Option.some.inj H
         have eK:0≤(bV:Int):=of_decide_eq_true qH
         have eM:bV<(l0.length:Int):=of_decide_eq_true qH
         obtain⟨jS,kn,iw⟩:=Kd.cK lM.out bV eK eM
         cases kn
         replace eK:=eq_true eK
         replace eM:=eq_true eM
         go_wp2
         go_ret
         exact⟨qF,qE⟩
        ·rw [if_neg ox] at H
         have m9:(bV==0)=false:=beq_eq_false_iff_ne.mpr ox
         have sR:(bV !=0)=true:=bne_iff_ne.mpr ox
         by_cases QN:bV=(wrap64 ((l0.length:Int) - 1))
         ·rw [if_pos QN] at H
          have ZN:(bV==(wrap64 ((l0.length:Int) - 1)))=true:=beq_iff_eq.mpr QN
          have ZO:(bV !=(wrap64 ((l0.length:Int) - 1)))=false:=bne_eq_false_iff_eq.mpr QN
          clear QN
          obtain rfl:=Option.some.inj H
          have eK:0≤(bV:Int):=of_decide_eq_true qH
          have eM:bV<(l0.length:Int):=of_decide_eq_true qH
          obtain⟨jS,kn,iw⟩:=Kd.cK lM.out bV eK eM
          cases kn
          replace eK:=eq_true eK
          replace eM:=eq_true eM
          go_wp2
          go_ret
          exact⟨qF,qE⟩
         ·rw [if_neg QN] at H
          have ZN:(bV==(wrap64 ((l0.length:Int) - 1)))=false:=beq_eq_false_iff_ne.mpr QN
          have ZO:(bV !=(wrap64 ((l0.length:Int) - 1)))=true:=bne_iff_ne.mpr QN
          obtain⟨lV,FN⟩:∃j_:Int,(wrap64 (bV - 1))=j_:=⟨_,rfl⟩
          replace H:(if 0≤(lV) then (if (lV)<(l0.length:Int) then (if (rd l0 (lV))=45 then (some false) else (bb.l0 k1 l0 l0 (l0.length:Int) (wrap64 (bV+1)))) else (none)) else (none))=some r:=by first|(rw [FN] at H;exact H)|(simp only [FN] at H⊢;exact H)
          have afl:(IntKind.i64.wrap (bV - 1))=lV:=(cB _).trans FN
          by_cases uJ:0≤(lV)
          ·rw [if_pos uJ] at H
           have tB:decide (0≤(lV))=true:=decide_eq_true uJ
           clear uJ
           by_cases EC:(lV)<(l0.length:Int)
           ·rw [if_pos EC] at H
            have agM:decide ((lV)<(l0.length:Int))=true:=decide_eq_true EC
            clear EC
            by_cases pq:(rd l0 (lV))=45
            ·rw [if_pos pq] at H
             have Lc:((rd l0 (lV))==45)=true:=beq_iff_eq.mpr pq
             have Ld:((rd l0 (lV)) !=45)=false:=bne_eq_false_iff_eq.mpr pq
             clear pq
             obtain rfl:=Option.some.inj H
             have eK:0≤(bV:Int):=of_decide_eq_true qH
             have eM:bV<(l0.length:Int):=of_decide_eq_true qH
             obtain⟨jS,kn,iw⟩:=Kd.cK lM.out bV eK eM
             cases kn
             replace eK:=eq_true eK
             replace eM:=eq_true eM
             have DH:0≤((lV):Int):=of_decide_eq_true qH
             have DI:(lV)<(l0.length:Int):=of_decide_eq_true qH
             obtain⟨Li,Un,OE⟩:=Kd.cK lM.out (lV) DH DI
             obtain rfl:jS=Li:=(by injection Un)
             replace DH:=eq_true DH
             replace DI:=eq_true DI
             go_wp2
             go_ret
             exact⟨by first|rfl|(simp;done)|(simp only [←FN]<;>(first|rfl|simp))|(simp [*];done),qE⟩
            ·rw [if_neg pq] at H
             have Lc:((rd l0 (lV))==45)=false:=beq_eq_false_iff_ne.mpr pq
             have Ld:((rd l0 (lV)) !=45)=true:=bne_iff_ne.mpr pq
             have H':=am H
             clear H
             have eK:0≤(bV:Int):=of_decide_eq_true qH
             have eM:bV<(l0.length:Int):=of_decide_eq_true qH
             obtain⟨jS,kn,iw⟩:=Kd.cK lM.out bV eK eM
             cases kn
             replace eK:=eq_true eK
             replace eM:=eq_true eM
             have DH:0≤((lV):Int):=of_decide_eq_true qH
             have DI:(lV)<(l0.length:Int):=of_decide_eq_true qH
             obtain⟨Li,Un,OE⟩:=Kd.cK lM.out (lV) DH DI
             obtain rfl:jS=Li:=(by injection Un)
             replace DH:=eq_true DH
             replace DI:=eq_true DI
             go_wp2
             go_roundg k1
             case measure=>have:=dR.out;omega
             case rel=>exact⟨(wrap64 (bV+1)),qF,H',⟨by have:=dR.out;omega⟩,qE⟩
           ·rw [if_neg EC] at H
            exact absurd H (by simp)
          ·rw [if_neg uJ] at H
           exact absurd H (by simp)
       ·rw [if_neg mi] at H
        have mj:((rd l0 bV)==45)=false:=beq_eq_false_iff_ne.mpr mi
        have ml:((rd l0 bV) !=45)=true:=bne_iff_ne.mpr mi
        obtain rfl:=Option.some.inj H
        have eK:0≤(bV:Int):=of_decide_eq_true qH
        have eM:bV<(l0.length:Int):=of_decide_eq_true qH
        obtain⟨jS,kn,iw⟩:=Kd.cK lM.out bV eK eM
        cases kn
        replace eK:=eq_true eK
        replace eM:=eq_true eM
        go_wp2
        go_ret
        exact⟨qF,qE⟩
     ·rw [if_neg c4] at H
      exact absurd H (by simp)
    ·rw [if_neg c3] at H
     exact absurd H (by simp)
   ·rw [if_neg c2] at H
    have oc:decide (bV<(l0.length:Int))=false:=decide_eq_false c2
    clear c2
    by_cases ov:(l0.length:Int)>0
    ·rw [if_pos ov] at H
     have gB:decide (0<(l0.length:Int))=true:=decide_eq_true ov
     have ZP:decide (0<l0.length)=true:=decide_eq_true (by omega)
     clear ov
     obtain rfl:=Option.some.inj H
     go_wp2
     go_ret
     exact⟨qF,qE⟩
    ·rw [if_neg ov] at H
     have gB:decide (0<(l0.length:Int))=false:=decide_eq_false ov
     have ZP:decide (0<l0.length)=false:=decide_eq_false (by omega)
     clear ov
     obtain rfl:=Option.some.inj H
     go_wp2
     go_ret
     exact⟨qF,qE⟩
def cm.l0:Nat→List Int→List (List Int)→Int→Int→Option (List Int)
 | 0,_,_,_,_=>none
 | k+1,x3,x7,x8,x9=>if x9<x8 then (if 0≤x9 then (if x9<(x7.length:Int) then (if x3.length<140737488355328 then ((some (x3++ [32]:List Int)).bind fun Bb=>(if Bb.length+(iA x7 x9).length<140737488355328 then (cm.l0 k (Bb++(iA x7 x9)) x7 x8 (wrap64 (x9+1))) else (none))) else (none)) else (none)) else (none)) else (some x3)
def cm.f (k:Nat) (l0:List (List Int)):Option (List Int):=cm.l0 k (([]:List Int)) l0 (l0.length:Int) 0
theorem cm.calls (k:Nat) (A0:Option Addr) (c0:Nat) (l0:List (List Int)) (r:List Int) (w:World) (mE:Kd.C (Kd.slice 5 (Kd.int .u8)) w A0 l0.length l0) (gh:l0.length≤c0) (h:cm.f k l0=some r):
  Calls Tryz.prog 17 #[.slice A0 l0.length c0] w fun e w' =>∃v0_:Value,e= .returned (v0_)∧Kd.R (Kd.int .u8) 5 w' w.heap.size (fun _=>True) v0_ r∧Below w.heap.size w w':=by
 have lM:=am mE
 have Xz:=am gh
 clear mE gh
 have HB:=am (Below.refl w.heap.size w)
 have H:(cm.l0 k (([]:List Int)) l0 (l0.length:Int) 0)=some r:=h
 clear h
 obtain⟨ZQ,Bc⟩:∃y_:List Int,y_=(([]:List Int)):=⟨_,rfl⟩
 replace H:(cm.l0 k ZQ l0 (l0.length:Int) 0)=some r:=by first|(rw [Bc];with_reducible exact H)|(have lN:=(Option.bind_some _ _).symm.trans H;rw [Bc];with_reducible exact lN)|(have lN:=(Option.bind_some _ _).symm.trans H;with_reducible exact lN)|with_reducible exact H|(rw [Bc];exact H)|exact H
 have QZ:=am Bc
 clear Bc
 have H':=am H
 clear H
 go_enter Tryz.func17,Tryz.ntmps17
 go_wp2_with (first|((with_reducible refine gH (N:=6) rfl ?_);refine Kd.vd (Kd.int .u8) _ 5 ?hg (N:=6) ?hd (xs:=([]:List Int)) (inner:=[]) (ok:=fun _=>True) (okp:=fun _=>True) ?hr ?hp (fun _ hk=>hk) trivial (Below.refl _ _) (Nat.le_refl _) (by simp) ?_;(case hd=>rfl);(case hg=>rfl);(case hr=>first|(go_simp;done)|(go_simp;rfl));(case hp=>exact(eX.none _ _));intro ahj w2 tA hb JE na;clear JE na;(first|rw [←QZ.out] at tA|(simp only [Int.reduceToNat] at tA;rw [←QZ.out] at tA));have cR:=am (Kd.lu tA (cC qC));have cM:=am (fc qC hb);clear HB;have ZR:=cR;have HB:=cM;clear cR cM;clear hb tA))
 go_loopg [3,9] k (fun kq v3 v9 w' =>∃(bX:List Int) (aI:Int),v9= .int .i64 aI∧ak (cm.l0 kq bX l0 (l0.length:Int) aI=some r)∧ak (kq≤k)∧ak (Kd.R (Kd.int .u8) 5 w' w.heap.size (fun _=>True) v3 bX)∧ak (Below w.heap.size w w'))
 case atStart=>exact⟨(ZQ),(0),qF,H',⟨Nat.le_refl _⟩,⟨by(with_reducible repeat(first|apply Kd.cP|apply Kd.cQ|apply Kd.dA));exact ZR.out⟩,⟨qC⟩⟩
 case round=>
  clear H'
  try clear c1
  try clear p2
  obtain⟨bX,aI,rfl,HA,dR,ed,HB⟩:=hrel
  cases gk with
  | zero=>exact absurd HA.out (by simp [cm.l0])
  | succ k1=>
   have H:=HA.out
   clear HA
   simp only [cm.l0] at H
   by_cases c4:aI<(l0.length:Int)
   ·rw [if_pos c4] at H
    have eF:decide (aI<(l0.length:Int))=true:=decide_eq_true c4
    clear c4
    by_cases c5:0≤aI
    ·rw [if_pos c5] at H
     have df:decide (0≤aI)=true:=decide_eq_true c5
     clear c5
     by_cases c6:aI<(l0.length:Int)
     ·rw [if_pos c6] at H
      have sj:decide (aI<(l0.length:Int))=true:=decide_eq_true c6
      clear c6
      by_cases c7:bX.length<140737488355328
      ·rw [if_pos c7] at H
       have afm:=am c7
       clear c7
       obtain⟨Bb,Bd⟩:∃y_:List Int,y_=(bX++ [32]):=⟨_,rfl⟩
       replace H:(if Bb.length+(iA l0 aI).length<140737488355328 then (cm.l0 k1 (Bb++(iA l0 aI)) l0 (l0.length:Int) (wrap64 (aI+1))) else (none))=some r:=by first|(rw [Bd];with_reducible exact H)|(have lN:=(Option.bind_some _ _).symm.trans H;rw [Bd];with_reducible exact lN)|(have lN:=(Option.bind_some _ _).symm.trans H;with_reducible exact lN)|with_reducible exact H|(rw [Bd];exact H)|exact H
       have ZS:=am Bd
       clear Bd
       by_cases c8:Bb.length+(iA l0 aI).length<140737488355328
       ·rw [if_pos c8] at H
        have afn:=am c8
        clear c8
        obtain⟨ZT,Be⟩:∃y_:List Int,y_=(Bb++(iA l0 aI)):=⟨_,rfl⟩
        replace H:(cm.l0 k1 ZT l0 (l0.length:Int) (wrap64 (aI+1)))=some r:=by first|(rw [Be];with_reducible exact H)|(have lN:=(Option.bind_some _ _).symm.trans H;rw [Be];with_reducible exact lN)|(have lN:=(Option.bind_some _ _).symm.trans H;with_reducible exact lN)|with_reducible exact H|(rw [Be];exact H)|exact H
        have ZU:=am Be
        clear Be
        have H':=am H
        clear H
        have Uo:0≤(aI:Int):=of_decide_eq_true qH
        have Up:aI<(l0.length:Int):=of_decide_eq_true qH
        obtain⟨agN,afo,afp,afq,ya,FO,FP⟩:=IC lM.out aI Uo Up
        cases afq
        replace ya:=(HB.out.cell (World.block_lt_of_cell? w _ ya)).trans ya
        have OF:=am FP
        have aej:=am FO
        clear FP FO
        replace Uo:=eq_true Uo
        replace Up:=eq_true Up
        go_wp2_with (first|((with_reducible refine eD (b:=.append) (xs:=#[.tmp 13,.tmp 14]) rfl ?_);at_builtin;refine Kd.jl (Kd.int .u8) (w0:=w) w.heap.size rfl (.tmp 13) (.tmp 14) 24 5 (.int .u8 0) 1 rfl Tryz.underlying24 cF rfl (by decide) (by omega) u3 bX 32 [.int .u8 32] (fun _=>True) (fun _=>False) rfl rfl ?aP (fun _ hk=>hk.elim) ?aF ?aO ?aB ?aS ?aL ?_;(case aP=>exact rfl);(case aB=>exact qC);(case aF=>exact(fun _ _=>trivial));(case aO=>exact(by(with_reducible repeat(first|apply Kd.cP|apply Kd.cQ|apply Kd.dA));exact ed.out));(case aS=>exact(cC qC));(case aL=>have:=afm.out;omega);intro afr w9 ho hb hg dz;rw [←ZS.out] at ho;have cR:=am (hb);have cM:=am (ho);clear HB;clear ed;have HB:=cR;have Q0:=cM;clear cR cM;clear ho hb hg dz)|((with_reducible refine eD (b:=.append) (xs:=#[.tmp 15,.tmp 16]) rfl ?_);at_builtin;refine Kd.um (Kd.int .u8) (w0:=w) w.heap.size rfl (.tmp 15) (.tmp 16) 24 5 (.int .u8 0) 1 rfl Tryz.underlying24 cF rfl (by decide) (by omega) afr Bb (iA l0 aI) _ _ _ (fun _=>True) (fun _=>False) rfl rfl ?aO ?aR (fun _ _ h=>h) (fun _ h=>h.elim) ?aF ?aB ?aS ?aL ?_;(case aR=>repeat(first|exact(Kd.cG OF.out HB.out)|(with_reducible refine Kd.D9 ?_ _)|(with_reducible refine Kd.MT ?_ _)|(with_reducible refine Kd.RY ?_)));(case aB=>exact qC);(case aF=>exact(fun _ _=>trivial));(case aO=>exact(by(with_reducible repeat(first|apply Kd.cP|apply Kd.cQ|apply Kd.dA));exact Q0.out));(case aS=>exact(cC qC));(case aL=>have:=afn.out;omega);intro ahk Qg ho hb hg dz;rw [←ZU.out] at ho;have cR:=am (hb);have cM:=am (ho);clear HB;clear Q0;have HB:=cR;have ZV:=cM;clear cR cM;clear ho hb hg dz))
        go_roundg k1
        case measure=>have:=dR.out;omega
        case rel=>exact⟨(ZT),(wrap64 (aI+1)),qF,H',⟨by have:=dR.out;omega⟩,⟨by(with_reducible repeat(first|apply Kd.cP|apply Kd.cQ|apply Kd.dA));exact ZV.out⟩,⟨qC⟩⟩
       ·rw [if_neg c8] at H
        exact absurd H (by simp)
      ·rw [if_neg c7] at H
       exact absurd H (by simp)
     ·rw [if_neg c6] at H
      exact absurd H (by simp)
    ·rw [if_neg c5] at H
     exact absurd H (by simp)
   ·rw [if_neg c4] at H
    have eF:decide (aI<(l0.length:Int))=false:=decide_eq_false c4
    clear c4
    obtain rfl:=Option.some.inj H
    go_wp2
    go_ret
    exact⟨_,qG,by(with_reducible repeat(first|apply Kd.cP|apply Kd.cQ|apply Kd.dA));exact ed.out,qC⟩
end Go.Proofs.YtlglijnaeaonpaaGreatDoor.bG
end
section
set_option maxHeartbeats 8000000
set_option maxRecDepth 100000
set_option linter.unusedVariables false
set_option linter.unusedSimpArgs false
namespace Go.Proofs.YtlglijnaeaonpaaGreatDoor.Lx
open Go.RowKit Go.Proofs.YtlglijnaeaonpaaGreatDoorW.aC Go.Proofs.YtlglijnaeaonpaaGreatDoor.bG
structure Vw (K:ByteArray) (xs:List Int) (qs:List (ByteArray×List Int)):Prop where
 len:xs.length≤60
 n0:N0 xs
 nb:Nb xs
 ne:qs≠ []
 tk:yH xs qs xs.length false
 eq:qs=fK xs
 op:Oy xs=false
 ks:∀q∈qs,mw K.data.toList ([32]++q.1.data.toList++ [32])=true
 cl:xZ [] (qs.map (·.1))
def B6 (w:World) (R:Prop) (e:Ending) (w' :World):Prop:=∃r:Bool,e= .returned (.bool r)∧Below w.heap.size w w' ∧(r=true→R)
theorem Hd (k:ByteArray):((⟨#[32]⟩:ByteArray)++k++(⟨#[32]⟩:ByteArray)).data.toList= [32]++k.data.toList++ [32]:=by
 rw [Joins.data_append,Joins.data_append]
theorem He {k:ByteArray} (h:k.size≤16):((⟨#[32]⟩:ByteArray)++k++(⟨#[32]⟩:ByteArray)).size≤1000000:=by
 rw [ByteArray.size_append,ByteArray.size_append]
 show 1+k.size+1≤1000000
 omega
theorem Lj {w:World} {s p:ByteArray} (hs:s.size≤1000000) (hp:p.size≤1000000):
  Calls Tryz.prog 69 #[.string s,.string p] w fun e w' =>e= .returned (.bool (mw s.data.toList p.data.toList))∧Below w.heap.size w w' :=
 (ck.calls (s.size+2) s p _ w (Hc s p hs hp _ (Nat.le_refl _))).mono fun e w' ⟨he,hn⟩=>⟨he,hn.below⟩
theorem oB {w:World} {A:Option Addr} {c:Nat} {xs:List Int} (K:ByteArray) (hK:K.size≤1000000) (h:VB w A c xs) (hT:fU w):
  Calls Tryz.prog 51 #[.slice A xs.length c,.string K] w (B6 w (∃qs,Vw K xs qs)):=by
 have hl:=h.len
 obtain⟨bh,ZW,As⟩:=vO xs 92 (by have:=h.len;omega)
 have HV:=am h
 have HT:=am hT
 have HH:=am (And.intro ZW As)
 clear h hT ZW As
 go_enter Tryz.func51,Tryz.ntmps51
 go_wp2_with (first
  | (go_at_call 49;(with_reducible refine(tokens (AU HV.out.tx) HV.out (Below.refl _ _) HT.out).mono ?_);rintro e w1 ⟨A5,c5,ps,ok,rfl,⟨q1,-⟩,q2,q3,q4,q5,q6⟩;have HQ:=am (And.intro (KP q3 q4) (And.intro q4 (And.intro q5 q6)));clear q3 q4 q5 q6))
 go_loopg [16] (ps.length+1) (fun gk v16 wr=>∃j:Int,v16= .int .i64 j∧0≤j∧j≤ps.length∧ak (Below w1.heap.size w1 wr∧∀m:Nat,(m:Int)<j→∀p,ps[m]? =some p→mw K.data.toList ([32]++p.f0.data.toList++ [32])=true)∧gk=((ps.length:Int) - j).toNat+1)
 case atStart=>exact⟨0,rfl,by omega,by omega,⟨Below.refl _ _,fun m hm=>by omega⟩,by omega⟩
 case round=>
  obtain⟨j,rfl,h0,h1,HR,rfl⟩:=hrel
  by_cases hj:j<ps.length
  ·obtain⟨p,hp⟩:∃p,ps[j.toNat]? =some p:=⟨_,List.getElem?_eq_getElem (by omega)⟩
   have oT:av ps j=p:=by unfold av;rw [List.getD_eq_getElem?_getD,hp];rfl
   obtain⟨ad,A1,c1,A2,c2,A3,c3,A4,c4,e4,x0,x1,x2,x3,x4,x5,-⟩:=Ch HQ.out.1 j h0 hj
   cases e4
   rw [oT] at x0 x1 x2 x3 x4 x5
   replace x0:=al HR.out.1 x0
   replace x1:=al HR.out.1 x1
   replace x2:=al HR.out.1 x2
   replace x3:=al HR.out.1 x3
   replace x4:=al HR.out.1 x4
   replace x5:=al HR.out.1 x5
   have yB:=HQ.out.2.2.1 p (List.mem_of_getElem? hp)
   have HP:=am (And.intro hp yB)
   have s1:∀W:World,(Op.stringOp .add (⟨#[32]⟩:ByteArray) p.f0).run Tryz.prog W= .ok (.string ((⟨#[32]⟩:ByteArray)++p.f0)) W:=fun W=>run_string_add_sum _ _ _ (by show 1+p.f0.size≤_;omega)
   have s2:∀W:World,(Op.stringOp .add ((⟨#[32]⟩:ByteArray)++p.f0) (⟨#[32]⟩:ByteArray)).run Tryz.prog W= .ok (.string ((⟨#[32]⟩:ByteArray)++p.f0++(⟨#[32]⟩:ByteArray))) W:=fun W=>run_string_add_sum _ _ _ (by rw [ByteArray.size_append];show 1+p.f0.size+1≤_;omega)
   have B7:=eq_true h0
   have HA:ak (Below w1.heap.size w1 (wr.alloc (.cells #[.string p.f0,.slice A1 p.f1.length c1,.slice A2 p.f2.length c2,.slice A3 p.f3.length c3,.slice A4 p.f4.length c4,.string p.f5] 55))):=⟨au HR.out.1 _⟩
   obtain⟨b,hb⟩:∃b,mw K.data.toList ([32]++p.f0.data.toList++ [32])=b:=⟨_,rfl⟩
   have HB:=am hb
   clear hp oT yB hb
   have key:∀W,Calls Tryz.prog 69 #[.string K,.string ((⟨#[32]⟩:ByteArray)++p.f0++(⟨#[32]⟩:ByteArray))] W fun e w' =>e= .returned (.bool b)∧Below W.heap.size W w':=by
    intro W
    have:=Lj (w:=W) hK (He HP.out.2)
    rw [Hd,HB.out] at this
    exact this
   have OG:=am key
   clear key
   cases b with
   | true=>
    go_wp2_with (first
     | (go_at_call 69;(with_reducible refine(OG.out _).mono ?_);rintro e w5 ⟨rfl,jT⟩;have oC:=am (HA.out.trans (jT.mono HA.out.size));clear jT))
    go_roundg (((ps.length:Int) - (j+1)).toNat+1)
    case measure=>omega
    case rel=>
     refine⟨j+1,rfl,by omega,by omega,⟨oC.out,fun m hm q hq=> ?_⟩,rfl⟩
     rcases Int.lt_or_le (m:Int) j with h|h
     ·exact HR.out.2 m h q hq
     ·obtain rfl:m=j.toNat:=by omega
      rw [HP.out.1] at hq
      injection hq with hq
      subst hq
      exact HB.out
   | false=>
    go_wp2_with (first
     | (go_at_call 69;(with_reducible refine(OG.out _).mono ?_);rintro e w5 ⟨rfl,jT⟩;have oC:=am (HA.out.trans (jT.mono HA.out.size));clear jT))
    go_ret
    exact⟨false,rfl,HQ.out.2.1.trans (oC.out.mono HQ.out.2.1.size),fun h=>by cases h⟩
  ·have rC:j=ps.length:=by omega
   subst rC
   have uV:=am (HQ.out.2.1.trans (HR.out.1.mono HQ.out.2.1.size))
   cases ok with
   | false=>
    go_wp2
    go_ret
    exact⟨false,rfl,uV.out,fun h=>by cases h⟩
   | true=>
    by_cases hn:0<ps.length
    ·have hnz:(0:Int)<(ps.length:Int):=by omega
     by_cases h60:xs.length≤60
     ·have ZX:(xs.length:Int)≤60:=by omega
      cases bh with
      | true=>
       go_wp2_with (first
        | (go_at_call 53;(with_reducible refine(oS (HV.out.below uV.out) HH.out.1).mono ?_);rintro e w6 ⟨rfl,gw⟩;have qg:=am (uV.out.trans (gw.mono uV.out.size));clear gw))
       go_ret
       exact⟨false,rfl,qg.out,fun h=>by cases h⟩
      | false=>
       obtain⟨r,hr,te⟩:=Lg ps (by omega)
       have uR:=am (And.intro hr te)
       clear hr te
       go_wp2_with (first
        | (go_at_call 53;(with_reducible refine(oS (HV.out.below uV.out) HH.out.1).mono ?_);rintro e w6 ⟨rfl,gw⟩;have qg:=am gw;clear gw)
        | (go_at_call 70;(with_reducible refine(aG.calls _ A5 c5 ps r _ (Kd.cG (Kd.cG HQ.out.1 HR.out.1) qg.out) q1 (uR.out.1 _ (Nat.le_refl _))).mono ?_);rintro e w7 ⟨rfl,Lk⟩;have HB7:=am (uV.out.trans ((qg.out.trans (Lk.mono qg.out.size)).mono uV.out.size));clear Lk))
       go_ret
       refine⟨r,rfl,HB7.out,fun h=> ?_⟩
       have n0:=HQ.out.2.2.2.1 (by simp)
       have Ii:Nb xs:=by
        intro i hi
        have eh:i<xs.length:=sW (by rw [hi];decide)
        have h0:0≤i∨i<0:=by omega
        have:=HH.out.2.2 ⟨i.toNat,by omega,hi⟩
        cases this
       obtain⟨FQ,rh⟩:=HQ.out.2.2.2.2 n0 Ii
       have ZY:Oy xs=false:=by
        show (fJ xs (FF xs) (xs.length+1)).2.2=false
        cases h5:(fJ xs (FF xs) (xs.length+1)).2.2 with
        | false=>rfl
        | true=>rw [h5] at rh;simp at rh
       have OH:ps=(fK xs).map rB:=FQ
       clear FQ rh
       subst OH
       refine⟨fK xs,h60,n0,Ii,by intro h0;rw [h0] at hn;simp at hn,Uf HV.out.tx ZY,rfl,ZY,fun q hq=> ?_,?_⟩
       ·obtain⟨m,hm,hmq⟩:=List.getElem_of_mem hq
        have:=HR.out.2 m (by simp;omega) (rB q) (by rw [List.getElem?_map,List.getElem?_eq_getElem hm,hmq];rfl)
        exact this
       ·have:=uR.out.2 h
        rw [List.map_map] at this
        exact this
     ·have ZX:¬((xs.length:Int)≤60):=by omega
      have ahl:decide ((xs.length:Int)≤60)=false:=decide_eq_false ZX
      go_wp2
      go_ret
      exact⟨false,rfl,uV.out,fun h=>by cases h⟩
    ·have Ks:ps.length=0:=by omega
     have hnz:¬((0:Int)<(ps.length:Int)):=by omega
     have Ii:decide ((0:Int)<(ps.length:Int))=false:=decide_eq_false hnz
     have HN:=am Ks
     clear Ks
     go_wp2
     go_ret
     exact⟨false,rfl,uV.out,fun h=>by cases h⟩
def Pb (b:Int):Prop:=(97≤b∧b≤122)∨b=45
structure OI (xs:List Int):Prop where
 pos:0<xs.length
 len:xs.length≤20
 oj:∀j:Nat,j<xs.length→Pb (xs.getD j 0)
 fst:xs.getD 0 0≠45
theorem yb (xs:List Int) (hl:xs.length≤2147483647):∀(d:Nat) (j:Nat),j≤xs.length→xs.length - j≤d→(∀m:Nat,m<j→Pb (xs.getD m 0))→(0<j→xs.getD 0 0≠45)→
  ∃r,(∀k,d+1≤k→bb.l0 k xs xs (xs.length:Int) (j:Int)=some r)∧(r=true→OI xs):=by
 intro d
 have oh:∀j:Nat,xs.length≤j→(∀m:Nat,m<j→Pb (xs.getD m 0))→(0<j→xs.getD 0 0≠45)→∃r,(∀k,1≤k→bb.l0 k xs xs (xs.length:Int) (j:Int)=some r)∧(r=true→OI xs):=by
  intro j hj hb hf
  by_cases h:(xs.length:Int)>0
  ·refine⟨decide ((xs.length:Int)≤20),fun k hk=> ?_,fun h2=> ?_⟩
   ·obtain⟨k,rfl⟩:∃m,k=m+1:=⟨k - 1,by omega⟩
    simp only [bb.l0]
    rw [if_neg (by omega),if_pos h]
   ·have h2:=of_decide_eq_true h2
    exact⟨by omega,by omega,fun m hm=>hb m (by omega),hf (by omega)⟩
  ·refine⟨false,fun k hk=> ?_,fun h=>by cases h⟩
   obtain⟨k,rfl⟩:∃m,k=m+1:=⟨k - 1,by omega⟩
   simp only [bb.l0]
   rw [if_neg (by omega),if_neg h]
 induction d with
 | zero=>
  intro j h1 h2 hb hf
  exact oh j (by omega) hb hf
 | succ d ih=>
  intro j h1 h2 hb hf
  by_cases hj:j<xs.length
  ·have hr:rd xs (j:Int)=xs.getD j 0:=by simp [rd]
   have hw:wrap64 ((j:Int)+1)=((j+1:Nat):Int):=by rw [fX (by omega) (by omega)];omega
   by_cases hm:97≤xs.getD j 0∧xs.getD j 0≤122
   ·obtain⟨r,wo,te⟩:=ih (j+1) (by omega) (by omega) (fun m hmj=>by
      rcases Nat.lt_or_ge m j with h|h
      ·exact hb m h
      ·obtain rfl:m=j:=by omega
       exact .inl hm) (fun _=>by
      rcases Nat.eq_zero_or_pos j with h|h
      ·subst h;omega
      ·exact hf h)
    refine⟨r,fun k hk=> ?_,te⟩
    obtain⟨k,rfl⟩:∃m,k=m+1:=⟨k - 1,by omega⟩
    simp only [bb.l0]
    rw [if_pos (by omega),if_pos (by omega),if_pos (by omega),hr,if_pos (show xs.getD j 0≥97 from hm.1),if_pos hm.2,hw]
    exact wo k (by omega)
   ·
    have key:∃r,(∀k,d+1≤k→(if xs.getD j 0=45 then (if (j:Int)=0 then (some false) else (if (j:Int)=(wrap64 ((xs.length:Int) - 1)) then (some false) else (if 0≤(wrap64 ((j:Int) - 1)) then (if (wrap64 ((j:Int) - 1))<(xs.length:Int) then (if (rd xs (wrap64 ((j:Int) - 1)))=45 then (some false) else (bb.l0 k xs xs (xs.length:Int) (wrap64 ((j:Int)+1)))) else (none)) else (none)))) else (some false))=some r)∧(r=true→OI xs):=by
     by_cases MD:xs.getD j 0=45
     ·by_cases h0:j=0
      ·exact⟨false,fun k hk=>by rw [if_pos MD,if_pos (by omega)],fun h=>by cases h⟩
      ·by_cases he:(j:Int)=(xs.length:Int) - 1
       ·exact⟨false,fun k hk=>by rw [if_pos MD,if_neg (by omega),fX (x:=(xs.length:Int) - 1) (by omega) (by omega),if_pos he],fun h=>by cases h⟩
       ·by_cases hp:rd xs ((j:Int) - 1)=45
        ·exact⟨false,fun k hk=>by rw [if_pos MD,if_neg (by omega),fX (x:=(xs.length:Int) - 1) (by omega) (by omega),if_neg he,fX (x:=(j:Int) - 1) (by omega) (by omega),if_pos (by omega),if_pos (by omega),if_pos hp],fun h=>by cases h⟩
        ·obtain⟨r,wo,te⟩:=ih (j+1) (by omega) (by omega) (fun m hmj=>by
           rcases Nat.lt_or_ge m j with h|h
           ·exact hb m h
           ·obtain rfl:m=j:=by omega
            exact .inr MD) (fun _=>hf (by omega))
         exact⟨r,fun k hk=>by rw [if_pos MD,if_neg (by omega),fX (x:=(xs.length:Int) - 1) (by omega) (by omega),if_neg he,fX (x:=(j:Int) - 1) (by omega) (by omega),if_pos (by omega),if_pos (by omega),if_neg hp,hw];exact wo k (by omega),te⟩
     ·exact⟨false,fun k hk=>by rw [if_neg MD],fun h=>by cases h⟩
    obtain⟨r,wo,te⟩:=key
    refine⟨r,fun k hk=> ?_,te⟩
    obtain⟨k,rfl⟩:∃m,k=m+1:=⟨k - 1,by omega⟩
    simp only [bb.l0]
    rw [if_pos (by omega),if_pos (by omega),if_pos (by omega),hr]
    by_cases h97:xs.getD j 0≥97
    ·rw [if_pos h97,if_neg (by omega)]
     exact wo k (by omega)
    ·rw [if_neg h97]
     exact wo k (by omega)
  ·obtain⟨r,wo,te⟩:=oh j (by omega) hb hf
   exact⟨r,fun k hk=>wo k (by omega),te⟩
theorem yc (xs:List Int) (hl:xs.length≤2147483647):∃r,(∀k,xs.length+1≤k→bb.f k xs=some r)∧(r=true→OI xs):=by
 obtain⟨r,h1,h2⟩:=yb xs hl xs.length 0 (by omega) (by omega) (fun m hm=>by omega) (fun h=>by omega)
 exact⟨r,fun k hk=>h1 k hk,h2⟩
theorem Uq (xs:List (List Int)) (j:Nat):iA xs (j:Int)=xs.getD j []:=by unfold iA;simp
def Ur (ws:List (List Int)):Prop:=ws.length≤2147483647∧∀m:Nat,m<ws.length→(ws.getD m []).length≤2147483647
def afs (d:gx):Prop:=d.f0.length≤2147483647∧Ur d.f1
def ZZ (ds:List gx):Prop:=ds.length≤2147483647∧∀m:Nat,m<ds.length→afs (ds.getD m VR)
def aX (ws:List (List Int)):List Int:=ws.flatMap (fun x=>32::x)
theorem OJ (ws:List (List Int)) (hw:∀x∈ws,x.length≤1000) (hl:ws.length≤1000):∀(d:Nat) (j:Nat),j≤ws.length→ws.length - j≤d→(aX (ws.take j)).length≤1001*j→∀k,d+1≤k→cm.l0 k (aX (ws.take j)) ws (ws.length:Int) (j:Int)=some (aX ws):=by
 intro d
 induction d with
 | zero=>
  intro j h1 h2 h3 k hk
  obtain⟨k,rfl⟩:∃m,k=m+1:=⟨k - 1,by omega⟩
  simp only [cm.l0]
  rw [if_neg (by omega),List.take_of_length_le (by omega)]
 | succ d ih=>
  intro j h1 h2 h3 k hk
  obtain⟨k,rfl⟩:∃m,k=m+1:=⟨k - 1,by omega⟩
  by_cases hj:j<ws.length
  ·have hx:ws.getD j []=ws[j]:=by rw [List.getD_eq_getElem?_getD,List.getElem?_eq_getElem hj];rfl
   have o9:=hw ws[j] (List.getElem_mem hj)
   have ht:aX (ws.take (j+1))=aX (ws.take j)++ [32]++ws[j]:=by
    unfold aX
    rw [List.take_add_one,List.getElem?_eq_getElem hj,List.flatMap_append]
    simp
   have hlen:(aX (ws.take (j+1))).length≤1001*(j+1):=by rw [ht];simp;omega
   simp only [cm.l0]
   rw [if_pos (by omega),if_pos (by omega),if_pos (by omega),if_pos (by omega)]
   simp only [Option.bind_some]
   rw [Uq,hx,if_pos (by simp;omega),fX (by omega) (by omega)]
   have:=ih (j+1) (by omega) (by omega) hlen k (by omega)
   rw [ht] at this
   rwa [show ((j+1:Nat):Int)=(j:Int)+1 by omega] at this
  ·simp only [cm.l0]
   rw [if_neg (by omega),List.take_of_length_le (by omega)]
theorem FR (ws:List (List Int)) (hw:∀x∈ws,x.length≤1000) (hl:ws.length≤1000) (k:Nat) (hk:ws.length+1≤k):cm.f k ws=some (aX ws):=by
 have:=OJ ws hw hl ws.length 0 (by omega) (by omega) (by simp [aX]) k hk
 exact this
def kZ:ByteArray:=⟨#[32,105,100,101,110,116,32,110,117,109,98,101,114,32,112,101,114,99,101,110,116,97,103,101,32,100,105,109,101,110,115,105,111,110,32,104,97,115,104,32,115,116,114,105,110,103,32,117,114,108,32,102,117,110,99,116,105,111,110,32,40,32,41,32,44,32]⟩
theorem Bf {w:World} {A:Option Addr} {c:Nat} {xs:List Int} (h:VB w A c xs) (hT:fU w):
  Calls Tryz.prog 31 #[.slice A xs.length c] w (B6 w (∃qs,Vw kZ xs qs)):=by
 have key:=oB kZ (by decide) h hT
 unfold kZ at key
 have OG:=am key
 clear key h hT
 go_enter Tryz.func31,Tryz.ntmps31
 go_wp2_with (first
  | (go_at_call 51;(with_reducible refine(OG.out).mono ?_);rintro e w1 ⟨r,rfl,q1,q2⟩;have HQ:=am (And.intro q1 q2);clear q1 q2))
 go_ret
 exact⟨r,rfl,HQ.out.1,HQ.out.2⟩
theorem yH.pos {xs:List Int} {qs:List (ByteArray×List Int)} {i:Int} {o:Bool} (h:yH xs qs i o) (hq:qs≠ []):0<i:=by
 cases h with
 | nil=>exact absurd rfl hq
 | snoc ps i kind i' o' h h0 h1 hk=>have:=hk.2.1;omega
theorem Vw.pos {K:ByteArray} {xs:List Int} {qs:List (ByteArray×List Int)} (h:Vw K xs qs):0<xs.length:=by
 have:=h.tk.pos h.ne
 omega
structure VL (w:World) (A:Option Addr) (c:Nat) (ws:List (List Int)):Prop where
 cap:ws.length≤c
 rd:Kd.C (Kd.slice 5 (Kd.int .u8)) w A ws.length ws
 oj:∀x∈ws,∀j:Nat,0≤x.getD j 0∧x.getD j 0≤255
 fit:Ur ws
theorem VL.below {w w' :World} {A:Option Addr} {c:Nat} {ws:List (List Int)} (h:VL w A c ws) (hb:Below w.heap.size w w'):VL w' A c ws:=⟨h.cap,Kd.cG h.rd hb,h.oj,h.fit⟩
theorem VL.get {w:World} {A:Option Addr} {c:Nat} {ws:List (List Int)} (h:VL w A c ws) {j:Int} (h0:0≤j) (h1:j<ws.length):
  ∃ad A0 c0 x,A=some ad∧ws[j.toNat]? =some x∧w.cell? (ad.add j.toNat)=some (.slice A0 x.length c0)∧VB w A0 c0 x:=by
 obtain⟨ad,A0,c0,e,x0,x1,x2⟩:=IC h.rd j h0 h1
 have hx:ws[j.toNat]? =some (iA ws j):=by
  unfold iA
  rw [List.getD_eq_getElem?_getD,List.getElem?_eq_getElem (by omega)];rfl
 have hm:=List.mem_of_getElem? hx
 have hf:=h.fit.2 j.toNat (by omega)
 rw [List.getD_eq_getElem?_getD,hx] at hf
 exact⟨ad,A0,c0,_,e,hx,x0,⟨x1,x2,h.oj _ hm,hf⟩⟩
theorem il {w:World} {b:Int} (r:Bool) (hr:decide (Sn b)=r):Calls Tryz.prog 32 #[.int .u8 b] w fun e w' =>e= .returned (.bool r)∧Below w.heap.size w w' :=
 (bO.calls b r w (by rw [jg,hr])).mono fun e w' ⟨he,hn⟩=>⟨he,hn.below⟩
structure MG (ws:List (List Int)):Prop where
 len:ws.length≤8
 ok:∀x∈ws,∃qs,Vw kZ x qs
 fst:∀x,ws[0]? =some x→Sn (x.getD 0 0)
theorem ko {w:World} {A:Option Addr} {c:Nat} {ws:List (List Int)} (h:VL w A c ws) (hT:fU w):
  Calls Tryz.prog 14 #[.slice A ws.length c] w (B6 w (MG ws)):=by
 have hl:=h.fit.1
 have HV:=am h
 have HT:=am hT
 clear h hT
 go_enter Tryz.func14,Tryz.ntmps14
 go_wp2
 go_loopg [7] (ws.length+1) (fun gk v7 wr=>∃j:Int,v7= .int .i64 j∧0≤j∧j≤ws.length∧ak (Below w.heap.size w wr∧(∀m:Nat,(m:Int)<j→∀x,ws[m]? =some x→∃qs,Vw kZ x qs)∧(0<j→∀x,ws[0]? =some x→Sn (x.getD 0 0)))∧gk=((ws.length:Int) - j).toNat+1)
 case atStart=>exact⟨0,rfl,by omega,by omega,⟨Below.refl _ _,fun m hm=>by omega,fun h=>by omega⟩,by omega⟩
 case round=>
  obtain⟨j,rfl,h0,h1,HR,rfl⟩:=hrel
  by_cases hj:j<ws.length
  ·obtain⟨ad,A0,c0,x,rfl,hx,bR,iR⟩:=(HV.out.below HR.out.1).get h0 hj
   have HX:=am (And.intro hx iR)
   have B7:=eq_true h0
   clear hx iR
   have key:∀(r:Bool) (W:World),Below wr.heap.size wr W→(r=true→∃qs,Vw kZ x qs)→(r=true→j=0→Sn (x.getD 0 0))→Below w.heap.size w W∧(∀m:Nat,(m:Int)<j+1→r=true→∀x,ws[m]? =some x→∃qs,Vw kZ x qs)∧(r=true→∀x,ws[0]? =some x→Sn (x.getD 0 0)):=by
    intro r W hb hr hs
    refine⟨HR.out.1.trans (hb.mono HR.out.1.size),fun m hm OK y hy=> ?_,fun OK y hy=> ?_⟩
    ·rcases Int.lt_or_le (m:Int) j with h'|h'
     ·exact HR.out.2.1 m h' y hy
     ·obtain rfl:m=j.toNat:=by omega
      rw [HX.out.1] at hy
      injection hy with hy
      subst hy
      exact hr OK
    ·rcases Int.lt_or_le 0 j with h'|h'
     ·exact HR.out.2.2 h' y hy
     ·have pb:j=0:=by omega
      have:=HX.out.1
      rw [pb] at this
      rw [show (0:Int).toNat=0 from rfl,hy] at this
      injection this with this
      subst this
      exact hs OK pb
   have OG:=am key
   clear key
   have kv:=Bf HX.out.2 ((HT.out.below HR.out.1))
   have KV:=am kv
   clear kv
   by_cases pb:j=0
   ·subst pb
    have aft:wr.cell? ad=some (.slice A0 x.length c0):=by rw [←bR];simp [Addr.add]
    obtain⟨y0,hy0⟩:∃y,x.getD 0 0=y:=⟨_,rfl⟩
    have HY:=am hy0
    clear hy0
    obtain⟨b,hb⟩:∃b,decide (Sn y0)=b:=⟨_,rfl⟩
    have HB:=am hb
    clear hb
    cases b with
    | true=>
     go_wp2_with (first
      | (go_at_call 31;(with_reducible refine(KV.out).mono ?_);rintro e w5 ⟨r,rfl,q1,q2⟩;have HQ:=am (And.intro q1 q2);clear q1 q2;rcases r with _|_;(rotate_left 1;obtain⟨qs,hq⟩:=HQ.out.2 (by simp);have hp:=hq.pos;have hpz:(0:Int)<(x.length:Int):=(by omega);obtain⟨Z0,rfl,hc⟩:=(HX.out.2.below HQ.out.1).cells hp;have gh:=hc 0 hp;have oe:w5.cell? Z0=some (.int .u8 y0):=(by rw [←HY.out,←gh];simp [Addr.add]);clear hc gh hq hp;rotate_right 1))
      | (go_at_call 32;(with_reducible refine(il true HB.out).mono ?_);rintro e w6 ⟨rfl,gw⟩;have qg:=am (HQ.out.1.trans (gw.mono HQ.out.1.size));clear gw))
     ·go_ret
      exact⟨false,rfl,HR.out.1.trans (HQ.out.1.mono HR.out.1.size),fun h=>by cases h⟩
     ·go_roundg (((ws.length:Int) - (0+1)).toNat+1)
      case measure=>omega
      case rel=>
       obtain⟨k1,k2,k3⟩:=OG.out true w6 qg.out (fun _=>HQ.out.2 (by simp)) (fun _ _=>by rw [HY.out];exact of_decide_eq_true HB.out)
       exact⟨1,rfl,by omega,by omega,⟨k1,fun m hm=>k2 m (by omega) rfl,fun _=>k3 rfl⟩,by omega⟩
    | false=>
     go_wp2_with (first
      | (go_at_call 31;(with_reducible refine(KV.out).mono ?_);rintro e w5 ⟨r,rfl,q1,q2⟩;have HQ:=am (And.intro q1 q2);clear q1 q2;rcases r with _|_;(rotate_left 1;obtain⟨qs,hq⟩:=HQ.out.2 (by simp);have hp:=hq.pos;have hpz:(0:Int)<(x.length:Int):=(by omega);obtain⟨Z0,rfl,hc⟩:=(HX.out.2.below HQ.out.1).cells hp;have gh:=hc 0 hp;have oe:w5.cell? Z0=some (.int .u8 y0):=(by rw [←HY.out,←gh];simp [Addr.add]);clear hc gh hq hp;rotate_right 1))
      | (go_at_call 32;(with_reducible refine(il false HB.out).mono ?_);rintro e w6 ⟨rfl,gw⟩;have qg:=am (HQ.out.1.trans (gw.mono HQ.out.1.size));clear gw))
     ·go_ret
      exact⟨false,rfl,HR.out.1.trans (HQ.out.1.mono HR.out.1.size),fun h=>by cases h⟩
     ·go_ret
      exact⟨false,rfl,HR.out.1.trans (qg.out.mono HR.out.1.size),fun h=>by cases h⟩
   ·have hjz:(j==0)=false:=by simpa using pb
    go_wp2_with (first
     | (go_at_call 31;(with_reducible refine(KV.out).mono ?_);rintro e w5 ⟨r,rfl,q1,q2⟩;have HQ:=am (And.intro q1 q2);clear q1 q2;rcases r with _|_))
    ·go_ret
     exact⟨false,rfl,HR.out.1.trans (HQ.out.1.mono HR.out.1.size),fun h=>by cases h⟩
    ·go_roundg (((ws.length:Int) - (j+1)).toNat+1)
     case measure=>omega
     case rel=>
      obtain⟨k1,k2,k3⟩:=OG.out true w5 HQ.out.1 (fun _=>HQ.out.2 (by simp)) (fun _ h=>absurd h pb)
      exact⟨j+1,rfl,by omega,by omega,⟨k1,fun m hm=>k2 m hm rfl,fun _=>k3 rfl⟩,by omega⟩
  ·have rC:j=ws.length:=by omega
   subst rC
   by_cases h8:ws.length≤8
   ·have Q1:(ws.length:Int)≤8:=by omega
    go_wp2
    go_ret
    refine⟨true,by simp,HR.out.1,fun _=>⟨h8,fun x hx=> ?_,?_⟩⟩
    ·obtain⟨m,hm,Z4⟩:=List.getElem_of_mem hx
     exact HR.out.2.1 m (by omega) x (by rw [List.getElem?_eq_getElem hm,Z4])
    ·intro x hx
     refine HR.out.2.2 ?_ x hx
     have:=(List.getElem?_eq_some_iff.1 hx).1
     omega
   ·have Q1:¬((ws.length:Int)≤8):=by omega
    have h8b:decide ((ws.length:Int)≤8)=false:=decide_eq_false Q1
    go_wp2
    go_ret
    exact⟨false,by simp,HR.out.1,fun h=>by cases h⟩
structure DL (w:World) (A:Option Addr) (c:Nat) (ds:List gx):Prop where
 cap:ds.length≤c
 rd:Kd.C WC w A ds.length ds
 oj:∀d∈ds,(∀j:Nat,0≤d.f0.getD j 0∧d.f0.getD j 0≤255)∧∀x∈d.f1,∀j:Nat,0≤x.getD j 0∧x.getD j 0≤255
 fit:ZZ ds
theorem DL.below {w w' :World} {A:Option Addr} {c:Nat} {ds:List gx} (h:DL w A c ds) (hb:Below w.heap.size w w'):DL w' A c ds:=⟨h.cap,Kd.cG h.rd hb,h.oj,h.fit⟩
theorem DL.get {w:World} {A:Option Addr} {c:Nat} {ds:List gx} (h:DL w A c ds) {j:Int} (h0:0≤j) (h1:j<ds.length):
  ∃ad A0 c0 A1 c1 d,A=some ad∧ds[j.toNat]? =some d∧w.cell? (ad.add (j.toNat*2))=some (.slice A0 d.f0.length c0)∧w.cell? ⟨(ad.add (j.toNat*2)).block,(ad.add (j.toNat*2)).off+1,none⟩=some (.slice A1 d.f1.length c1)∧VB w A0 c0 d.f0∧VL w A1 c1 d.f1:=by
 obtain⟨ad,A0,c0,A1,c1,e,x0,x1,l0,g0,l1,g1⟩:=R6 h.rd j h0 h1
 have hx:ds[j.toNat]? =some (jY ds j):=by
  unfold jY
  rw [List.getD_eq_getElem?_getD,List.getElem?_eq_getElem (by omega)];rfl
 have hm:=List.mem_of_getElem? hx
 have hf:=h.fit.2 j.toNat (by omega)
 rw [List.getD_eq_getElem?_getD,hx] at hf
 exact⟨ad,A0,c0,A1,c1,_,e,hx,x0,x1,⟨l0,g0,(h.oj _ hm).1,hf.1⟩,⟨l1,g1,(h.oj _ hm).2,hf.2⟩⟩
structure Vd (d:gx):Prop where
 name:OI d.f0
 words:MG d.f1
 ne:d.f1≠ []
structure Wi (ds:List gx):Prop where
 len:ds.length≤10
 ok:∀d∈ds,Vd d
theorem oo {w:World} {A:Option Addr} {c:Nat} {ds:List gx} (h:DL w A c ds) (hT:fU w):
  Calls Tryz.prog 11 #[.slice A ds.length c] w (B6 w (Wi ds)):=by
 have hl:=h.fit.1
 have HV:=am h
 have HT:=am hT
 clear h hT
 go_enter Tryz.func11,Tryz.ntmps11
 go_wp2
 go_loopg [7] (ds.length+1) (fun gk v7 wr=>∃j:Int,v7= .int .i64 j∧0≤j∧j≤ds.length∧ak (Below w.heap.size w wr∧(∀m:Nat,(m:Int)<j→∀x,ds[m]? =some x→Vd x))∧gk=((ds.length:Int) - j).toNat+1)
 case atStart=>exact⟨0,rfl,by omega,by omega,⟨Below.refl _ _,fun m hm=>by omega⟩,by omega⟩
 case round=>
  obtain⟨j,rfl,h0,h1,HR,rfl⟩:=hrel
  by_cases hj:j<ds.length
  ·obtain⟨ad,A0,c0,A1,c1,d,rfl,hx,x0,x1,iR,nj⟩:=(HV.out.below HR.out.1).get h0 hj
   have B7:=eq_true h0
   have Q4:=iR.len
   have FT:=nj.fit.1
   obtain⟨r0,mE,Z5⟩:=yc d.f0 iR.len
   have HA:ak (Below wr.heap.size wr (wr.alloc (.cells #[.slice A0 d.f0.length c0,.slice A1 d.f1.length c1] 68))):=⟨au (Below.refl _ _) _⟩
   have HX:=am (And.intro hx (And.intro (iR.below HA.out) (And.intro (nj.below HA.out) (HT.out.below (HR.out.1.trans (HA.out.mono HR.out.1.size))))))
   have HP:=am (And.intro mE Z5)
   have uU:=am (HR.out.1.trans (HA.out.mono HR.out.1.size))
   clear hx iR nj mE Z5
   cases r0 with
   | false=>
    go_wp2_with (first
     | (go_at_call 30;(with_reducible refine(bb.calls _ A0 c0 d.f0 false _ HX.out.2.1.rd HX.out.2.1.cap (HP.out.1 _ (Nat.le_refl _))).mono ?_);rintro e w5 ⟨rfl,MH⟩;have oC:=am MH.below;clear MH))
    go_ret
    exact⟨false,rfl,uU.out.trans (oC.out.mono uU.out.size),fun h=>by cases h⟩
   | true=>
    by_cases jJ:d.f1.length=0
    ·have hnz:((d.f1.length:Int)==0)=true:=by simp [jJ]
     have HNE:=am jJ
     clear jJ
     go_wp2_with (first
      | (go_at_call 30;(with_reducible refine(bb.calls _ A0 c0 d.f0 true _ HX.out.2.1.rd HX.out.2.1.cap (HP.out.1 _ (Nat.le_refl _))).mono ?_);rintro e w5 ⟨rfl,MH⟩;have oC:=am MH.below;obtain⟨nd,rfl⟩:=MH.out;clear MH)
      | (go_at_call 14;(with_reducible refine(ko (HX.out.2.2.1.below oC.out) (HX.out.2.2.2.below oC.out)).mono ?_);rintro e w6 ⟨r,rfl,q1,q2⟩;have g6:w6.cell? ⟨wr.heap.size,1,none⟩=some (.slice A1 d.f1.length c1):=(al q1 (al oC.out (by rw [ao (heap_alloc_new wr _)];rfl)));have HQ:=am (And.intro (uU.out.trans ((oC.out.trans (q1.mono oC.out.size)).mono uU.out.size)) q2);clear q1 q2;rcases r with _|_))
     ·go_ret
      exact⟨false,rfl,HQ.out.1,fun h=>by cases h⟩
     ·go_ret
      exact⟨false,rfl,HQ.out.1,fun h=>by cases h⟩
    ·have hnz:((d.f1.length:Int)==0)=false:=by simp;simpa using jJ
     have HNE:=am jJ
     clear jJ
     go_wp2_with (first
      | (go_at_call 30;(with_reducible refine(bb.calls _ A0 c0 d.f0 true _ HX.out.2.1.rd HX.out.2.1.cap (HP.out.1 _ (Nat.le_refl _))).mono ?_);rintro e w5 ⟨rfl,MH⟩;have oC:=am MH.below;obtain⟨nd,rfl⟩:=MH.out;clear MH)
      | (go_at_call 14;(with_reducible refine(ko (HX.out.2.2.1.below oC.out) (HX.out.2.2.2.below oC.out)).mono ?_);rintro e w6 ⟨r,rfl,q1,q2⟩;have g6:w6.cell? ⟨wr.heap.size,1,none⟩=some (.slice A1 d.f1.length c1):=(al q1 (al oC.out (by rw [ao (heap_alloc_new wr _)];rfl)));have HQ:=am (And.intro (uU.out.trans ((oC.out.trans (q1.mono oC.out.size)).mono uU.out.size)) q2);clear q1 q2;rcases r with _|_))
     ·go_ret
      exact⟨false,rfl,HQ.out.1,fun h=>by cases h⟩
     ·go_roundg (((ds.length:Int) - (j+1)).toNat+1)
      case measure=>omega
      case rel=>
       refine⟨j+1,rfl,by omega,by omega,⟨HQ.out.1,fun m hm y hy=> ?_⟩,rfl⟩
       rcases Int.lt_or_le (m:Int) j with h'|h'
       ·exact HR.out.2 m h' y hy
       ·obtain rfl:m=j.toNat:=by omega
        rw [HX.out.1] at hy
        injection hy with hy
        subst hy
        exact⟨HP.out.2 (by simp),HQ.out.2 (by simp),fun h=>HNE.out (by rw [h];rfl)⟩
  ·have rC:j=ds.length:=by omega
   subst rC
   by_cases h8:ds.length≤10
   ·have Q1:(ds.length:Int)≤10:=by omega
    go_wp2
    go_ret
    refine⟨true,by simp,HR.out.1,fun _=>⟨h8,fun x hx=> ?_⟩⟩
    obtain⟨m,hm,Z4⟩:=List.getElem_of_mem hx
    exact HR.out.2 m (by omega) x (by rw [List.getElem?_eq_getElem hm,Z4])
   ·have Q1:¬((ds.length:Int)≤10):=by omega
    have h8b:decide ((ds.length:Int)≤10)=false:=decide_eq_false Q1
    go_wp2
    go_ret
    exact⟨false,by simp,HR.out.1,fun h=>by cases h⟩
def k8 (st:Int):ByteArray:=if st=0 then ⟨#[]⟩ else if st=1 then ⟨#[32]⟩ else ⟨#[10,32]⟩
def bw (st:Int):List Int:=if st=0 then [] else if st=1 then [32] else [10,32]
theorem eV {st:Int}:bytesOf (k8 st)=bw st:=by
 unfold k8 bw
 split
 ·rfl
 ·split<;>rfl
theorem eQ (st:Int):(bw st).length≤2:=by unfold bw;split;simp;split<;>simp
theorem gQ (st:Int):(k8 st).size≤2:=by rw [←jh,eV];exact eQ st
theorem jc {w:World} (st:Int) (h0:0≤st) (h1:st≤2):Calls Tryz.prog 16 #[.int .i64 st] w fun e w' =>e= .returned (.string (k8 st))∧w=w':=by
 have hs:st=0∨st=1∨st=2:=by omega
 have k0:∀W:World,(Instr.index 75 (.agg #[.string ⟨#[]⟩,.string ⟨#[32]⟩,.string ⟨#[10,32]⟩]) (.int .i64 0)).run Tryz.prog W= .ok (.string ⟨#[]⟩) W:=fun W=>by kernel_rfl
 have k1:∀W:World,(Instr.index 75 (.agg #[.string ⟨#[]⟩,.string ⟨#[32]⟩,.string ⟨#[10,32]⟩]) (.int .i64 1)).run Tryz.prog W= .ok (.string ⟨#[32]⟩) W:=fun W=>by kernel_rfl
 have k2:∀W:World,(Instr.index 75 (.agg #[.string ⟨#[]⟩,.string ⟨#[32]⟩,.string ⟨#[10,32]⟩]) (.int .i64 2)).run Tryz.prog W= .ok (.string ⟨#[10,32]⟩) W:=fun W=>by kernel_rfl
 rcases hs with rfl|rfl|rfl
 all_goals
  go_enter Tryz.func16,Tryz.ntmps16
  go_wp2
  go_ret
  exact⟨rfl,rfl⟩
def mn (st:Int) (first:Bool) (d:gx):List Int:=(if first then [] else [59]++bw st)++d.f0++ [58]++bw st++(aX d.f1).drop 1
def dh (st:Int):List gx→List Int
 | []=> []
 | d::r=>mn st true d++r.flatMap (mn st false)
theorem DJ {st:Int} {ds:List gx} {j:Nat} {d:gx} (h:ds[j]? =some d):dh st (ds.take (j+1))=dh st (ds.take j)++mn st (decide (j=0)) d:=by
 cases ds with
 | nil=>simp at h
 | cons d0 r=>
  cases j with
  | zero=>simp at h;subst h;simp [dh]
  | succ j=>
   simp only [List.getElem?_cons_succ] at h
   rw [List.take_succ_cons,List.take_succ_cons]
   simp only [dh]
   rw [List.take_add_one,h,List.flatMap_append]
   simp
theorem dO {w:World} {A:Option Addr} {xs:List Int} (h:Kd.C (Kd.int .u8) w A xs.length xs):dU w .u8 A xs.length xs:=yP.2 (Kd.lv h)
theorem FU {w:World} {A:Option Addr} {c:Nat} {t:List Int} (hc:t.length≤c) (h:Kd.C (Kd.int .u8) w A t.length t) (Io:1≤t.length):
  ∃A1 c1,Kd.C (Kd.int .u8) w A1 (t.drop 1).length (t.drop 1)∧∀W:World,(Instr.slice 24 (.slice A t.length c) (some (.int .i64 1)) none none).run Tryz.prog W= .ok (.slice A1 (t.drop 1).length c1) W:=by
 obtain⟨i0,TP,ku⟩:=Option.map_eq_some_iff.1 cF
 simp only [Prod.mk.injEq] at ku
 refine⟨_,c - 1,Kd.Ce (c:=c) h Io hc,fun W=> ?_⟩
 have Ea:Tryz.prog.elem 24=5:=by simp [Program.elem,Tryz.underlying24]
 have hu:Tryz.prog.underlying 24=some (.slice (Tryz.prog.elem 24)):=by rw [Ea];exact Tryz.underlying24
 rw [run_slice_l W 24 A t.length c hu .i64 1 (by omega) (by omega),Ea]
 simp [sizeOf,typeInfo,TP,ku.2.1,sliced,Result.andThen,show (Kd.int .u8).sz=1 from rfl]
structure DT (w0:World) (W:World) (v:Value) (xs:List Int) (L:Nat):Prop where
 own:W.ownsRow w0.heap.size 5 1 v xs.length (bp .u8 xs)
 be:Below w0.heap.size w0 W
 len:xs.length≤L
theorem DT.hB {w0 W:World} {v:Value} {xs:List Int} {L:Nat} (h:DT w0 W v xs L):w0.heap.size≤W.heap.size:=h.be.size
theorem DT.below {w0 W W' :World} {v:Value} {xs:List Int} {L:Nat} (h:DT w0 W v xs L) (hb:Below W.heap.size W W'):DT w0 W' v xs L:=⟨cX h.own hb,h.be.trans (hb.mono h.be.size),h.len⟩
theorem DT.eC {w0 W w1:World} {v:Value} {xs:List Int} {L:Nat} (h:DT w0 W v xs L) (hg:W.grownBy w1 v.ownBlock) {g:Nat} {cs:Array Value} (hb:W.heap[g]? =some (.cells cs 68 (0,0))):w1.heap[g]? =some (.cells cs 68 (0,0)):=
 (hg.block g (cT hb) (dJ h.own hb (by decide))).trans hb
theorem DT.slice {w0 W:World} {v:Value} {xs:List Int} {L:Nat} (h:DT w0 W v xs L):∃A n c,v= .slice A n c:=by
 obtain⟨A,c,e⟩:=dP h.own
 exact⟨A,_,c,e⟩
def OL (w:World) (xs:List Int) (e:Ending) (w' :World):Prop:=∃v,e= .returned v∧w'.ownsRow w.heap.size 5 1 v xs.length (bp .u8 xs)∧Below w.heap.size w w'
theorem bP {w w' :World} {g:Nat} {o:Obj} (h:w.heap[g]? =some o) (hb:Below w.heap.size w w'):w'.heap[g]? =some o:=(hb.block g (cT h)).trans h
theorem qA {ws:List (List Int)} (h:∀x∈ws,x.length≤60):(aX ws).length≤61*ws.length:=by
 induction ws with
 | nil=>simp [aX]
 | cons x r ih=>
  have:=ih (fun y hy=>h y (by simp [hy]))
  have hx:=h x (by simp)
  unfold aX at*
  simp only [List.flatMap_cons,List.length_append,List.length_cons]
  omega
theorem DK {ws:List (List Int)} (h:ws≠ []):1≤(aX ws).length:=by
 cases ws with
 | nil=>exact absurd rfl h
 | cons x r=>simp [aX]
theorem nk {w:World} {A:Option Addr} {c:Nat} {ds:List gx} (h:DL w A c ds) (hv:Wi ds) (st:Int) (gV:0≤st) (gW:st≤2):
  Calls Tryz.prog 12 #[.slice A ds.length c,.int .i64 st] w (OL w (dh st ds)):=by
 have hl:=hv.len
 have HV:=am (And.intro h hv)
 clear h hv
 have qf:DT w (w.alloc (.cells #[] 5)) (.slice (some ⟨w.heap.size,0,none⟩) 0 0) (dh st (ds.take 0)) 0:=by
  refine⟨⟨rfl,.inr ⟨w.heap.size,0,#[],rfl,Nat.le_refl _,?_,by simp [dh],by simp [maxLen,dh],by simp,by simp [dh,bp]⟩⟩,au (Below.refl _ _) _,by simp [dh]⟩
  simpa using heap_alloc_new w (.cells #[] 5)
 have rV:=am qf
 clear qf
 go_enter Tryz.func12,Tryz.ntmps12
 go_wp2
 go_loopg [5,11] (ds.length+1) (fun gk v5 v11 wr=>∃j:Int,v11= .int .i64 j∧0≤j∧j≤ds.length∧ak (DT w wr v5 (dh st (ds.take j.toNat)) (1000*j.toNat))∧gk=((ds.length:Int) - j).toNat+1)
 case atStart=>exact⟨0,rfl,by omega,by omega,rV,by omega⟩
 case round=>
  clear rV
  obtain⟨j,rfl,h0,h1,HR,rfl⟩:=hrel
  by_cases hj:j<ds.length
  ·obtain⟨ad,A0,c0,A1,c1,d,rfl,hx,x0,x1,iR,nj⟩:=HV.out.1.get h0 hj
   replace x0:=al HR.out.be x0
   replace x1:=al HR.out.be x1
   have B7:=eq_true h0
   have Kx:=am iR
   have HVL:=am nj
   have HD:=am (And.intro hx (HV.out.2.ok d (List.mem_of_getElem? hx)))
   obtain⟨wl,FT⟩:∃x,(aX d.f1).drop 1=x:=⟨_,rfl⟩
   have MI:ak (1≤(aX d.f1).length∧wl.length≤500∧(aX d.f1).drop 1=wl):=⟨DK HD.out.2.ne,by
    have h1:=qA (ws:=d.f1) (fun x hx=>by obtain⟨qs,hq⟩:=HD.out.2.words.ok x hx;exact hq.len)
    have h2:=HD.out.2.words.len
    rw [←FT,List.length_drop];omega,FT⟩
   clear iR nj hx FT
   obtain⟨L,hL⟩:∃L,1000*j.toNat=L:=⟨_,rfl⟩
   have hLb:L≤10000:=by omega
   rw [hL] at HR
   obtain⟨A5,n5,c5,rfl⟩:=HR.out.slice
   have HP:=am (And.intro (HR.out.below (au (Below.refl _ _) (.cells #[.slice A0 d.f0.length c0,.slice A1 d.f1.length c1] 68))) (heap_alloc_new wr (.cells #[.slice A0 d.f0.length c0,.slice A1 d.f1.length c1] 68)))
   have MJ:=DJ (st:=st) HD.out.1
   have HTX:=am MJ
   clear MJ
   by_cases pb:j=0
   ·subst pb
    have x0' :wr.cell? ad=some (.slice A0 d.f0.length c0):=by rw [←x0];simp [Addr.add]
    have x1' :wr.cell? ⟨ad.block,ad.off+1,none⟩=some (.slice A1 d.f1.length c1):=by rw [←x1];simp [Addr.add]
    clear x0 x1
    go_wp2_with (first
     | (at_builtin;refine cA (w0:=w) w.heap.size rfl (.tmp 24) (.tmp 26) 24 5 .u8 1 (by rfl) Tryz.underlying24 cF (by decide) (.slice A5 n5 c5) _ _ A0 d.f0.length c0 (by rfl) (by rfl) HP.out.1.own (dO (Kd.cG Kx.out.rd HP.out.1.be)) HP.out.1.be HP.out.1.hB (by have:=HP.out.1.len;have:=HD.out.2.name.len;omega) ?_;intro v3 w3 bl hB hg dz;have mA:=am (And.intro (DT.mk (L:=L+30) bl hB (by have a1:=HP.out.1.len;have a2:=HD.out.2.name.len;rw [List.length_append];omega)) (HP.out.1.eC hg HP.out.2));clear bl hB hg dz)
     | (at_builtin;refine cz (w0:=w) w.heap.size rfl (.tmp 27) (.tmp 28) 24 5 .u8 1 (by rfl) Tryz.underlying24 cF (by decide) v3 _ 58 (by rfl) (by first|rfl|simp [Act.eval]) mA.out.1.own mA.out.1.be mA.out.1.hB (by have:=mA.out.1.len;omega) ?_;intro v4 w4 bl hB hg dz;have kp:=am (And.intro (DT.mk (L:=L+31) bl hB (by have a1:=mA.out.1.len;rw [List.length_append,List.length_singleton];omega)) (mA.out.1.eC hg mA.out.2));clear bl hB hg dz)
     | (go_at_call 16;(with_reducible refine(jc st gV gW).mono ?_);rintro e w' ⟨rfl,rfl⟩)
     | (at_builtin;refine dj (w0:=w) w.heap.size rfl (.tmp 29) (.tmp 31) 24 9 5 (by rfl) Tryz.underlying24 Tryz.underlying9 cF v4 _ (k8 st) (by rfl) (by rfl) kp.out.1.own kp.out.1.be kp.out.1.hB (by have:=kp.out.1.len;have:=gQ st;omega) ?_;rw [eV];intro v5b w5 bl hB hg;have nn:=am (And.intro (DT.mk (L:=L+33) bl hB (by have a1:=kp.out.1.len;have a2:=eQ st;rw [List.length_append];omega)) (kp.out.1.eC hg kp.out.2));clear bl hB hg;have y1:w5.cell? ⟨wr.heap.size,1,none⟩=some (.slice A1 d.f1.length c1):=(by rw [ao nn.out.2];rfl))
     | (go_at_call 17;(with_reducible refine(cm.calls _ A1 c1 d.f1 _ _ (Kd.cG HVL.out.rd nn.out.1.be) HVL.out.cap (FR d.f1 (fun x hx=>by obtain⟨qs,hq⟩:=HD.out.2.words.ok x hx;have:=hq.len;omega) (by have:=HD.out.2.words.len;omega) _ (Nat.le_refl _))).mono ?_);rintro e w6 ⟨vw,rfl,Hf,gw⟩;obtain⟨Aw,cw,rfl⟩:=Kd.nD Hf;obtain⟨-,Z6,Z7⟩:=Kd.mD Hf;obtain⟨Aq,cq,Us,Ll⟩:=FU Z6 Z7 MI.out.1;rw [MI.out.2.2] at Us Ll;have DM:=am (And.intro (nn.out.1.below gw) (bP nn.out.2 gw));have HCQ:=am Us;clear Hf gw Z6 Z7 Us)
     | (at_builtin;refine cA (w0:=w) w.heap.size rfl (.tmp 33) (.tmp 37) 24 5 .u8 1 (by rfl) Tryz.underlying24 cF (by decide) v5b _ _ Aq wl.length cq (by rfl) (by rfl) DM.out.1.own (dO HCQ.out) DM.out.1.be DM.out.1.hB (by have:=DM.out.1.len;have:=MI.out.2.1;omega) ?_;intro v7 w7 bl hB hg dz;have HP7:=am (And.intro (DT.mk (L:=L+533) bl hB (by have a1:=DM.out.1.len;have a2:=MI.out.2.1;rw [List.length_append];omega)) (DM.out.1.eC hg DM.out.2));clear bl hB hg dz))
    go_roundg (((ds.length:Int) - (0+1)).toNat+1)
    case measure=>omega
    case rel=>
     refine⟨0+1,rfl,by omega,by omega,⟨?_⟩,rfl⟩
     have h7:=HP7.out.1
     have e:dh st (ds.take (0+1:Int).toNat)=(((((dh st (ds.take (0:Int).toNat)++d.f0)++ [58])++bw st)++wl)):=by
      rw [show (0+1:Int).toNat=(0:Int).toNat+1 by omega,HTX.out]
      unfold mn
      rw [←MI.out.2.2,decide_eq_true (show (0:Int).toNat=0 from rfl)]
      simp
     rw [e]
     exact⟨h7.own,h7.be,by have:=h7.len;omega⟩
   ·have hjz:0<j:=by omega
    go_wp2_with (first
     | (at_builtin;refine cz (w0:=w) w.heap.size rfl (.tmp 18) (.tmp 19) 24 5 .u8 1 (by rfl) Tryz.underlying24 cF (by decide) (.slice A5 n5 c5) _ 59 (by rfl) (by first|rfl|simp [Act.eval]) HP.out.1.own HP.out.1.be HP.out.1.hB (by have:=HP.out.1.len;omega) ?_;intro v1 w1 bl hB hg dz;have qh:=am (And.intro (DT.mk (L:=L+1) bl hB (by have a1:=HP.out.1.len;rw [List.length_append,List.length_singleton];omega)) (HP.out.1.eC hg HP.out.2));clear bl hB hg dz)
     | (go_at_call 16;(with_reducible refine(jc st gV gW).mono ?_);rintro e w' ⟨rfl,rfl⟩)
     | (at_builtin;refine dj (w0:=w) w.heap.size rfl (.tmp 20) (.tmp 22) 24 9 5 (by rfl) Tryz.underlying24 Tryz.underlying9 cF v1 _ (k8 st) (by rfl) (by rfl) qh.out.1.own qh.out.1.be qh.out.1.hB (by have:=qh.out.1.len;have:=gQ st;omega) ?_;rw [eV];intro Z8 w2 bl hB hg;have Lm:=am (And.intro (DT.mk (L:=L+3) bl hB (by have a1:=qh.out.1.len;have a2:=eQ st;rw [List.length_append];omega)) (qh.out.1.eC hg qh.out.2));clear bl hB hg;have y0:w2.cell? ⟨wr.heap.size,0,none⟩=some (.slice A0 d.f0.length c0):=(by rw [ao Lm.out.2];rfl))
     | (at_builtin;refine cA (w0:=w) w.heap.size rfl (.tmp 24) (.tmp 26) 24 5 .u8 1 (by rfl) Tryz.underlying24 cF (by decide) Z8 _ _ A0 d.f0.length c0 (by rfl) (by rfl) Lm.out.1.own (dO (Kd.cG Kx.out.rd Lm.out.1.be)) Lm.out.1.be Lm.out.1.hB (by have:=Lm.out.1.len;have:=HD.out.2.name.len;omega) ?_;intro v3 w3 bl hB hg dz;have mA:=am (And.intro (DT.mk (L:=L+33) bl hB (by have a1:=Lm.out.1.len;have a2:=HD.out.2.name.len;rw [List.length_append];omega)) (Lm.out.1.eC hg Lm.out.2));clear bl hB hg dz)
     | (at_builtin;refine cz (w0:=w) w.heap.size rfl (.tmp 27) (.tmp 28) 24 5 .u8 1 (by rfl) Tryz.underlying24 cF (by decide) v3 _ 58 (by rfl) (by first|rfl|simp [Act.eval]) mA.out.1.own mA.out.1.be mA.out.1.hB (by have:=mA.out.1.len;omega) ?_;intro v4 w4 bl hB hg dz;have kp:=am (And.intro (DT.mk (L:=L+34) bl hB (by have a1:=mA.out.1.len;rw [List.length_append,List.length_singleton];omega)) (mA.out.1.eC hg mA.out.2));clear bl hB hg dz)
     | (go_at_call 16;(with_reducible refine(jc st gV gW).mono ?_);rintro e w' ⟨rfl,rfl⟩)
     | (at_builtin;refine dj (w0:=w) w.heap.size rfl (.tmp 29) (.tmp 31) 24 9 5 (by rfl) Tryz.underlying24 Tryz.underlying9 cF v4 _ (k8 st) (by rfl) (by rfl) kp.out.1.own kp.out.1.be kp.out.1.hB (by have:=kp.out.1.len;have:=gQ st;omega) ?_;rw [eV];intro v5b w5 bl hB hg;have nn:=am (And.intro (DT.mk (L:=L+36) bl hB (by have a1:=kp.out.1.len;have a2:=eQ st;rw [List.length_append];omega)) (kp.out.1.eC hg kp.out.2));clear bl hB hg;have y1:w5.cell? ⟨wr.heap.size,1,none⟩=some (.slice A1 d.f1.length c1):=(by rw [ao nn.out.2];rfl))
     | (go_at_call 17;(with_reducible refine(cm.calls _ A1 c1 d.f1 _ _ (Kd.cG HVL.out.rd nn.out.1.be) HVL.out.cap (FR d.f1 (fun x hx=>by obtain⟨qs,hq⟩:=HD.out.2.words.ok x hx;have:=hq.len;omega) (by have:=HD.out.2.words.len;omega) _ (Nat.le_refl _))).mono ?_);rintro e w6 ⟨vw,rfl,Hf,gw⟩;obtain⟨Aw,cw,rfl⟩:=Kd.nD Hf;obtain⟨-,Z6,Z7⟩:=Kd.mD Hf;obtain⟨Aq,cq,Us,Ll⟩:=FU Z6 Z7 MI.out.1;rw [MI.out.2.2] at Us Ll;have DM:=am (And.intro (nn.out.1.below gw) (bP nn.out.2 gw));have HCQ:=am Us;clear Hf gw Z6 Z7 Us)
     | (at_builtin;refine cA (w0:=w) w.heap.size rfl (.tmp 33) (.tmp 37) 24 5 .u8 1 (by rfl) Tryz.underlying24 cF (by decide) v5b _ _ Aq wl.length cq (by rfl) (by rfl) DM.out.1.own (dO HCQ.out) DM.out.1.be DM.out.1.hB (by have:=DM.out.1.len;have:=MI.out.2.1;omega) ?_;intro v7 w7 bl hB hg dz;have HP7:=am (And.intro (DT.mk (L:=L+536) bl hB (by have a1:=DM.out.1.len;have a2:=MI.out.2.1;rw [List.length_append];omega)) (DM.out.1.eC hg DM.out.2));clear bl hB hg dz))
    go_roundg (((ds.length:Int) - (j+1)).toNat+1)
    case measure=>omega
    case rel=>
     refine⟨j+1,rfl,by omega,by omega,⟨?_⟩,rfl⟩
     have h7:=HP7.out.1
     have e:dh st (ds.take (j+1:Int).toNat)=(((((((dh st (ds.take j.toNat)++ [59])++bw st)++d.f0)++ [58])++bw st)++wl)):=by
      rw [show (j+1:Int).toNat=(j:Int).toNat+1 by omega,HTX.out]
      unfold mn
      rw [←MI.out.2.2,decide_eq_false (show ¬j.toNat=0 by omega)]
      simp
     rw [e]
     exact⟨h7.own,h7.be,by have:=h7.len;omega⟩
  ·have rC:j=ds.length:=by omega
   subst rC
   obtain⟨A5,n5,c5,rfl⟩:=HR.out.slice
   go_wp2
   go_ret
   have h7:=HR.out
   rw [show ((ds.length:Nat):Int).toNat=ds.length by omega,List.take_length] at h7
   exact⟨_,rfl,h7.own,h7.be⟩
def dE (ws:List (List Int)):List Int:=ws.flatMap (·++ [124])
theorem vT {ws:List (List Int)} {j:Nat} {x:List Int} (h:ws[j]? =some x):dE (ws.take (j+1))=dE (ws.take j)++x++ [124]:=by
 unfold dE
 rw [List.take_add_one,h,List.flatMap_append]
 simp
theorem OM {ws:List (List Int)} (j:Nat):(dE (ws.take j)).length≤(dE ws).length:=by
 have:dE ws=dE (ws.take j)++dE (ws.drop j):=by
  unfold dE
  rw [←List.flatMap_append,List.take_append_drop]
 rw [this,List.length_append]
 omega
structure WL (w:World) (A:Option Addr) (c:Nat) (ws:List (List Int)):Prop where
 cap:ws.length≤c
 rd:Kd.C (Kd.slice 5 (Kd.int .u8)) w A ws.length ws
theorem WL.get {w:World} {A:Option Addr} {c:Nat} {ws:List (List Int)} (h:WL w A c ws) {j:Int} (h0:0≤j) (h1:j<ws.length):
  ∃ad A0 c0 x,A=some ad∧ws[j.toNat]? =some x∧w.cell? (ad.add j.toNat)=some (.slice A0 x.length c0)∧x.length≤c0∧Kd.C (Kd.int .u8) w A0 x.length x:=by
 obtain⟨ad,A0,c0,e,x0,x1,x2⟩:=IC h.rd j h0 h1
 have hx:ws[j.toNat]? =some (iA ws j):=by
  unfold iA
  rw [List.getD_eq_getElem?_getD,List.getElem?_eq_getElem (by omega)];rfl
 exact⟨ad,A0,c0,_,e,hx,x0,x1,x2⟩
structure PI (w0 W:World) (kd:ByteArray) (D:Value) (v:Value) (xs:List Int):Prop where
 own:W.ownsRow w0.heap.size 5 1 v xs.length (bp .u8 xs)
 be:Below w0.heap.size w0 W
 out:W.heap[w0.heap.size]? =some (.cells #[.string ⟨#[]⟩,.slice none 0 0,.slice none 0 0,.slice none 0 0,.slice none 0 0,.string ⟨#[]⟩] 55 (0,0))
 eC:W.heap[w0.heap.size+1]? =some (.cells #[.string kd,D,v,.slice none 0 0,.slice none 0 0,.string ⟨#[]⟩] 55 (0,0))
theorem PI.slice {w0 W:World} {kd:ByteArray} {D v:Value} {xs:List Int} (h:PI w0 W kd D v xs):∃A n c,v= .slice A n c:=by
 obtain⟨A,c,e⟩:=dP h.own
 exact⟨A,_,c,e⟩
def PtP (w:World) (kd:ByteArray) (D:Value) (xs:List Int) (e:Ending) (w' :World):Prop:=∃v,e= .returned (.agg #[.string kd,D,v,.slice none 0 0,.slice none 0 0,.string ⟨#[]⟩])∧w'.ownsRow w.heap.size 5 1 v xs.length (bp .u8 xs)∧Below w.heap.size w w'
theorem np {w:World} {A:Option Addr} {c:Nat} {ws:List (List Int)} (kd:ByteArray) (Ad:Option Addr) (nd cd:Nat) (h:WL w A c ws) (hb:(dE ws).length≤1000000) (hl:ws.length≤1000000):
  Calls Tryz.prog 27 #[.string kd,.slice Ad nd cd,.slice A ws.length c] w (PtP w kd (.slice Ad nd cd) (dE ws)):=by
 have HV:=am (And.intro h hb)
 clear h hb
 have qf:PI w ((w.alloc (.cells #[.string ⟨#[]⟩,.slice none 0 0,.slice none 0 0,.slice none 0 0,.slice none 0 0,.string ⟨#[]⟩] 55)).alloc (.cells #[.string kd,.slice Ad nd cd,.slice none 0 0,.slice none 0 0,.slice none 0 0,.string ⟨#[]⟩] 55)) kd (.slice Ad nd cd) (.slice none 0 0) (dE (ws.take 0)):=by
  refine⟨⟨rfl,.inl ⟨rfl,by simp [dE,bp]⟩⟩,au (au (Below.refl _ _) _) _,?_,?_⟩
  ·rw [(World.grownBy_alloc _ _ none).block _ (by simp) (by simp)]
   exact heap_alloc_new w _
  ·have:=heap_alloc_new (w.alloc (.cells #[.string ⟨#[]⟩,.slice none 0 0,.slice none 0 0,.slice none 0 0,.slice none 0 0,.string ⟨#[]⟩] 55)) (.cells #[.string kd,.slice Ad nd cd,.slice none 0 0,.slice none 0 0,.slice none 0 0,.string ⟨#[]⟩] 55)
   simpa using this
 have rV:=am qf
 clear qf
 go_enter Tryz.func27,Tryz.ntmps27
 go_wp2
 go_loopg [15] (ws.length+1) (fun gk v15 wr=>∃j:Int,v15= .int .i64 j∧0≤j∧j≤ws.length∧ak (∃v,PI w wr kd (.slice Ad nd cd) v (dE (ws.take j.toNat)))∧gk=((ws.length:Int) - j).toNat+1)
 case atStart=>exact⟨0,rfl,by omega,by omega,⟨_,rV.out⟩,by omega⟩
 case round=>
  clear rV
  obtain⟨j,rfl,h0,h1,⟨v,hR⟩,rfl⟩:=hrel
  obtain⟨A5,n5,c5,rfl⟩:=hR.slice
  have HR:=am hR
  have y0:wr.cell? ⟨w.heap.size+1,0,none⟩=some (.string kd):=by rw [ao hR.eC];rfl
  have y1:wr.cell? ⟨w.heap.size+1,1,none⟩=some (.slice Ad nd cd):=by rw [ao hR.eC];rfl
  have y2:wr.cell? ⟨w.heap.size+1,2,none⟩=some (.slice A5 n5 c5):=by rw [ao hR.eC];rfl
  have y3:wr.cell? ⟨w.heap.size+1,3,none⟩=some (.slice none 0 0):=by rw [ao hR.eC];rfl
  have y4:wr.cell? ⟨w.heap.size+1,4,none⟩=some (.slice none 0 0):=by rw [ao hR.eC];rfl
  have y5:wr.cell? ⟨w.heap.size+1,5,none⟩=some (.string ⟨#[]⟩):=by rw [ao hR.eC];rfl
  clear hR
  by_cases hj:j<ws.length
  ·obtain⟨ad,A0,c0,x,rfl,hx,x0,x1,x2⟩:=HV.out.1.get h0 hj
   replace x0:=al HR.out.be x0
   have HX:=am (And.intro hx (And.intro x1 x2))
   have hlen:(dE (ws.take j.toNat)++x++ [124]).length≤1000000:=by
    rw [←vT hx]
    have:=OM (ws:=ws) (j.toNat+1)
    have:=HV.out.2
    omega
   have Wj:(dE (ws.take j.toNat)++x).length+1≤1000000:=by rw [List.length_append] at hlen;exact hlen
   have HL:=am Wj
   clear hx x1 x2 hlen Wj
   have B7:=eq_true h0
   go_wp2_with (first
    | (at_builtin;refine cA (w0:=w) w.heap.size rfl (.tmp 20) (.tmp 21) 24 5 .u8 1 (by rfl) Tryz.underlying24 cF (by decide) (.slice A5 n5 c5) _ _ A0 x.length c0 (by rfl) (by rfl) HR.out.own (dO (Kd.cG HX.out.2.2 HR.out.be)) HR.out.be HR.out.be.size (by have:=HL.out;rw [List.length_append] at this;omega) ?_;intro v3 w3 bl hB hg dz;have mA:=am (And.intro bl (And.intro hB hg));clear bl hB hg dz)
    | (at_builtin;refine cz (w0:=w) w.heap.size rfl (.tmp 22) (.tmp 23) 24 5 .u8 1 (by rfl) Tryz.underlying24 cF (by decide) v3 _ 124 (by rfl) (by first|rfl|simp [Act.eval]) mA.out.1 mA.out.2.1 mA.out.2.1.size (by have:=HL.out;omega) ?_;intro v4 w4 bl hB hg dz;obtain⟨A4,c4,rfl⟩:=dP bl;have kp:=am (And.intro bl (And.intro hB hg));clear bl hB hg dz;have dd:=HR.out.eC;replace dd:=cE dd mA.out.2.2 (dJ HR.out.own dd (by decide));replace dd:=cE dd kp.out.2.2 (dJ mA.out.1 dd (by decide));have z2:w4.cell? ⟨w.heap.size+1,2,none⟩=some (.slice A5 n5 c5):=(by rw [ao dd];rfl);have zf:=ai dd 2;have Ut:=am dd;clear dd))
   go_roundg (((ws.length:Int) - (j+1)).toNat+1)
   case measure=>omega
   case rel=>
    refine⟨j+1,rfl,by omega,by omega,⟨.slice A4 (dE (ws.take j.toNat)++x++ [124]).length c4,?_⟩,rfl⟩
    rw [show (j+1).toNat=j.toNat+1 by omega,vT HX.out.1]
    have ho:=HR.out.out
    have ho2:=cE (cE ho mA.out.2.2 (dJ HR.out.own ho (by decide))) kp.out.2.2 (dJ mA.out.1 (cE ho mA.out.2.2 (dJ HR.out.own ho (by decide))) (by decide))
    refine⟨de kp.out.1 (dJ kp.out.1 Ut.out (by decide)) _,fj kp.out.2.1 (by omega),ee ho2 (by simp) _,?_⟩
    have hs:=cj Ut.out 2 (.slice A4 (dE (ws.take j.toNat)++x++ [124]).length c4)
    simp only [List.setIfInBounds_toArray,List.set_cons_zero,List.set_cons_succ] at hs
    simpa only [List.length_append,List.length_cons,List.length_nil,Nat.add_assoc] using hs
  ·have rC:j=ws.length:=by omega
   subst rC
   have b0:=HR.out.out
   have q0:(wr).cell? ⟨w.heap.size,0,none⟩=some (.string ⟨#[]⟩):=by rw [ao b0];rfl
   have f0:(wr).frozen? ⟨w.heap.size,0,none⟩=false:=ai b0 0
   have b1:=cj b0 0 (.string kd)
   have q1:((wr).setCell ⟨w.heap.size,0,none⟩ (.string kd)).cell? ⟨w.heap.size,1,none⟩=some (.slice none 0 0):=by rw [ao b1];rfl
   have f1:((wr).setCell ⟨w.heap.size,0,none⟩ (.string kd)).frozen? ⟨w.heap.size,1,none⟩=false:=ai b1 1
   have b2:=cj b1 1 (.slice Ad nd cd)
   have q2:(((wr).setCell ⟨w.heap.size,0,none⟩ (.string kd)).setCell ⟨w.heap.size,1,none⟩ (.slice Ad nd cd)).cell? ⟨w.heap.size,2,none⟩=some (.slice none 0 0):=by rw [ao b2];rfl
   have f2:(((wr).setCell ⟨w.heap.size,0,none⟩ (.string kd)).setCell ⟨w.heap.size,1,none⟩ (.slice Ad nd cd)).frozen? ⟨w.heap.size,2,none⟩=false:=ai b2 2
   have b3:=cj b2 2 (.slice A5 n5 c5)
   have q3:((((wr).setCell ⟨w.heap.size,0,none⟩ (.string kd)).setCell ⟨w.heap.size,1,none⟩ (.slice Ad nd cd)).setCell ⟨w.heap.size,2,none⟩ (.slice A5 n5 c5)).cell? ⟨w.heap.size,3,none⟩=some (.slice none 0 0):=by rw [ao b3];rfl
   have f3:((((wr).setCell ⟨w.heap.size,0,none⟩ (.string kd)).setCell ⟨w.heap.size,1,none⟩ (.slice Ad nd cd)).setCell ⟨w.heap.size,2,none⟩ (.slice A5 n5 c5)).frozen? ⟨w.heap.size,3,none⟩=false:=ai b3 3
   have b4:=cj b3 3 (.slice none 0 0)
   have q4:(((((wr).setCell ⟨w.heap.size,0,none⟩ (.string kd)).setCell ⟨w.heap.size,1,none⟩ (.slice Ad nd cd)).setCell ⟨w.heap.size,2,none⟩ (.slice A5 n5 c5)).setCell ⟨w.heap.size,3,none⟩ (.slice none 0 0)).cell? ⟨w.heap.size,4,none⟩=some (.slice none 0 0):=by rw [ao b4];rfl
   have f4:(((((wr).setCell ⟨w.heap.size,0,none⟩ (.string kd)).setCell ⟨w.heap.size,1,none⟩ (.slice Ad nd cd)).setCell ⟨w.heap.size,2,none⟩ (.slice A5 n5 c5)).setCell ⟨w.heap.size,3,none⟩ (.slice none 0 0)).frozen? ⟨w.heap.size,4,none⟩=false:=ai b4 4
   have b5:=cj b4 4 (.slice none 0 0)
   have q5:((((((wr).setCell ⟨w.heap.size,0,none⟩ (.string kd)).setCell ⟨w.heap.size,1,none⟩ (.slice Ad nd cd)).setCell ⟨w.heap.size,2,none⟩ (.slice A5 n5 c5)).setCell ⟨w.heap.size,3,none⟩ (.slice none 0 0)).setCell ⟨w.heap.size,4,none⟩ (.slice none 0 0)).cell? ⟨w.heap.size,5,none⟩=some (.string ⟨#[]⟩):=by rw [ao b5];rfl
   have f5:((((((wr).setCell ⟨w.heap.size,0,none⟩ (.string kd)).setCell ⟨w.heap.size,1,none⟩ (.slice Ad nd cd)).setCell ⟨w.heap.size,2,none⟩ (.slice A5 n5 c5)).setCell ⟨w.heap.size,3,none⟩ (.slice none 0 0)).setCell ⟨w.heap.size,4,none⟩ (.slice none 0 0)).frozen? ⟨w.heap.size,5,none⟩=false:=ai b5 5
   have b6:=cj b5 5 (.string ⟨#[]⟩)
   have qg:=am b6
   clear b0 b1 b2 b3 b4 b5 b6
   go_wp2
   (try simp only [Exit.inBlock,Exit.then])
   have h6:=qg.out
   simp only [List.setIfInBounds_toArray,List.set_cons_zero,List.set_cons_succ] at h6
   refine bodyPost_ret (results_cell_row rfl _ _ w.heap.size 55 _ (0,0) _ rfl h6 (by rfl) (by rfl) (by rfl)) rfl ?_
   have hr:=HR.out
   rw [show ((ws.length:Nat):Int).toNat=ws.length by omega,List.take_length] at hr
   have hn:some w.heap.size≠(Value.slice A5 n5 c5).ownBlock:=dJ hr.own hr.out (by decide)
   refine⟨_,rfl,?_,?_⟩
   ·exact de (de (de (de (de (de hr.own hn _) hn _) hn _) hn _) hn _) hn _
   ·exact fj (fj (fj (fj (fj (fj hr.be (Nat.le_refl _)) (Nat.le_refl _)) (Nat.le_refl _)) (Nat.le_refl _)) (Nat.le_refl _)) (Nat.le_refl _)
theorem ON:(Tryz.prog.info? 24).map (fun i=>(i.zero,i.size,i.bytes))=some (some (.slice none 0 0),1,24):=by kernel_rfl
theorem rW (ad:Addr) (k:Nat):(ad.add k).block=ad.block:=by
 unfold Addr.add
 split<;>rfl
theorem nr {α:Type} {R:α→List Value→Prop} {size n:Nat} {w w1:World} {A:Option Addr} {ps:List α} {row:Option Nat} (h:cr R size w A n ps) (hs:0<size) (hg:w.grownBy w1 row) (jJ:∀ad,A=some ad→some ad.block≠row):cr R size w1 A n ps:=by
 refine⟨h.1,h.2.1,fun hp=> ?_⟩
 obtain⟨ad,e,hc⟩:=h.2.2 hp
 refine⟨ad,e,fun j p hj=> ?_⟩
 obtain⟨c,h1,h2,h3⟩:=hc j p hj
 refine⟨c,h1,h2,fun i u hu=> ?_⟩
 have hx:=h3 i u hu
 have eh:ad.block<w.heap.size:=by
  have:=World.block_lt_of_cell? w (ad.add (j*size+i)) hx
  rwa [rW] at this
 have hb:=hg.block ad.block eh (jJ ad e)
 have hbb:w1.heap[(ad.add (j*size+i)).block]? =w.heap[(ad.add (j*size+i)).block]?:=by rw [rW];exact hb
 unfold World.cell? at hx⊢
 rw [hbb]
 exact hx
theorem OO {w W:World} {A:Option Addr} {n:Nat} {ps:List qd} (h:cr (BW.K w) 6 W A n ps) {j:Int} (h0:0≤j) (h1:j<n):
  ∃ad A1 c1 A2 c2 A3 c3 A4 c4 p,A=some ad∧ps[j.toNat]? =some p∧W.cell? (ad.add (j.toNat*6))=some (.string p.f0)∧W.cell? ⟨(ad.add (j.toNat*6)).block,(ad.add (j.toNat*6)).off+1,none⟩=some (.slice A1 p.f1.length c1)∧W.cell? ⟨(ad.add (j.toNat*6)).block,(ad.add (j.toNat*6)).off+2,none⟩=some (.slice A2 p.f2.length c2)∧W.cell? ⟨(ad.add (j.toNat*6)).block,(ad.add (j.toNat*6)).off+3,none⟩=some (.slice A3 p.f3.length c3)∧W.cell? ⟨(ad.add (j.toNat*6)).block,(ad.add (j.toNat*6)).off+4,none⟩=some (.slice A4 p.f4.length c4)∧W.cell? ⟨(ad.add (j.toNat*6)).block,(ad.add (j.toNat*6)).off+5,none⟩=some (.string p.f5)∧p.f1.length≤c1∧Kd.C (Kd.int .u8) w A1 p.f1.length p.f1∧ad.block<W.heap.size:=by
 obtain⟨ad,e,hc⟩:=h.2.2 (by omega)
 have hl:j.toNat<ps.length:=by have:=h.1;omega
 obtain⟨c,k1,k2,k3⟩:=hc j.toNat _ (List.getElem?_eq_getElem hl)
 obtain⟨A1,c1,A2,c2,A3,c3,A4,c4,rfl,l1,g1,l2,g2,l3,g3,l4,g4⟩:=yW k2
 refine⟨ad,A1,c1,A2,c2,A3,c3,A4,c4,_,e,List.getElem?_eq_getElem hl,k3 0 _ rfl,by rw [←cf _ _ 1 (by omega)];exact k3 1 _ rfl,by rw [←cf _ _ 2 (by omega)];exact k3 2 _ rfl,by rw [←cf _ _ 3 (by omega)];exact k3 3 _ rfl,by rw [←cf _ _ 4 (by omega)];exact k3 4 _ rfl,by rw [←cf _ _ 5 (by omega)];exact k3 5 _ rfl,l1,g1,?_⟩
 have:=World.block_lt_of_cell? W (ad.add (j.toNat*6+0)) (k3 0 _ rfl)
 rwa [rW] at this
noncomputable def cI (ws:List (List Int)):List (List Int):=ws.flatMap (fun x=>(fK x).map (·.2))
theorem Hg {ws:List (List Int)} {j:Nat} {x:List Int} (h:ws[j]? =some x):cI (ws.take (j+1))=cI (ws.take j)++(fK x).map (·.2):=by
 unfold cI
 rw [List.take_add_one,h,List.flatMap_append]
 simp
theorem OP {ws:List (List Int)} (j:Nat):(cI (ws.take j)).length≤(cI ws).length:=by
 have:cI ws=cI (ws.take j)++cI (ws.drop j):=by
  unfold cI
  rw [←List.flatMap_append,List.take_append_drop]
 rw [this,List.length_append]
 omega
structure TI (w0 W:World) (v:Value) (ds:List (List Int)):Prop where
 row:∃cs,W.ownsRow w0.heap.size 24 1 v ds.length cs∧eX ((Kd.slice 5 (Kd.int .u8)).K w0) 1 ds cs
 be:Below w0.heap.size w0 W
theorem TI.below {w0 W W' :World} {v:Value} {ds:List (List Int)} (h:TI w0 W v ds) (hb:Below W.heap.size W W'):TI w0 W' v ds:=by
 obtain⟨cs,h1,h2⟩:=h.row
 exact⟨⟨cs,cX h1 hb,h2⟩,h.be.trans (hb.mono h.be.size)⟩
theorem TI.slice {w0 W:World} {v:Value} {ds:List (List Int)} (h:TI w0 W v ds):∃A c,v= .slice A ds.length c∧ds.length≤c∧cr ((Kd.slice 5 (Kd.int .u8)).K w0) 1 W A ds.length ds:=by
 obtain⟨cs,h1,h2⟩:=h.row
 obtain⟨A,c,rfl,h3⟩:=jV h1 h2 rfl
 exact⟨A,c,rfl,Cb h1,h3⟩
theorem TI.lt {w0 W:World} {v:Value} {ds:List (List Int)} (h:TI w0 W v ds):∀b,v.ownBlock=some b→b<W.heap.size:=by
 intro b hb
 obtain⟨cs,⟨_,h1⟩,_⟩:=h.row
 rcases h1 with ⟨rfl,_⟩|⟨g,cap,cur,rfl,hg,hh,_⟩
 ·cases hb
 ·injection hb with hb
  subst hb
  exact cT hh
def ToP (w:World) (ds:List (List Int)) (e:Ending) (w' :World):Prop:=∃A c,e= .returned (.slice A ds.length c)∧WL w' A c ds∧Below w.heap.size w w'
theorem TI.done {w0 W:World} {A:Option Addr} {n c:Nat} {ds:List (List Int)} (h:TI w0 W (.slice A n c) ds):ToP w0 ds (.returned (.slice A n c)) W:=by
 obtain⟨A1,c1,e,h1,h2⟩:=h.slice
 injection e with e1 e2 e3
 subst e1;subst e2;subst e3
 refine⟨A,c,rfl,⟨h1,h2.1,h2.2.1,fun hp=> ?_⟩,h.be⟩
 obtain⟨ad,e,hc⟩:=h2.2.2 hp
 refine⟨ad,e,fun j p hj=> ?_⟩
 obtain⟨c,k1,k2,k3⟩:=hc j p hj
 exact⟨c,k1,Kd.eO _ h.be k2,k3⟩
theorem jd {w:World} {A:Option Addr} {c:Nat} {ws:List (List Int)} (h:VL w A c ws) (hT:fU w) (hn:∀x∈ws,N0 x∧Nb x) (hb:(cI ws).length≤1000000) (hl:ws.length≤1000000):
  Calls Tryz.prog 28 #[.slice A ws.length c] w (ToP w (cI ws)):=by
 have HV:=am h
 have HT:=am hT
 have HN:=am (And.intro hn hb)
 clear h hT hn hb
 have qf:TI w (w.alloc (.cells #[] 24)) (.slice (some ⟨w.heap.size,0,none⟩) 0 0) (cI (ws.take 0)):=by
  refine⟨⟨[],⟨rfl,.inr ⟨w.heap.size,0,#[],rfl,Nat.le_refl _,?_,by simp [cI],by simp [maxLen,cI],by simp,by simp [cI]⟩⟩,eX.none _ _⟩,au (Below.refl _ _) _⟩
  simpa using heap_alloc_new w (.cells #[] 24)
 have rV:=am qf
 clear qf
 go_enter Tryz.func28,Tryz.ntmps28
 go_wp2
 go_loopg [3,13] (ws.length+1) (fun gk v3 v13 wr=>∃j:Int,v13= .int .i64 j∧0≤j∧j≤ws.length∧ak (TI w wr v3 (cI (ws.take j.toNat)))∧gk=((ws.length:Int) - j).toNat+1)
 case atStart=>exact⟨0,rfl,by omega,by omega,rV,by omega⟩
 case round=>
  clear rV
  obtain⟨j,rfl,h0,h1,HR,rfl⟩:=hrel
  obtain⟨A3,c3,rfl,-,-⟩:=HR.out.slice
  by_cases hj:j<ws.length
  ·obtain⟨ad,A0,c0,x,rfl,hx,x0,iR⟩:=HV.out.get h0 hj
   replace x0:=al HR.out.be x0
   have hxn:=HN.out.1 x (List.mem_of_getElem? hx)
   have HX:=am (And.intro hx (And.intro iR hxn))
   have htd:=Hg hx
   have HTD:=am htd
   have hle:=OP (ws:=ws) (j.toNat+1)
   have HLE:=am (show (cI (ws.take (j.toNat+1))).length≤1000000 by have:=HN.out.2;omega)
   clear hx iR hxn htd hle
   have B7:=eq_true h0
   go_wp2_with (first
    | (go_at_call 49;(with_reducible refine(tokens (AU HX.out.2.1.tx) HX.out.2.1 HR.out.be (HT.out.below HR.out.be)).mono ?_);rintro e w1 ⟨A5,c5,ps,ok,rfl,⟨q1,qb⟩,q2,q3,q4,q5,q6⟩;have HQ:=am (And.intro q3 (And.intro q4 (And.intro qb (q6.2 HX.out.2.2.1 HX.out.2.2.2).1)));clear q3 q4 qb q5 q6))
   have Zj:TI w w1 (.slice A3 (cI (ws.take j.toNat)).length c3) (cI (ws.take j.toNat)++(ps.map (·.f1)).take 0)∧cr (BW.K w) 6 w1 A5 ps.length ps∧(∀ad,A5=some ad→some ad.block≠(Value.slice A3 (cI (ws.take j.toNat)).length c3).ownBlock):=by
    refine⟨by simpa using HR.out.below HQ.out.2.1,HQ.out.1,fun ad ha hh=> ?_⟩
    have k1:=HQ.out.2.2.1 ad ha
    have k2:=HR.out.lt _ hh.symm
    omega
   have aQ:=am Zj
   clear Zj q1 q2
   have e9:ps.map (·.f1)=(fK x).map (·.2):=by rw [HQ.out.2.2.2,List.map_map];rfl
   have Wk:ps.length≤1000000:=by
    have e1:=HLE.out
    have e2:=congrArg List.length e9
    rw [HTD.out,List.length_append,List.length_map] at e1
    rw [List.length_map,List.length_map] at e2
    omega
   have E9:=am e9
   clear e9
   go_loopg [3,24] (ps.length+1) (fun gk v3 v24 ww=>∃k:Int,v24= .int .i64 k∧0≤k∧k≤ps.length∧ak (TI w ww v3 (cI (ws.take j.toNat)++(ps.map (·.f1)).take k.toNat)∧cr (BW.K w) 6 ww A5 ps.length ps∧(∀ad,A5=some ad→some ad.block≠v3.ownBlock))∧gk=((ps.length:Int) - k).toNat+1)
   case atStart=>exact⟨0,rfl,by omega,by omega,aQ,by omega⟩
   case round=>
    clear aQ
    obtain⟨k,rfl,k0,k1,HI,rfl⟩:=hrel
    obtain⟨A6,c6,rfl,-,-⟩:=HI.out.1.slice
    by_cases hk:k<ps.length
    ·obtain⟨ad5,A1,c1,A2,c2,A3',c3',A4,c4,p,rfl,hp,y0,y1,y2,y3,y4,y5,l1,g1,eh⟩:=OO HI.out.2.1 k0 hk
     have Im:=eq_true k0
     have HP:=am (And.intro hp (And.intro l1 (And.intro g1 eh)))
     obtain⟨cs,bl,AT⟩:=(HI.out.1.below (au (Below.refl _ wr) (.cells #[.string p.f0,.slice A1 p.f1.length c1,.slice A2 p.f2.length c2,.slice A3' p.f3.length c3',.slice A4 p.f4.length c4,.string p.f5] 55))).row
     have hbe:=(HI.out.1.below (au (Below.refl _ wr) (.cells #[.string p.f0,.slice A1 p.f1.length c1,.slice A2 p.f2.length c2,.slice A3' p.f3.length c3',.slice A4 p.f4.length c4,.string p.f5] 55))).be
     have hlen:(cI (ws.take j.toNat)++(ps.map (·.f1)).take k.toNat).length≤1000000:=by
      have e1:=HLE.out
      rw [HTD.out,List.length_append,List.length_map] at e1
      have e2:=congrArg List.length HQ.out.2.2.2
      rw [List.length_map] at e2
      rw [List.length_append,List.length_take,List.length_map]
      change ps.length=(fK x).length at e2
      omega
     have HO:=am (And.intro bl (And.intro AT (And.intro hbe hlen)))
     clear hp l1 g1 eh bl AT hbe hlen
     go_wp2_with (first
      | (at_builtin;refine di (w0:=w) w.heap.size rfl (.tmp 28) (.tmp 31) 36 24 _ 1 24 (by rfl) Tryz.underlying36 ON rfl (by decide) (by decide) (.slice A6 (cI (ws.take j.toNat)++(ps.map (·.f1)).take k.toNat).length c6) _ cs [.slice A1 p.f1.length c1] (by rfl) (by simp [Act.eval]) rfl (by intro u hu;simp at hu;rw [hu];rfl) HO.out.1 HO.out.2.2.1 HO.out.2.2.1.size (by have:=HO.out.2.2.2;omega) ?_;intro v1 w6 dW mv jm mq;have P1:=am (And.intro dW (And.intro mv (And.intro jm mq)));clear dW mv jm mq))
     go_roundg (((ps.length:Int) - (k+1)).toNat+1)
     case measure=>omega
     case rel=>
      refine⟨k+1,rfl,by omega,by omega,⟨?_,?_,?_⟩,rfl⟩
      ·obtain⟨p1,p2,p3,p4⟩:=HP.out
       obtain⟨s1,s2,s3,s4⟩:=P1.out
       have e:(ps.map (·.f1)).take (k+1).toNat=(ps.map (·.f1)).take k.toNat++ [p.f1]:=by
        rw [show (k+1).toNat=k.toNat+1 by omega,List.take_add_one,List.getElem?_map,p1];rfl
       rw [e,←List.append_assoc]
       refine⟨⟨_,?_,eX.snoc HO.out.2.1 (p:=p.f1) (c:=[.slice A1 p.f1.length c1]) ⟨A1,c1,rfl,p2,p3⟩ rfl⟩,s2⟩
       rw [List.length_append,List.length_singleton]
       exact s1
      ·obtain⟨s1,s2,s3,s4⟩:=P1.out
       have r1:=nr HI.out.2.1 (by decide) (World.grownBy_alloc wr (.cells #[.string p.f0,.slice A1 p.f1.length c1,.slice A2 p.f2.length c2,.slice A3' p.f3.length c3',.slice A4 p.f4.length c4,.string p.f5] 55) none) (fun ad _=>by simp)
       exact nr r1 (by decide) s3 HI.out.2.2
      ·intro ad ha hh
       obtain⟨s1,s2,s3,s4⟩:=P1.out
       injection ha with ha
       subst ha
       rcases s4 with s4|⟨b,s4,s5⟩
       ·exact HI.out.2.2 _ rfl (hh.trans s4)
       ·rw [s4] at hh
        injection hh with hh
        have:=HP.out.2.2.2
        have e8:(wr.alloc (.cells #[.string p.f0,.slice A1 p.f1.length c1,.slice A2 p.f2.length c2,.slice A3' p.f3.length c3',.slice A4 p.f4.length c4,.string p.f5] 55)).heap.size=wr.heap.size+1:=by simp
        omega
    ·have hke:k=ps.length:=by omega
     subst hke
     go_wp2
     go_roundg (((ws.length:Int) - (j+1)).toNat+1)
     case measure=>omega
     case rel=>
      refine⟨j+1,rfl,by omega,by omega,⟨?_⟩,rfl⟩
      have hi:=HI.out.1
      have e:cI (ws.take (j+1).toNat)=cI (ws.take j.toNat)++(ps.map (·.f1)).take ((ps.length:Nat):Int).toNat:=by
       rw [show (j+1).toNat=j.toNat+1 by omega,HTD.out,List.take_of_length_le (l:=ps.map (·.f1)) (by rw [List.length_map];omega),E9.out]
      rw [e]
      have eL:(cI (ws.take j.toNat)++(ps.map (·.f1)).take ((ps.length:Nat):Int).toNat).length=(cI (ws.take j.toNat)).length+ps.length:=by rw [List.length_append,List.length_take,List.length_map];omega
      rw [eL] at hi
      exact hi
  ·have rC:j=ws.length:=by omega
   subst rC
   go_wp2
   go_ret
   have hr:=HR.out
   rw [show ((ws.length:Nat):Int).toNat=ws.length by omega,List.take_length] at hr
   exact hr.done
end Go.Proofs.YtlglijnaeaonpaaGreatDoor.Lx
end
