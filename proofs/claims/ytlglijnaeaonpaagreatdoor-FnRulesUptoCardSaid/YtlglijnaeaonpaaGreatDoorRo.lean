/- FnRules: a part of the proof (Ro). -/
import Derived.Test.YtlglijnaeaonpaaGreatDoorRk
import Derived.Deep.DeepBigQuietO
import Derived.Deep.DeepMust
import Derived.Deep.CutBlock
import Derived.Test.YtlglijnaeaonpaaGreatDoorRn
import Derived.ArgAppend
section
set_option maxHeartbeats 8000000
set_option maxRecDepth 100000
set_option linter.unusedVariables false
set_option linter.unusedSimpArgs false
namespace Go.Proofs.YtlglijnaeaonpaaGreatDoor.Lx
open Go.RowKit Go.Proofs.YtlglijnaeaonpaaGreatDoorW.aC Go.Proofs.YtlglijnaeaonpaaGreatDoor.bG
def fU (w:World):Prop:=(∀x:Nat,x<256→∃v:Nat,v<256∧w.cell? ⟨2,x,none⟩=some (.int .u8 v))∧
 (∀j:Nat,j<16→∃lo hi:Int,w.cell? ⟨3,j*2,none⟩=some (.int .u8 lo)∧w.cell? ⟨3,j*2+1,none⟩=some (.int .u8 hi))
theorem fU.below {w w' :World} (h:fU w) (hb:Below w.heap.size w w'):fU w':=by
 refine⟨fun x hx=> ?_,fun j hj=> ?_⟩
 ·obtain⟨v,h1,h2⟩:=h.1 x hx
  exact⟨v,h1,al hb h2⟩
 ·obtain⟨lo,hi,h1,h2⟩:=h.2 j hj
  exact⟨lo,hi,al hb h1,al hb h2⟩
structure VB (w:World) (A:Option Addr) (c:Nat) (t:List Int):Prop where
 cap:t.length≤c
 rd:Kd.C (Kd.int .u8) w A t.length t
 oj:∀j:Nat,0≤t.getD j 0∧t.getD j 0≤255
 len:t.length≤2147483647
theorem VB.below {w w' :World} {A:Option Addr} {c:Nat} {t:List Int} (h:VB w A c t) (hb:Below w.heap.size w w'):VB w' A c t:=⟨h.cap,Kd.cG h.rd hb,h.oj,h.len⟩
theorem VB.drop {w:World} {A:Option Addr} {c:Nat} {t:List Int} (h:VB w A c t) (lo:Nat) (Io:lo≤t.length):
  ∃A1 c1,VB w A1 c1 (t.drop lo)∧∀W:World,(Instr.slice 24 (.slice A t.length c) (some (.int .i64 (lo:Int))) none none).run Tryz.prog W= .ok (.slice A1 (t.drop lo).length c1) W:=by
 obtain⟨i0,TP,ku⟩:=Option.map_eq_some_iff.1 cF
 simp only [Prod.mk.injEq] at ku
 refine⟨_,c - lo,⟨by have:=h.cap;rw [List.length_drop];omega,Kd.Ce (c:=c) h.rd Io h.cap,fun j=> ?_,by have:=h.len;rw [List.length_drop];omega⟩,fun W=> ?_⟩
 ·rw [List.getD_eq_getElem?_getD,List.getElem?_drop,←List.getD_eq_getElem?_getD];exact h.oj _
 ·have Ea:Tryz.prog.elem 24=5:=by simp [Program.elem,Tryz.underlying24]
  have hu:Tryz.prog.underlying 24=some (.slice (Tryz.prog.elem 24)):=by rw [Ea];exact Tryz.underlying24
  rw [run_slice_l W 24 A t.length c hu .i64 (lo:Int) (by omega) (by omega),Ea]
  simp [sizeOf,typeInfo,TP,ku.2.1,sliced,Result.andThen,show (Kd.int .u8).sz=1 from rfl]
theorem VB.cells {w:World} {A:Option Addr} {c:Nat} {t:List Int} (h:VB w A c t) (hp:0<t.length):∃ad:Addr,A=some ad∧∀j:Nat,j<t.length→w.cell? (ad.add j)=some (.int .u8 (t.getD j 0)):=by
 obtain⟨ad,e,hc⟩:=h.rd.2.2 hp
 refine⟨ad,e,fun j hj=> ?_⟩
 obtain⟨cs,h1,h2,h3⟩:=hc j (t.getD j 0) (by rw [List.getD_eq_getElem?_getD,List.getElem?_eq_getElem hj];rfl)
 have h2:cs= [.int .u8 (t.getD j 0)]:=h2
 have:=h3 0 (.int .u8 (t.getD j 0)) (by rw [h2];rfl)
 rwa [show (Kd.int .u8).sz=1 from rfl,Nat.mul_one,Nat.add_zero] at this
theorem VB.word {w:World} {A:Option Addr} {c:Nat} {t:List Int} (h:VB w A c t) (hp:8≤t.length):∃v,∀W,Below w.heap.size w W→Calls Tryz.prog 133 #[.slice A t.length c] W fun e w' =>e= .returned (.int .u64 v)∧∃q,w' =W.drewN q:=by
 obtain⟨v,hv⟩:∃v,fF.f t=some v:=by
  unfold fF.f
  rw [if_pos (by omega),if_pos (by omega),if_pos (by omega),if_pos (by omega),if_pos (by omega),if_pos (by omega),if_pos (by omega),if_pos (by omega)]
  exact⟨_,rfl⟩
 exact⟨v,fun W hW=>(fF.calls A c t v W (Kd.cG h.rd hW) h.cap hv).mono fun e w' ⟨he,hn⟩=>⟨he,hn.out⟩⟩
theorem Fx :∀X:Fin 256,bits .and .u8 ((X.val:Nat):Int) 7=((X.val % 8:Nat):Int):=by decide
theorem aU {B:Nat} {a w:World} (h:Below B a w):∀q,Below B a (w.drewN q):=fun q=>bn h q
theorem nh (l:List Value) (hl:l.length=188):∃f:Nat→Value,(∀i,l.getD i default=f i)∧l=f 0::f 1::f 2::f 3::f 4::f 5::f 6::f 7::f 8::f 9::f 10::f 11::f 12::f 13::f 14::f 15::f 16::f 17::f 18::f 19::f 20::f 21::f 22::f 23::f 24::f 25::f 26::f 27::f 28::f 29::f 30::f 31::f 32::f 33::f 34::f 35::f 36::f 37::f 38::f 39::f 40::f 41::f 42::f 43::f 44::f 45::f 46::f 47::f 48::f 49::f 50::f 51::f 52::f 53::f 54::f 55::f 56::f 57::f 58::f 59::f 60::f 61::f 62::f 63::f 64::f 65::f 66::f 67::f 68::f 69::f 70::f 71::f 72::f 73::f 74::f 75::f 76::f 77::f 78::f 79::f 80::f 81::f 82::f 83::f 84::f 85::f 86::f 87::f 88::f 89::f 90::f 91::f 92::f 93::f 94::f 95::f 96::f 97::f 98::f 99::f 100::f 101::f 102::f 103::f 104::f 105::f 106::f 107::f 108::f 109::f 110::f 111::f 112::f 113::f 114::f 115::f 116::f 117::f 118::f 119::f 120::f 121::f 122::f 123::f 124::f 125::f 126::f 127::f 128::f 129::f 130::f 131::f 132::f 133::f 134::f 135::f 136::f 137::f 138::f 139::f 140::f 141::f 142::f 143::f 144::f 145::f 146::f 147::f 148::f 149::f 150::f 151::f 152::f 153::f 154::f 155::f 156::f 157::f 158::f 159::f 160::f 161::f 162::f 163::f 164::f 165::f 166::f 167::f 168::f 169::f 170::f 171::f 172::f 173::f 174::f 175::f 176::f 177::f 178::f 179::f 180::f 181::f 182::f 183::f 184::f 185::f 186::f 187:: []:=by
 refine⟨fun i=>l.getD i default,fun _=>rfl,?_⟩
 conv=>lhs;rw [iP l,hl]
 kernel_rfl
noncomputable def vb:Code:=(Tryz.f103.body.bind dT).getD .skip
def VI (w:World) (l:List Value) (wr:World) (t:List Int):Prop:=l.length=188∧∃At ct,l.getD 0 default= .slice At t.length ct∧VB w At ct t∧Below w.heap.size w wr
section
variable {w wr:World} {l:List Value} {t:List Int} {J:Act→World→Prop} {Q:Exit→Act→World→Prop}
theorem aeO (h:VI w l wr t) (h0:0<t.length) (pP:t.getD 0 0<128) (hJ:∀l2 w2 t2,VI w l2 w2 t2→t2.length<t.length→J ⟨l2.toArray,[]⟩ w2):
  Code.wp Tryz.prog vb (Exit.then J Q) ⟨l.toArray,[]⟩ wr:=by
 obtain⟨iQ,At,ct,mb,iR,oQ⟩:=h
 have AN:=iR.len
 obtain⟨f,hf,rfl⟩:=nh l iQ
 rw [hf] at mb
 rw [mb]
 have HJ:=am hJ
 clear hf iQ mb hJ
 have Zk:(0:Int)<(t.length:Int):=by omega
 obtain⟨ad,rfl,bR⟩:=(iR.below oQ).cells h0
 have xO:=iR.oj 0
 obtain⟨x0,yG⟩:∃x0:Nat,t.getD 0 0=(x0:Int):=⟨(t.getD 0 0).toNat,by omega⟩
 have Fy:x0<256:=by omega
 have gh:=bR 0 h0
 rw [yG] at gh
 have AR :wr.cell? ad=some (.int .u8 (x0:Int)):=by rw [←gh];simp [Addr.add]
 have Kx:=am iR
 have T5:=am bR
 clear iR bR xO
 have Ov:x0<128:=by omega
 clear pP yG
 conv=>arg 2;whnf
 have Fz:((x0:Int)<128):=by omega
 obtain⟨A1,c1,Zi,Ip⟩:=Kx.out.drop 1 (by omega)
 obtain⟨t1,G6⟩:∃t1,t.drop 1=t1:=⟨_,rfl⟩
 rw [G6] at Zi Ip
 have oz:t1.length+1=t.length:=by rw [←G6,List.length_drop];omega
 have aeP :∀W:World,(Instr.slice 24 (.slice (some ad) t.length ct) (some (.int .i64 1)) none none).run Tryz.prog W= .ok (.slice A1 t1.length c1) W:=Ip
 have HV1:=am Zi
 clear Ip Zi G6
 by_cases c8:8<t1.length
 ·have c8z:(8:Int)<(t1.length:Int):=by omega
  obtain⟨v1,cW1⟩:=HV1.out.word (by omega)
  obtain⟨A2,c2,sY,YR⟩:=HV1.out.drop 8 (by omega)
  obtain⟨t2,Il⟩:∃t2,t1.drop 8=t2:=⟨_,rfl⟩
  rw [Il] at sY YR
  have wi:t2.length+8=t1.length:=by rw [←Il,List.length_drop];omega
  have aeQ :∀W:World,(Instr.slice 24 (.slice A1 t1.length c1) (some (.int .i64 8)) none none).run Tryz.prog W= .ok (.slice A2 t2.length c2) W:=YR
  have Zl:=am sY
  have CW1:=am cW1
  clear YR sY Il cW1
  obtain⟨Z1,hZ1⟩:∃Z1,bits .and .u64 v1 9259542123273814144=Z1:=⟨_,rfl⟩
  by_cases o0:Z1=0
  ·have aeR:(Z1==0)=true:=by simp [o0]
   clear o0
   go_wp2_with (go_at_call 133;((with_reducible refine(CW1.out _ oQ).mono ?_);rintro e W1 ⟨rfl,q1,rfl⟩))
   have eW:Below w.heap.size w (wr.drewN q1):=aU oQ q1
   generalize wr.drewN q1=wq at eW⊢
   clear oQ gh AR aeP
   by_cases QN:16<t2.length
   ·have Zm:(16:Int)<(t2.length:Int):=by omega
    obtain⟨v2,cW2⟩:=Zl.out.word (by omega)
    obtain⟨A3,c3,hv3,hs3⟩:=Zl.out.drop 8 (by omega)
    obtain⟨t3,ht3⟩:∃t3,t2.drop 8=t3:=⟨_,rfl⟩
    rw [ht3] at hv3 hs3
    have hl3:t3.length+8=t2.length:=by rw [←ht3,List.length_drop];omega
    have aeS :∀W:World,(Instr.slice 24 (.slice A2 t2.length c2) (some (.int .i64 8)) none none).run Tryz.prog W= .ok (.slice A3 t3.length c3) W:=hs3
    obtain⟨v3,cW3⟩:=hv3.word (by omega)
    obtain⟨A4,c4,hv4,Zn⟩:=Zl.out.drop 16 (by omega)
    obtain⟨t4,ht4⟩:∃t4,t2.drop 16=t4:=⟨_,rfl⟩
    rw [ht4] at hv4 Zn
    have We:t4.length+16=t2.length:=by rw [←ht4,List.length_drop];omega
    have aeT :∀W:World,(Instr.slice 24 (.slice A2 t2.length c2) (some (.int .i64 16)) none none).run Tryz.prog W= .ok (.slice A4 t4.length c4) W:=Zn
    have HV4:=am hv4
    have cw2:=cW2 wq eW
    have cw3:=cW3
    have CW2:=am cW2
    have CW3:=am cW3
    clear hs3 hv3 ht3 cW2 cW3 Zn hv4 ht4 cw2 cw3
    obtain⟨Z2,hZ2⟩:∃Z2,bits .and .u64 (bits .or .u64 v2 v3) 9259542123273814144=Z2:=⟨_,rfl⟩
    have aeU:=eW.size
    have qq2:∀W,Below w.heap.size w W→Calls Tryz.prog 133 #[.slice A2 t2.length c2] W fun e w' =>e= .returned (.int .u64 v2)∧∃q,w' =W.drewN q:=CW2.out
    have Q2:=am qq2
    have Q3:=am CW3.out
    clear qq2
    by_cases sc:Z2=0
    ·have aeV:(Z2==0)=true:=by simp [sc]
     clear sc
     go_quiet ((first|(go_at_call 133;(with_reducible refine Calls.quiet_of (Q2.out _ ?_));(first|exact eW|exact aU eW _))|(go_at_call 133;(with_reducible refine Calls.quiet_of (Q3.out _ ?_));(first|exact eW|exact aU eW _))))
     have dc:Below w.heap.size w (wq.drewN nq):=aU eW nq
     generalize wq.drewN nq=wq2 at dc⊢
     clear Q2 Q3 CW2 CW3 CW1 eW aeU aeS aeQ
     go_wp2
     clear aeT
     go_loopg [0] (t4.length+1) (fun g2 s0 wx=>Below w.heap.size w wx∧∃(u:List Int) (Au:Option Addr) (cu:Nat),s0= .slice Au u.length cu∧ak (VB w Au cu u)∧u.length<g2∧u.length≤t4.length)
     case atStart=>exact⟨dc,t4,_,_,rfl,HV4,by omega,Nat.le_refl _⟩
     case round=>
      obtain⟨xP,u,Au,cu,rfl,HU,hgu,hut⟩:=hrel
      by_cases vC:32<u.length
      ·obtain⟨g3,rfl⟩:∃g3,gk=g3+1:=⟨gk - 1,by omega⟩
       have Zo:(32:Int)<(u.length:Int):=by omega
       obtain⟨Ab,cb,Ky,Kz⟩:=HU.out.drop 8 (by omega)
       obtain⟨ub,KA⟩:∃x,u.drop 8=x:=⟨_,rfl⟩
       rw [KA] at Ky Kz
       have agD:ub.length+8=u.length:=by rw [←KA,List.length_drop];omega
       have aeW:∀W:World,(Instr.slice 24 (.slice Au u.length cu) (some (.int .i64 8)) none none).run Tryz.prog W= .ok (.slice Ab ub.length cb) W:=Kz
       have Zp:=am Ky
       clear Kz Ky KA
       obtain⟨Ac,cc,KB,KC⟩:=HU.out.drop 16 (by omega)
       obtain⟨uc,KD⟩:∃x,u.drop 16=x:=⟨_,rfl⟩
       rw [KD] at KB KC
       have agE:uc.length+16=u.length:=by rw [←KD,List.length_drop];omega
       have aeX:∀W:World,(Instr.slice 24 (.slice Au u.length cu) (some (.int .i64 16)) none none).run Tryz.prog W= .ok (.slice Ac uc.length cc) W:=KC
       have Zq:=am KB
       clear KC KB KD
       obtain⟨Ad,cd,KE,KF⟩:=HU.out.drop 24 (by omega)
       obtain⟨ud,KG⟩:∃x,u.drop 24=x:=⟨_,rfl⟩
       rw [KG] at KE KF
       have agF:ud.length+24=u.length:=by rw [←KG,List.length_drop];omega
       have aeY:∀W:World,(Instr.slice 24 (.slice Au u.length cu) (some (.int .i64 24)) none none).run Tryz.prog W= .ok (.slice Ad ud.length cd) W:=KF
       have Zr:=am KE
       clear KF KE KG
       obtain⟨Ae,ce,KH,KI⟩:=HU.out.drop 32 (by omega)
       obtain⟨ue,KJ⟩:∃x,u.drop 32=x:=⟨_,rfl⟩
       rw [KJ] at KH KI
       have agG:ue.length+32=u.length:=by rw [←KJ,List.length_drop];omega
       have aeZ:∀W:World,(Instr.slice 24 (.slice Au u.length cu) (some (.int .i64 32)) none none).run Tryz.prog W= .ok (.slice Ae ue.length ce) W:=KI
       have Zs:=am KH
       clear KI KH KJ
       obtain⟨b0,cB0⟩:=HU.out.word (by omega)
       obtain⟨b1,cB1⟩:=Zp.out.word (by omega)
       obtain⟨b2,cB2⟩:=Zq.out.word (by omega)
       obtain⟨b3,cB3⟩:=Zr.out.word (by omega)
       have B0:=am cB0
       have B1:=am cB1
       have B2:=am cB2
       have B3:=am cB3
       clear cB0 cB1 cB2 cB3
       obtain⟨Z3,hZ3⟩:∃Z3,bits .and .u64 (bits .or .u64 (bits .or .u64 b0 b1) (bits .or .u64 b2 b3)) 9259542123273814144=Z3:=⟨_,rfl⟩
       by_cases hz3:Z3=0
       ·have afa:(Z3==0)=true:=by simp [hz3]
        clear hz3
        go_wp2_with fail
        go_quiet ((first|(go_at_call 133;(with_reducible refine Calls.quiet_of (B0.out _ ?_));(first|exact xP|exact aU xP _))|(go_at_call 133;(with_reducible refine Calls.quiet_of (B1.out _ ?_));(first|exact xP|exact aU xP _))|(go_at_call 133;(with_reducible refine Calls.quiet_of (B2.out _ ?_));(first|exact xP|exact aU xP _))|(go_at_call 133;(with_reducible refine Calls.quiet_of (B3.out _ ?_));(first|exact xP|exact aU xP _))))
        go_wp2
        go_roundg g3
        case measure=>omega
        case rel=>exact⟨aU xP nq,ue,_,_,rfl,Zs,by omega,by omega⟩
       ·have afa:(Z3==0)=false:=by simp [hz3]
        clear hz3
        go_wp2_with fail
        go_quiet ((first|(go_at_call 133;(with_reducible refine Calls.quiet_of (B0.out _ ?_));(first|exact xP|exact aU xP _))|(go_at_call 133;(with_reducible refine Calls.quiet_of (B1.out _ ?_));(first|exact xP|exact aU xP _))|(go_at_call 133;(with_reducible refine Calls.quiet_of (B2.out _ ?_));(first|exact xP|exact aU xP _))|(go_at_call 133;(with_reducible refine Calls.quiet_of (B3.out _ ?_));(first|exact xP|exact aU xP _))))
        go_wp2
        exact HJ.out _ _ u ⟨by kernel_rfl,_,_,rfl,HU.out,aU xP nq⟩ (by omega)
      ·have Zo:¬((32:Int)<(u.length:Int)):=by omega
       have agY:decide ((32:Int)<(u.length:Int))=false:=decide_eq_false Zo
       go_wp2_with fail
       go_quiet (fail)
       go_wp2
       exact HJ.out _ _ u ⟨by kernel_rfl,_,_,rfl,HU.out,aU xP nq⟩ (by omega)
    ·have aeV:(Z2==0)=false:=by simp [sc]
     clear sc
     go_quiet ((first|(go_at_call 133;(with_reducible refine Calls.quiet_of (Q2.out _ ?_));(first|exact eW|exact aU eW _))|(go_at_call 133;(with_reducible refine Calls.quiet_of (Q3.out _ ?_));(first|exact eW|exact aU eW _))))
     go_wp2
     exact HJ.out _ _ t2 ⟨by kernel_rfl,_,_,rfl,Zl.out,aU eW nq⟩ (by omega)
   ·have Zm:¬((16:Int)<(t2.length:Int)):=by omega
    have agZ:decide ((16:Int)<(t2.length:Int))=false:=decide_eq_false Zm
    go_quiet (fail)
    go_wp2
    exact HJ.out _ _ t2 ⟨by kernel_rfl,_,_,rfl,Zl.out,aU eW nq⟩ (by omega)
  ·have aeR:(Z1==0)=false:=by simp [o0]
   clear o0
   go_wp2_with (go_at_call 133;((with_reducible refine(CW1.out _ oQ).mono ?_);rintro e W1 ⟨rfl,q1,rfl⟩))
   exact HJ.out _ _ t1 ⟨by kernel_rfl,_,_,rfl,HV1.out,aU oQ q1⟩ (by omega)
 ·have c8z:¬((8:Int)<(t1.length:Int)):=by omega
  go_wp2
  exact HJ.out _ _ t1 ⟨by kernel_rfl,_,_,rfl,HV1.out,oQ⟩ (by omega)
theorem T6 (h:VI w l wr t) (h0:0<t.length) (hT:fU w) (X:Nat) (oR:w.cell? ⟨2,(t.getD 0 0).toNat,none⟩=some (.int .u8 X)) (DA:X<256) (hs:X % 8=2) (pP:128≤t.getD 0 0) (hJ:∀l2 w2 t2,VI w l2 w2 t2→t2.length<t.length→J ⟨l2.toArray,[]⟩ w2) (hR:∀(l2:List Value) w2,l2.length=188→l2.getD 2 default= .bool false→Below w.heap.size w w2→Q .ret ⟨l2.toArray,[]⟩ w2):
  Code.wp Tryz.prog vb (Exit.then J Q) ⟨l.toArray,[]⟩ wr:=by
 obtain⟨iQ,At,ct,mb,iR,oQ⟩:=h
 have AN:=iR.len
 obtain⟨f,hf,rfl⟩:=nh l iQ
 rw [hf] at mb
 rw [mb]
 have HJ:=am hJ
 clear hf iQ mb hJ
 have Zk:(0:Int)<(t.length:Int):=by omega
 obtain⟨ad,rfl,bR⟩:=(iR.below oQ).cells h0
 have xO:=iR.oj 0
 obtain⟨x0,yG⟩:∃x0:Nat,t.getD 0 0=(x0:Int):=⟨(t.getD 0 0).toNat,by omega⟩
 have Fy:x0<256:=by omega
 have gh:=bR 0 h0
 rw [yG] at gh
 have AR :wr.cell? ad=some (.int .u8 (x0:Int)):=by rw [←gh];simp [Addr.add]
 have Kx:=am iR
 have T5:=am bR
 clear iR bR xO
 have Ov:¬x0<128:=by omega
 have HT:=am hT
 have HR:=am hR
 have KK:wr.cell? ⟨2,x0,none⟩=some (.int .u8 X):=by rw [yG] at oR;exact al oQ oR
 clear pP yG hR hT oR
 conv=>arg 2;whnf
 have Fz:¬((x0:Int)<128):=by omega
 have h7:=Fx ⟨X,DA⟩
 simp only at h7
 obtain⟨LO,HI,Wf,Wg⟩:=(HT.out.below oQ).2 (X / 16) (by omega)
 have om:Below wr.heap.size wr (wr.alloc (.cells #[.int .u8 LO,.int .u8 HI] 146)):=au (Below.refl _ _) _
 have B4:Below w.heap.size w (wr.alloc (.cells #[.int .u8 LO,.int .u8 HI] 146)):=au oQ _
 have rU:=am B4
 have uU:=am om
 clear om B4
 obtain⟨x1,G7⟩:∃x,t.getD 1 0=x:=⟨_,rfl⟩
 obtain⟨x2,DB⟩:∃x,t.getD 2 0=x:=⟨_,rfl⟩
 obtain⟨x3,B5⟩:∃x,t.getD 3 0=x:=⟨_,rfl⟩
 have HX:=am (And.intro G7 (And.intro DB B5))
 clear G7 DB B5
 have Zt:(X:Int) % 8=2:=by omega
 clear hs
 go_upto_region 18 with fail
 clear gh AR KK Wf Wg h7
 have QO:ak (∀j:Nat,j<t.length→(wr.alloc (.cells #[.int .u8 LO,.int .u8 HI] 146)).cell? (ad.add j)=some (.int .u8 (t.getD j 0))):=am fun j hj=>al uU.out (T5.out j hj)
 have Io:(wr.alloc (.cells #[.int .u8 LO,.int .u8 HI] 146)).cell? ⟨wr.heap.size,0,none⟩=some (.int .u8 LO):=by rw [ao (heap_alloc_new wr _)];rfl
 have hhi:(wr.alloc (.cells #[.int .u8 LO,.int .u8 HI] 146)).cell? ⟨wr.heap.size,1,none⟩=some (.int .u8 HI):=by rw [ao (heap_alloc_new wr _)];rfl
 generalize wr.alloc (.cells #[.int .u8 LO,.int .u8 HI] 146)=W at*
 by_cases q0:t.length<2
 ·have z0:(t.length:Int)<2:=by omega
  go_quiet (fail)
  go_wp2
  exact HR.out _ _ (by kernel_rfl) rfl (aU rU.out _)
 ·have z0:¬((t.length:Int)<2):=by omega
  have hp1:W.cell? ⟨ad.block,ad.off+1,none⟩=some (.int .u8 x1):=by rw [←HX.out.1];exact QO.out 1 (by omega)
  have N4:(1:Int)<(t.length:Int):=by omega
  by_cases q1:x1<LO
  ·have z1:x1<LO:=by omega
   go_quiet (fail)
   go_wp2
   exact HR.out _ _ (by kernel_rfl) rfl (aU rU.out _)
  ·have z1:¬(x1<LO):=by omega
   by_cases q2:HI<x1
   ·have z2:HI<x1:=by omega
    go_quiet (fail)
    go_wp2
    exact HR.out _ _ (by kernel_rfl) rfl (aU rU.out _)
   ·have z2:¬(HI<x1):=by omega
    obtain⟨An,cn,KL,KM⟩:=Kx.out.drop 2 (by omega)
    obtain⟨tn,KN⟩:∃x,t.drop 2=x:=⟨_,rfl⟩
    rw [KN] at KL KM
    have hln:tn.length+2=t.length:=by rw [←KN,List.length_drop];omega
    have hsx:∀W:World,(Instr.slice 24 (.slice (some ad) t.length ct) (some (.int .i64 2)) none none).run Tryz.prog W= .ok (.slice An tn.length cn) W:=KM
    have Zu:=am KL
    clear KM KL KN
    go_quiet (fail)
    go_wp2
    exact HJ.out _ _ tn ⟨by kernel_rfl,_,_,rfl,Zu.out,aU rU.out nq⟩ (by omega)
theorem T7 (h:VI w l wr t) (h0:0<t.length) (hT:fU w) (X:Nat) (oR:w.cell? ⟨2,(t.getD 0 0).toNat,none⟩=some (.int .u8 X)) (DA:X<256) (hs:X % 8=3) (pP:128≤t.getD 0 0) (hJ:∀l2 w2 t2,VI w l2 w2 t2→t2.length<t.length→J ⟨l2.toArray,[]⟩ w2) (hR:∀(l2:List Value) w2,l2.length=188→l2.getD 2 default= .bool false→Below w.heap.size w w2→Q .ret ⟨l2.toArray,[]⟩ w2):
  Code.wp Tryz.prog vb (Exit.then J Q) ⟨l.toArray,[]⟩ wr:=by
 obtain⟨iQ,At,ct,mb,iR,oQ⟩:=h
 have AN:=iR.len
 obtain⟨f,hf,rfl⟩:=nh l iQ
 rw [hf] at mb
 rw [mb]
 have HJ:=am hJ
 clear hf iQ mb hJ
 have Zk:(0:Int)<(t.length:Int):=by omega
 obtain⟨ad,rfl,bR⟩:=(iR.below oQ).cells h0
 have xO:=iR.oj 0
 obtain⟨x0,yG⟩:∃x0:Nat,t.getD 0 0=(x0:Int):=⟨(t.getD 0 0).toNat,by omega⟩
 have Fy:x0<256:=by omega
 have gh:=bR 0 h0
 rw [yG] at gh
 have AR :wr.cell? ad=some (.int .u8 (x0:Int)):=by rw [←gh];simp [Addr.add]
 have Kx:=am iR
 have T5:=am bR
 clear iR bR xO
 have Ov:¬x0<128:=by omega
 have HT:=am hT
 have HR:=am hR
 have KK:wr.cell? ⟨2,x0,none⟩=some (.int .u8 X):=by rw [yG] at oR;exact al oQ oR
 clear pP yG hR hT oR
 conv=>arg 2;whnf
 have Fz:¬((x0:Int)<128):=by omega
 have h7:=Fx ⟨X,DA⟩
 simp only at h7
 obtain⟨LO,HI,Wf,Wg⟩:=(HT.out.below oQ).2 (X / 16) (by omega)
 have om:Below wr.heap.size wr (wr.alloc (.cells #[.int .u8 LO,.int .u8 HI] 146)):=au (Below.refl _ _) _
 have B4:Below w.heap.size w (wr.alloc (.cells #[.int .u8 LO,.int .u8 HI] 146)):=au oQ _
 have rU:=am B4
 have uU:=am om
 clear om B4
 obtain⟨x1,G7⟩:∃x,t.getD 1 0=x:=⟨_,rfl⟩
 obtain⟨x2,DB⟩:∃x,t.getD 2 0=x:=⟨_,rfl⟩
 obtain⟨x3,B5⟩:∃x,t.getD 3 0=x:=⟨_,rfl⟩
 have HX:=am (And.intro G7 (And.intro DB B5))
 clear G7 DB B5
 have Zt:(X:Int) % 8=3:=by omega
 clear hs
 go_upto_region 22 with fail
 clear gh AR KK Wf Wg h7
 have QO:ak (∀j:Nat,j<t.length→(wr.alloc (.cells #[.int .u8 LO,.int .u8 HI] 146)).cell? (ad.add j)=some (.int .u8 (t.getD j 0))):=am fun j hj=>al uU.out (T5.out j hj)
 have Io:(wr.alloc (.cells #[.int .u8 LO,.int .u8 HI] 146)).cell? ⟨wr.heap.size,0,none⟩=some (.int .u8 LO):=by rw [ao (heap_alloc_new wr _)];rfl
 have hhi:(wr.alloc (.cells #[.int .u8 LO,.int .u8 HI] 146)).cell? ⟨wr.heap.size,1,none⟩=some (.int .u8 HI):=by rw [ao (heap_alloc_new wr _)];rfl
 generalize wr.alloc (.cells #[.int .u8 LO,.int .u8 HI] 146)=W at*
 by_cases q0:t.length<3
 ·have z0:(t.length:Int)<3:=by omega
  go_quiet (fail)
  go_wp2
  exact HR.out _ _ (by kernel_rfl) rfl (aU rU.out _)
 ·have z0:¬((t.length:Int)<3):=by omega
  have hp1:W.cell? ⟨ad.block,ad.off+1,none⟩=some (.int .u8 x1):=by rw [←HX.out.1];exact QO.out 1 (by omega)
  have N4:(1:Int)<(t.length:Int):=by omega
  have hp2:W.cell? ⟨ad.block,ad.off+2,none⟩=some (.int .u8 x2):=by rw [←HX.out.2.1];exact QO.out 2 (by omega)
  have N5:(2:Int)<(t.length:Int):=by omega
  by_cases q1:x1<LO
  ·have z1:x1<LO:=by omega
   go_quiet (fail)
   go_wp2
   exact HR.out _ _ (by kernel_rfl) rfl (aU rU.out _)
  ·have z1:¬(x1<LO):=by omega
   by_cases q2:HI<x1
   ·have z2:HI<x1:=by omega
    go_quiet (fail)
    go_wp2
    exact HR.out _ _ (by kernel_rfl) rfl (aU rU.out _)
   ·have z2:¬(HI<x1):=by omega
    by_cases q3:x2<128
    ·have z3:x2<128:=by omega
     go_quiet (fail)
     go_wp2
     exact HR.out _ _ (by kernel_rfl) rfl (aU rU.out _)
    ·have z3:¬(x2<128):=by omega
     by_cases q4:191<x2
     ·have z4:191<x2:=by omega
      go_quiet (fail)
      go_wp2
      exact HR.out _ _ (by kernel_rfl) rfl (aU rU.out _)
     ·have z4:¬(191<x2):=by omega
      obtain⟨An,cn,KL,KM⟩:=Kx.out.drop 3 (by omega)
      obtain⟨tn,KN⟩:∃x,t.drop 3=x:=⟨_,rfl⟩
      rw [KN] at KL KM
      have hln:tn.length+3=t.length:=by rw [←KN,List.length_drop];omega
      have hsx:∀W:World,(Instr.slice 24 (.slice (some ad) t.length ct) (some (.int .i64 3)) none none).run Tryz.prog W= .ok (.slice An tn.length cn) W:=KM
      have Zu:=am KL
      clear KM KL KN
      go_quiet (fail)
      go_wp2
      exact HJ.out _ _ tn ⟨by kernel_rfl,_,_,rfl,Zu.out,aU rU.out nq⟩ (by omega)
theorem T8 (h:VI w l wr t) (h0:0<t.length) (hT:fU w) (X:Nat) (oR:w.cell? ⟨2,(t.getD 0 0).toNat,none⟩=some (.int .u8 X)) (DA:X<256) (hs:X % 8=4) (pP:128≤t.getD 0 0) (hJ:∀l2 w2 t2,VI w l2 w2 t2→t2.length<t.length→J ⟨l2.toArray,[]⟩ w2) (hR:∀(l2:List Value) w2,l2.length=188→l2.getD 2 default= .bool false→Below w.heap.size w w2→Q .ret ⟨l2.toArray,[]⟩ w2):
  Code.wp Tryz.prog vb (Exit.then J Q) ⟨l.toArray,[]⟩ wr:=by
 obtain⟨iQ,At,ct,mb,iR,oQ⟩:=h
 have AN:=iR.len
 obtain⟨f,hf,rfl⟩:=nh l iQ
 rw [hf] at mb
 rw [mb]
 have HJ:=am hJ
 clear hf iQ mb hJ
 have Zk:(0:Int)<(t.length:Int):=by omega
 obtain⟨ad,rfl,bR⟩:=(iR.below oQ).cells h0
 have xO:=iR.oj 0
 obtain⟨x0,yG⟩:∃x0:Nat,t.getD 0 0=(x0:Int):=⟨(t.getD 0 0).toNat,by omega⟩
 have Fy:x0<256:=by omega
 have gh:=bR 0 h0
 rw [yG] at gh
 have AR :wr.cell? ad=some (.int .u8 (x0:Int)):=by rw [←gh];simp [Addr.add]
 have Kx:=am iR
 have T5:=am bR
 clear iR bR xO
 have Ov:¬x0<128:=by omega
 have HT:=am hT
 have HR:=am hR
 have KK:wr.cell? ⟨2,x0,none⟩=some (.int .u8 X):=by rw [yG] at oR;exact al oQ oR
 clear pP yG hR hT oR
 conv=>arg 2;whnf
 have Fz:¬((x0:Int)<128):=by omega
 have h7:=Fx ⟨X,DA⟩
 simp only at h7
 obtain⟨LO,HI,Wf,Wg⟩:=(HT.out.below oQ).2 (X / 16) (by omega)
 have om:Below wr.heap.size wr (wr.alloc (.cells #[.int .u8 LO,.int .u8 HI] 146)):=au (Below.refl _ _) _
 have B4:Below w.heap.size w (wr.alloc (.cells #[.int .u8 LO,.int .u8 HI] 146)):=au oQ _
 have rU:=am B4
 have uU:=am om
 clear om B4
 obtain⟨x1,G7⟩:∃x,t.getD 1 0=x:=⟨_,rfl⟩
 obtain⟨x2,DB⟩:∃x,t.getD 2 0=x:=⟨_,rfl⟩
 obtain⟨x3,B5⟩:∃x,t.getD 3 0=x:=⟨_,rfl⟩
 have HX:=am (And.intro G7 (And.intro DB B5))
 clear G7 DB B5
 have Zt:(X:Int) % 8=4:=by omega
 clear hs
 go_upto_region 26 with fail
 clear gh AR KK Wf Wg h7
 have QO:ak (∀j:Nat,j<t.length→(wr.alloc (.cells #[.int .u8 LO,.int .u8 HI] 146)).cell? (ad.add j)=some (.int .u8 (t.getD j 0))):=am fun j hj=>al uU.out (T5.out j hj)
 have Io:(wr.alloc (.cells #[.int .u8 LO,.int .u8 HI] 146)).cell? ⟨wr.heap.size,0,none⟩=some (.int .u8 LO):=by rw [ao (heap_alloc_new wr _)];rfl
 have hhi:(wr.alloc (.cells #[.int .u8 LO,.int .u8 HI] 146)).cell? ⟨wr.heap.size,1,none⟩=some (.int .u8 HI):=by rw [ao (heap_alloc_new wr _)];rfl
 generalize wr.alloc (.cells #[.int .u8 LO,.int .u8 HI] 146)=W at*
 by_cases q0:t.length<4
 ·have z0:(t.length:Int)<4:=by omega
  go_quiet (fail)
  go_wp2
  exact HR.out _ _ (by kernel_rfl) rfl (aU rU.out _)
 ·have z0:¬((t.length:Int)<4):=by omega
  have hp1:W.cell? ⟨ad.block,ad.off+1,none⟩=some (.int .u8 x1):=by rw [←HX.out.1];exact QO.out 1 (by omega)
  have N4:(1:Int)<(t.length:Int):=by omega
  have hp2:W.cell? ⟨ad.block,ad.off+2,none⟩=some (.int .u8 x2):=by rw [←HX.out.2.1];exact QO.out 2 (by omega)
  have N5:(2:Int)<(t.length:Int):=by omega
  have hp3:W.cell? ⟨ad.block,ad.off+3,none⟩=some (.int .u8 x3):=by rw [←HX.out.2.2];exact QO.out 3 (by omega)
  have hq3:(3:Int)<(t.length:Int):=by omega
  by_cases q1:x1<LO
  ·have z1:x1<LO:=by omega
   go_quiet (fail)
   go_wp2
   exact HR.out _ _ (by kernel_rfl) rfl (aU rU.out _)
  ·have z1:¬(x1<LO):=by omega
   by_cases q2:HI<x1
   ·have z2:HI<x1:=by omega
    go_quiet (fail)
    go_wp2
    exact HR.out _ _ (by kernel_rfl) rfl (aU rU.out _)
   ·have z2:¬(HI<x1):=by omega
    by_cases q3:x2<128
    ·have z3:x2<128:=by omega
     go_quiet (fail)
     go_wp2
     exact HR.out _ _ (by kernel_rfl) rfl (aU rU.out _)
    ·have z3:¬(x2<128):=by omega
     by_cases q4:191<x2
     ·have z4:191<x2:=by omega
      go_quiet (fail)
      go_wp2
      exact HR.out _ _ (by kernel_rfl) rfl (aU rU.out _)
     ·have z4:¬(191<x2):=by omega
      by_cases q5:x3<128
      ·have z5:x3<128:=by omega
       go_quiet (fail)
       go_wp2
       exact HR.out _ _ (by kernel_rfl) rfl (aU rU.out _)
      ·have z5:¬(x3<128):=by omega
       by_cases q6:191<x3
       ·have z6:191<x3:=by omega
        go_quiet (fail)
        go_wp2
        exact HR.out _ _ (by kernel_rfl) rfl (aU rU.out _)
       ·have z6:¬(191<x3):=by omega
        obtain⟨An,cn,KL,KM⟩:=Kx.out.drop 4 (by omega)
        obtain⟨tn,KN⟩:∃x,t.drop 4=x:=⟨_,rfl⟩
        rw [KN] at KL KM
        have hln:tn.length+4=t.length:=by rw [←KN,List.length_drop];omega
        have hsx:∀W:World,(Instr.slice 24 (.slice (some ad) t.length ct) (some (.int .i64 4)) none none).run Tryz.prog W= .ok (.slice An tn.length cn) W:=KM
        have Zu:=am KL
        clear KM KL KN
        go_quiet (fail)
        go_wp2
        exact HJ.out _ _ tn ⟨by kernel_rfl,_,_,rfl,Zu.out,aU rU.out nq⟩ (by omega)
theorem T9 (h:VI w l wr t) (h0:0<t.length) (hT:fU w) (X:Nat) (oR:w.cell? ⟨2,(t.getD 0 0).toNat,none⟩=some (.int .u8 X)) (DA:X<256) (hs:X % 8≠2∧X % 8≠3∧X % 8≠4) (pP:128≤t.getD 0 0) (hR:∀(l2:List Value) w2,l2.length=188→l2.getD 2 default= .bool false→Below w.heap.size w w2→Q .ret ⟨l2.toArray,[]⟩ w2):
  Code.wp Tryz.prog vb (Exit.then J Q) ⟨l.toArray,[]⟩ wr:=by
 obtain⟨iQ,At,ct,mb,iR,oQ⟩:=h
 have AN:=iR.len
 obtain⟨f,hf,rfl⟩:=nh l iQ
 rw [hf] at mb
 rw [mb]
 clear hf iQ mb
 have Zk:(0:Int)<(t.length:Int):=by omega
 obtain⟨ad,rfl,bR⟩:=(iR.below oQ).cells h0
 have xO:=iR.oj 0
 obtain⟨x0,yG⟩:∃x0:Nat,t.getD 0 0=(x0:Int):=⟨(t.getD 0 0).toNat,by omega⟩
 have Fy:x0<256:=by omega
 have gh:=bR 0 h0
 rw [yG] at gh
 have AR :wr.cell? ad=some (.int .u8 (x0:Int)):=by rw [←gh];simp [Addr.add]
 have Kx:=am iR
 have T5:=am bR
 clear iR bR xO
 have Ov:¬x0<128:=by omega
 have HT:=am hT
 have HR:=am hR
 have KK:wr.cell? ⟨2,x0,none⟩=some (.int .u8 X):=by rw [yG] at oR;exact al oQ oR
 clear pP yG hR hT oR
 conv=>arg 2;whnf
 have Fz:¬((x0:Int)<128):=by omega
 have h7:=Fx ⟨X,DA⟩
 simp only at h7
 obtain⟨LO,HI,Wf,Wg⟩:=(HT.out.below oQ).2 (X / 16) (by omega)
 have om:Below wr.heap.size wr (wr.alloc (.cells #[.int .u8 LO,.int .u8 HI] 146)):=au (Below.refl _ _) _
 have B4:Below w.heap.size w (wr.alloc (.cells #[.int .u8 LO,.int .u8 HI] 146)):=au oQ _
 have rU:=am B4
 have uU:=am om
 clear om B4
 obtain⟨x1,G7⟩:∃x,t.getD 1 0=x:=⟨_,rfl⟩
 obtain⟨x2,DB⟩:∃x,t.getD 2 0=x:=⟨_,rfl⟩
 obtain⟨x3,B5⟩:∃x,t.getD 3 0=x:=⟨_,rfl⟩
 have HX:=am (And.intro G7 (And.intro DB B5))
 clear G7 DB B5
 have JR:((X:Int) % 8==2)=false:=by simp;omega
 have hn3:((X:Int) % 8==3)=false:=by simp;omega
 have hn4:((X:Int) % 8==4)=false:=by simp;omega
 clear hs
 go_wp2
 exact HR.out _ _ (by kernel_rfl) rfl (rU.out)
theorem afb (h:VI w l wr t) (h0:¬0<t.length) (hE:∀(l2:List Value) w2,l2.length=188→Below w.heap.size w w2→Q (.exit 0) ⟨l2.toArray,[]⟩ w2):
  Code.wp Tryz.prog vb (Exit.then J Q) ⟨l.toArray,[]⟩ wr:=by
 obtain⟨iQ,At,ct,mb,iR,oQ⟩:=h
 have AN:=iR.len
 obtain⟨f,hf,rfl⟩:=nh l iQ
 rw [hf] at mb
 rw [mb]
 have HE:=am hE
 clear hf iQ mb hE
 have Zk:¬((0:Int)<(t.length:Int)):=by omega
 conv=>arg 2;whnf
 go_wp2_with fail
 exact HE.out _ _ (by kernel_rfl) oQ
end
theorem G8 {w:World} {A:Option Addr} {c:Nat} {xs:List Int} (h:VB w A c xs) (hT:fU w):
  Calls Tryz.prog 103 #[.slice A xs.length c] w fun e w' =>(e= .returned (.bool true)∨e= .returned (.bool false))∧Below w.heap.size w w':=by
 have hcut:∀W:World,(Instr.slice 24 (.slice A xs.length c) none (some (.int .i64 xs.length)) (some (.int .i64 xs.length))).run Tryz.prog W= .ok (.slice A xs.length xs.length) W:=by
  intro W
  obtain⟨i0,TP,ku⟩:=Option.map_eq_some_iff.1 cF
  simp only [Prod.mk.injEq] at ku
  have Ea:Tryz.prog.elem 24=5:=by simp [Program.elem,Tryz.underlying24]
  have hu:Tryz.prog.underlying 24=some (.slice (Tryz.prog.elem 24)):=by rw [Ea];exact Tryz.underlying24
  rw [run_slice_hm W 24 A xs.length c hu .i64 .i64 (xs.length:Int) (xs.length:Int) (by omega) (by omega) (by have:=h.cap;omega),Ea]
  simp [sizeOf,typeInfo,TP,ku.2.1,sliced,Result.andThen]
  cases A<;>simp [Addr.add]
 have h' :VB w A xs.length xs:=⟨Nat.le_refl _,h.rd,h.oj,h.len⟩
 have hl:=h.len
 have HV:=am h'
 have HT:=am hT
 clear h h' hT
 go_enter Tryz.func103,Tryz.ntmps103
 go_wp2
 clear hcut
 rename_i Q' K hK
 have HK:=am hK
 clear hK
 refine(show Code.wp Tryz.prog (.loop vb) _ _ _ from ?_)
 refine cZ (c:=vb) 188 (fun g l wx=>∃t,g=t.length∧VI w l wx t) xs.length _ (by kernel_rfl) ⟨xs,rfl,by kernel_rfl,A,_,rfl,HV.out,Below.refl _ _⟩ ?_
 rintro n l wx hl ⟨t,rfl,hV⟩ J hJ
 have hr:∀(l2:List Value) w2,l2.length=188→l2.getD 2 default= .bool false→Below w.heap.size w w2→(Exit.inBlock 0 (Exit.then K Q')) .ret ⟨l2.toArray,[]⟩ w2:=by
  intro l2 w2 h1 h2 h3
  obtain⟨f,hf,rfl⟩:=nh l2 h1
  rw [hf] at h2
  rw [h2]
  clear hf h2
  simp only [Exit.inBlock,Exit.then]
  go_ret
  exact⟨.inr rfl,h3⟩
 have hj:∀l2 w2 t2,VI w l2 w2 t2→t2.length<t.length→J ⟨l2.toArray,[]⟩ w2:=fun l2 w2 t2 h1 h2=>hJ t2.length l2 w2 h2 h1.1 ⟨t2,rfl,h1⟩
 by_cases h0:0<t.length
 ·by_cases h1:t.getD 0 0<128
  ·exact aeO hV h0 h1 hj
  ·have hb:=(id hV).2
   obtain⟨At,ct,_,iR,_⟩:=hb
   have qS:=iR.oj 0
   obtain⟨X,hX,KK⟩:=HT.out.1 (t.getD 0 0).toNat (by omega)
   by_cases s2:X % 8=2
   ·exact T6 hV h0 HT.out X KK hX s2 (by omega) hj hr
   by_cases s3:X % 8=3
   ·exact T7 hV h0 HT.out X KK hX s3 (by omega) hj hr
   by_cases s4:X % 8=4
   ·exact T8 hV h0 HT.out X KK hX s4 (by omega) hj hr
   exact T9 hV h0 HT.out X KK hX ⟨s2,s3,s4⟩ (by omega) hr
 ·refine afb hV h0 ?_
  intro l2 w2 h1 h2
  refine HK.out _ _ ?_
  obtain⟨f,hf,rfl⟩:=nh l2 h1
  clear hf
  go_wp2_with fail
  go_ret
  exact⟨.inl rfl,h2⟩
theorem KO :(Tryz.prog.info? 55).map (fun i=>(i.zero,i.size,i.bytes))=some (some (.agg #[.string ⟨#[]⟩,.slice none 0 0,.slice none 0 0,.slice none 0 0,.slice none 0 0,.string ⟨#[]⟩]),6,128):=by kernel_rfl
theorem VB.tx {w:World} {A:Option Addr} {c:Nat} {t:List Int} (h:VB w A c t):Tx t:=⟨h.len,h.oj⟩
theorem oS {w:World} {A:Option Addr} {c:Nat} {t:List Int} {x:Int} {b:Bool} (h:VB w A c t) (hf:∀k,t.length+1≤k→cD.f k t x=some b):
  Calls Tryz.prog 53 #[.slice A t.length c,.int .u8 x] w fun e w' =>e= .returned (.bool b)∧Below w.heap.size w w' :=
 (cD.calls _ A c t x b w h.rd h.cap (hf _ (Nat.le_refl _))).mono fun e w' ⟨he,n,hn⟩=>⟨he,hn▸bn (Below.refl _ _) n⟩
theorem xQ {w:World} {A:Option Addr} {c:Nat} {t:List Int} (h:VB w A c t) (hT:fU w):
  Calls Tryz.prog 66 #[.slice A t.length c] w fun e w' =>((e= .returned (.bool true)∧¬Nb t)∨e= .returned (.bool false))∧Below w.heap.size w w':=by
 obtain⟨b,hb,dc⟩:=vO t 92 (by have:=h.len;omega)
 have HV:=am h
 have HT:=am hT
 have HB:=am (And.intro hb dc)
 clear h hT hb dc
 cases b with
 | false=>
  go_enter Tryz.func66,Tryz.ntmps66
  go_wp2_with (first
   | (go_at_call 53;(with_reducible refine(oS HV.out HB.out.1).mono ?_);rintro e w1 ⟨rfl,eW⟩;have pa:=am eW;clear eW))
  go_ret
  exact⟨.inr rfl,pa.out⟩
 | true=>
  have Ii:¬Nb t:=fun hn=>by
   obtain⟨m,hm,he⟩:=HB.out.2.1 rfl
   exact hn m (by unfold at_;rw [show ((m:Int)).toNat=m by omega];exact he)
  have HNB:=am Ii
  clear Ii
  go_enter Tryz.func66,Tryz.ntmps66
  go_wp2_with (first
   | (go_at_call 53;(with_reducible refine(oS HV.out HB.out.1).mono ?_);rintro e w1 ⟨rfl,eW⟩;have pa:=am eW;clear eW)
   | (go_at_call 103;(with_reducible refine(G8 (HV.out.below pa.out) (HT.out.below pa.out)).mono ?_);rintro e w2 ⟨rfl|rfl,dc⟩<;>have kY:=am (pa.out.trans (dc.mono pa.out.size))<;>clear dc))
  ·go_ret
   exact⟨.inr rfl,kY.out⟩
  ·go_ret
   exact⟨.inl ⟨rfl,HNB.out⟩,kY.out⟩
inductive yH (xs:List Int):List (ByteArray×List Int)→Int→Bool→Prop where
 | nil:yH xs [] 0 false
 | snoc (ps:List (ByteArray×List Int)) (i:Int) (kind:ByteArray) (i' :Int) (o' :Bool) (h:yH xs ps i false) (h0:0≤i) (h1:i' ≤xs.length) (hk:kind.size≤16∧GU xs i kind i' o'):yH xs (ps++ [(kind,mid xs i i')]) i' o'
def rB (p:ByteArray×List Int):qd:=⟨p.1,p.2,[],[],[],⟨#[]⟩⟩
theorem yH.sz {xs:List Int} {qs:List (ByteArray×List Int)} {i:Int} {o:Bool} (h:yH xs qs i o):∀p∈qs.map rB,p.f0.size≤16:=by
 induction h with
 | nil=>intro p hp;cases hp
 | snoc ps i kind i' o' h h0 h1 hk ih=>
  intro p hp
  rw [List.map_append,List.mem_append] at hp
  rcases hp with hp|hp
  ·exact ih p hp
  ·simp at hp
   subst hp
   exact hk.1
def ni (w0:World) (B:Nat) (w:World) (v:Value) (ps:List qd):Prop:=∃cs,w.ownsRow B 55 6 v ps.length cs∧eX (BW.K w0) 6 ps cs
theorem ni.read {w0 w:World} {B:Nat} {v:Value} {ps:List qd} (h:ni w0 B w v ps):∃A c,v= .slice A ps.length c∧ps.length≤c∧cr (BW.K w0) 6 w A ps.length ps:=by
 obtain⟨cs,h1,h2⟩:=h
 obtain⟨A,c,rfl,h3⟩:=jV h1 h2 rfl
 exact⟨A,c,rfl,Cb h1,h3⟩
theorem KP {w0 w:World} {A:Option Addr} {n:Nat} {ps:List qd} (h:cr (BW.K w0) 6 w A n ps) (hb:Below w0.heap.size w0 w):Kd.C BW w A n ps:=
 ⟨h.1,h.2.1,fun hp=>by
  obtain⟨ad,e,hc⟩:=h.2.2 hp
  refine⟨ad,e,fun j p hj=> ?_⟩
  obtain⟨c,h1,h2,h3⟩:=hc j p hj
  exact⟨c,h1,BW.eO hb h2,h3⟩⟩
def fJ (xs:List Int) (F:Int→Bool→ByteArray×Int×Bool):Nat→List (ByteArray×List Int)×Int×Bool
 | 0=>([],0,false)
 | n+1=>if (fJ xs F n).2.1<xs.length∧(fJ xs F n).2.2=false then ((fJ xs F n).1++ [((F (fJ xs F n).2.1 false).1,mid xs (fJ xs F n).2.1 (F (fJ xs F n).2.1 false).2.1)],(F (fJ xs F n).2.1 false).2.1,(F (fJ xs F n).2.1 false).2.2) else fJ xs F n
def G9 (xs:List Int) (F:Int→Bool→ByteArray×Int×Bool):Prop:=∀(i:Int) (o:Bool),0≤i→i<xs.length→C4 68 [] xs i o (GU xs i) (F i o)
theorem Zv (xs:List Int) (hx:Tx xs):∃F,G9 xs F:=by
 have h:∀p:Int×Bool,∃r,(0≤p.1→p.1<xs.length→C4 68 [] xs p.1 p.2 (GU xs p.1) r):=by
  intro p
  by_cases hp:0≤p.1∧p.1<xs.length
  ·obtain⟨r,hr⟩:=J4 p.2 hx hp.1 hp.2
   exact⟨r,fun _ _=>hr⟩
  ·exact⟨default,fun h1 h2=>absurd ⟨h1,h2⟩ hp⟩
 refine⟨fun i o=>Classical.choose (h (i,o)),fun i o h0 h1=>Classical.choose_spec (h (i,o)) h0 h1⟩
theorem AS {xs:List Int} {F:Int→Bool→ByteArray×Int×Bool} {n:Nat} (h:(fJ xs F n).2.1<xs.length) (h2:(fJ xs F n).2.2=false):fJ xs F (n+1)=((fJ xs F n).1++ [((F (fJ xs F n).2.1 false).1,mid xs (fJ xs F n).2.1 (F (fJ xs F n).2.1 false).2.1)],(F (fJ xs F n).2.1 false).2.1,(F (fJ xs F n).2.1 false).2.2):=by
 show (if _ then _ else _)=_
 rw [if_pos ⟨h,h2⟩]
theorem tz {xs:List Int} {F:Int→Bool→ByteArray×Int×Bool} {n:Nat} (h:¬((fJ xs F n).2.1<xs.length∧(fJ xs F n).2.2=false)):∀m,fJ xs F (n+m)=fJ xs F n:=by
 intro m
 induction m with
 | zero=>rfl
 | succ m ih=>
  show (if _ then _ else _)=_
  rw [show n.add m=n+m from rfl,ih,if_neg h]
theorem pQ {xs:List Int} {F:Int→Bool→ByteArray×Int×Bool} (hF:G9 xs F):∀n,yH xs (fJ xs F n).1 (fJ xs F n).2.1 (fJ xs F n).2.2∧0≤(fJ xs F n).2.1∧(fJ xs F n).2.1≤xs.length∧((fJ xs F n).1.length:Int)≤(fJ xs F n).2.1∧(((fJ xs F n).2.1<xs.length∧(fJ xs F n).2.2=false)→(n:Int)≤(fJ xs F n).2.1):=by
 intro n
 induction n with
 | zero=>exact⟨.nil,Int.le_refl _,by simp [fJ],by simp [fJ],fun _=>by simp [fJ]⟩
 | succ n ih=>
  obtain⟨i1,i2,i3,i4,i5⟩:=ih
  by_cases h:(fJ xs F n).2.1<xs.length∧(fJ xs F n).2.2=false
  ·have hf:=hF (fJ xs F n).2.1 false i2 h.1
   rw [AS h.1 h.2]
   rw [h.2] at i1
   have h6:=i5 h
   have h7:=hf.pr.1
   exact⟨.snoc _ _ _ _ _ i1 i2 hf.le ⟨hf.sz,hf.pr⟩,by show 0≤(F _ _).2.1;omega,hf.le,by simp;omega,fun _=>by show _≤(F _ _).2.1;omega⟩
  ·have:=tz h 1
   rw [this]
   exact⟨i1,i2,i3,i4,fun h' =>absurd h' h⟩
theorem Ow {xs:List Int} {F:Int→Bool→ByteArray×Int×Bool} (hF:G9 xs F) {n:Nat} (h:¬((fJ xs F n).2.1<xs.length∧(fJ xs F n).2.2=false)):fJ xs F (xs.length+1)=fJ xs F n:=by
 rcases Nat.le_total n (xs.length+1) with hn|hn
 ·have:=tz h (xs.length+1 - n)
  rwa [show n+(xs.length+1 - n)=xs.length+1 by omega] at this
 ·have h2:¬((fJ xs F (xs.length+1)).2.1<xs.length∧(fJ xs F (xs.length+1)).2.2=false):=fun h' =>by
   have h3:=(pQ hF (xs.length+1)).2.2.2.2 h'
   omega
  have:=tz h2 (n - (xs.length+1))
  rw [show xs.length+1+(n - (xs.length+1))=n by omega] at this
  exact this.symm
def Ua (F:Int→Bool→ByteArray×Int×Bool) (wq w:World) (xs:List Int) (e:Ending) (w' :World):Prop:=∃A c ps ok,e= .returned (.tuple #[.slice A ps.length c,.bool ok])∧(ps.length≤c∧∀ad,A=some ad→w.heap.size≤ad.block)∧ps.length≤xs.length∧cr (BW.K wq) 6 w' A ps.length ps∧Below w.heap.size w w' ∧(∀p∈ps,p.f0.size≤16)∧
 (ok=true→N0 xs)∧(N0 xs→Nb xs→ps=(fJ xs F (xs.length+1)).1.map rB∧ok= !(fJ xs F (xs.length+1)).2.2)
theorem aD.Ub {w0 W W1:World} {g:Nat} {xs:List Int} {i:Int} {o:Bool} {v:Value} {n:Nat} {B:Nat} {cs:List Value} (h:aD w0 W g xs i o) (ho:W.ownsRow B 55 6 v n cs) (hg:W.grownBy W1 v.ownBlock):aD w0 W1 g xs i o:=by
 refine h.grown hg ?_
 obtain⟨A0,c0,hh,_⟩:=h
 exact dJ ho hh (by decide)
theorem ni.xL {wq w0 w1 w2:World} {B g:Nat} {v:Value} {ps:List qd} {xs:List Int} {i:Int} {o:Bool} (h:ni wq B w1 v ps) (hi:aD w0 w1 g xs i o) (hk:aw w1 w2 g none):ni wq B w2 v ps:=by
 obtain⟨cs,h1,h2⟩:=h
 obtain⟨A0,c0,hh,_⟩:=hi
 refine⟨cs,hk.own h1 (fun e=>dJ h1 hh (by decide) e.symm) ?_,h2⟩
 cases hv:v.ownBlock with
 | none=>exact .inl rfl
 | some b=>exact .inr (by simp)
theorem ni.Ud {w0 w:World} {B n c:Nat} {A:Option Addr} {ps:List qd} (h:ni w0 B w (.slice A n c) ps):n=ps.length∧ps.length≤c∧cr (BW.K w0) 6 w A ps.length ps:=by
 obtain⟨A1,c1,e,h1,h2⟩:=h.read
 injection e with e1 e2 e3
 subst e1;subst e2;subst e3
 exact⟨rfl,h1,h2⟩
theorem ni.base {w0 w:World} {B n c:Nat} {ad:Addr} {A:Option Addr} {ps:List qd} (h:ni w0 B w (.slice A n c) ps) (ha:Value.slice A n c= .slice (some ad) n c):B≤ad.block:=by
 obtain⟨cs,⟨_,h1⟩,_⟩:=h
 rw [ha] at h1
 rcases h1 with ⟨h1,_⟩|⟨g,cap,cur,h1,hg,_⟩
 ·injection h1 with h1;cases h1
 ·injection h1 with h1
  injection h1 with h1
  subst h1
  exact hg
theorem ni.drewN {w0 w:World} {B:Nat} {v:Value} {ps:List qd} (h:ni w0 B w v ps) (n:Nat):ni w0 B (w.drewN n) v ps:=h
theorem DC {F:Int→Bool→ByteArray×Int×Bool} {wq w w4:World} {g n c m:Nat} {A:Option Addr} {xs:List Int} (hF:G9 xs F) (hR:Rs w w4 g xs w4 (fJ xs F m).2.1 (fJ xs F m).2.2) (hP:ni wq w.heap.size w4 (.slice A n c) ((fJ xs F m).1.map rB)) (hn:N0 xs) (he:¬((fJ xs F m).2.1<xs.length∧(fJ xs F m).2.2=false)):
  Ua F wq w xs (.returned (.tuple #[.slice A n c,.bool (!(fJ xs F m).2.2)])) w4:=by
 obtain⟨e,h2,h3⟩:=hP.Ud
 obtain⟨i1,i2,i3,i4,i5⟩:=pQ hF m
 refine⟨A,c,(fJ xs F m).1.map rB,!(fJ xs F m).2.2,by rw [e],⟨h2,fun ad ha=>hP.base (by rw [ha])⟩,by rw [List.length_map];omega,h3,hR.be,i1.sz,fun _=>hn,fun _ _=> ?_⟩
 rw [Ow hF he]
 exact⟨rfl,rfl⟩
theorem Rs.th {w0 ws w:World} {g:Nat} {xs:List Int} {i:Int} {o:Bool} (h:Rs w0 ws g xs w i o):Rs w0 w g xs w i o:=⟨h.is,h.be,aw.refl _ _ _⟩
def TkI (F:Int→Bool→ByteArray×Int×Bool) (wq w:World) (g:Nat) (xs:List Int) (v:Value) (wr:World) (m:Nat):Prop:=∃n,Rs w wr g xs wr (fJ xs F n).2.1 (fJ xs F n).2.2∧ni wq w.heap.size wr v ((fJ xs F n).1.map rB)∧ak (m=((xs.length:Int) - (fJ xs F n).2.1).toNat+(if (fJ xs F n).2.2 then 0 else 1))
theorem tokens {F:Int→Bool→ByteArray×Int×Bool} {wq w:World} {A:Option Addr} {c:Nat} {xs:List Int} (hF:G9 xs F) (hq:VB wq A c xs) (Ue:Below wq.heap.size wq w) (hT:fU w):
  Calls Tryz.prog 49 #[.slice A xs.length c] w (Ua F wq w xs):=by
 have h:=hq.below Ue
 have hl:=h.len
 have HVQ:=am hq
 clear hq Ue
 obtain⟨bz,B4,Zw⟩:=vO xs 0 (by have:=h.len;omega)
 have HV:=am h
 have HT:=am hT
 have HZ:=am (And.intro B4 Zw)
 have HX:=am h.tx
 have HF:=am hF
 clear h hT B4 Zw hF
 have KQ:Below w.heap.size w ((w.alloc (.cells #[.slice A xs.length c,.int .i64 0,.bool false] 115)).alloc (.cells #[] 55)):=au (au (Below.refl _ _) _) _
 have kY:=am KQ
 clear KQ
 have Zx:∀W:World,cr (BW.K wq) 6 W none 0 ([]:List qd):=fun W=>⟨rfl,by decide,fun h=>absurd h (by decide)⟩
 have Zy:=am Zx
 clear Zx
 cases bz with
 | true=>
  go_enter Tryz.func49,Tryz.ntmps49
  go_wp2_with (first
   | (go_at_call 53;(with_reducible refine(oS (HV.out.below kY.out) HZ.out.1).mono ?_);rintro e w1 ⟨rfl,eW⟩;have pa:=am (kY.out.trans (eW.mono kY.out.size));clear eW))
  go_ret2
  refine⟨none,0,[],false,rfl,⟨Nat.le_refl _,fun _ h=>by cases h⟩,Nat.zero_le _,Zy.out _,pa.out,(fun p hp=>by cases hp),(fun h=>by cases h),fun hn _=> ?_⟩
  obtain⟨m,hm,he⟩:=HZ.out.2.1 (by simp)
  exact absurd (show at_ xs (m:Int)=0 by unfold at_;rw [show ((m:Int)).toNat=m by omega];exact he) (hn m (by omega) (by omega))
 | false=>
  have Ks:N0 xs:=by
   intro i h0 h1 he
   have:=HZ.out.2.2 ⟨i.toNat,by omega,he⟩
   cases this
  have HN0:=am Ks
  clear Ks
  have rA:Rs w ((w.alloc (.cells #[.slice A xs.length c,.int .i64 0,.bool false] 115)).alloc (.cells #[] 55)) w.heap.size xs ((w.alloc (.cells #[.slice A xs.length c,.int .i64 0,.bool false] 115)).alloc (.cells #[] 55)) 0 false:=
   ⟨(aD.new w w A c xs 0 false (Below.refl _ _) ⟨HV.out.cap,HV.out.rd⟩).alloc _,kY.out,aw.refl _ _ _⟩
  have qf:ni wq w.heap.size ((w.alloc (.cells #[.slice A xs.length c,.int .i64 0,.bool false] 115)).alloc (.cells #[] 55)) (.slice (some ⟨w.heap.size+1,0,none⟩) 0 0) []:=by
   refine⟨[],⟨rfl,.inr ⟨w.heap.size+1,0,#[],rfl,by omega,?_,by simp,by simp [maxLen],by simp,by simp⟩⟩,eX.none _ _⟩
   have:=heap_alloc_new (w.alloc (.cells #[.slice A xs.length c,.int .i64 0,.bool false] 115)) (.cells #[] 55)
   simpa using this
  have rV:=am (And.intro rA qf)
  clear rA qf
  go_enter Tryz.func49,Tryz.ntmps49
  go_wp2_with (first
   | (go_at_call 53;(with_reducible refine(oS (HV.out.below kY.out) HZ.out.1).mono ?_);rintro e w1 ⟨rfl,eW⟩;have pa:=am eW;clear eW)
   | (go_at_call 66;(with_reducible refine(xQ ((HV.out.below kY.out).below pa.out) ((HT.out.below kY.out).below pa.out)).mono ?_);rintro e w2 ⟨⟨rfl,Ii⟩|rfl,dc⟩<;>have Ox:=am (pa.out.trans (dc.mono pa.out.size))<;>clear dc))
  ·go_ret2
   exact⟨none,0,[],false,rfl,⟨Nat.le_refl _,fun _ h=>by cases h⟩,Nat.zero_le _,Zy.out _,kY.out.trans (Ox.out.mono kY.out.size),(fun p hp=>by cases hp),(fun h=>by cases h),fun _ hn=>absurd hn Ii⟩
  have HPL:ak (Rs w w2 w.heap.size xs w2 0 false∧ni wq w.heap.size w2 (.slice (some ⟨w.heap.size+1,0,none⟩) 0 0) []):=by
   refine am ⟨⟨rV.out.1.is.below Ox.out,kY.out.trans (Ox.out.mono kY.out.size),aw.refl _ _ _⟩,?_⟩
   obtain⟨cs,h1,h2⟩:=rV.out.2
   exact⟨cs,cX h1 Ox.out,h2⟩
  clear rV
  go_loopg [5] (xs.length+1) (fun gk v5 wr=>TkI F wq w w.heap.size xs v5 wr gk)
  case atStart=>exact⟨0,HPL.out.1,HPL.out.2,⟨by simp [fJ]⟩⟩
  case round=>
   clear HPL
   obtain⟨n,hR,hP,HM⟩:=hrel
   obtain⟨A5,c5,rfl,Fo,-⟩:=hP.read
   have hinv:=pQ HF.out n
   obtain⟨i,hi⟩:∃i,(fJ xs F n).2.1=i:=⟨_,rfl⟩
   obtain⟨o,ho⟩:∃o,(fJ xs F n).2.2=o:=⟨_,rfl⟩
   obtain⟨qs,Wh⟩:∃qs,(fJ xs F n).1=qs:=⟨_,rfl⟩
   rw [hi,ho] at hR
   rw [Wh] at hP Fo⊢
   simp only [List.length_map] at hP Fo⊢
   rw [hi,ho,Wh] at hinv
   obtain⟨hC,h0,h1,hq,-⟩:=hinv
   have HS:=am (And.intro hi (And.intro ho Wh))
   have HR:=am hR
   have HP:=am (And.intro hP (And.intro hC hq))
   clear hR hP hC hq hi ho Wh
   have oh:¬(i<xs.length∧o=false)→∀W A n' c',Rs w W w.heap.size xs W i o→ni wq w.heap.size W (.slice A n' c') (qs.map rB)→Ua F wq w xs (.returned (.tuple #[.slice A n' c',.bool (!o)])) W:=by
    intro he W A n' c' r p
    have e:=HS.out
    have:=DC (m:=n) (n:=n') (c:=c') (A:=A) HF.out (by rw [e.1,e.2.1];exact r) (by rw [e.2.2];exact p) HN0.out (by rw [e.1,e.2.1];exact he)
    rwa [e.2.1] at this
   have Zz:=am oh
   clear oh
   by_cases hov:i≥xs.length
   ·have hd:decide (i≥(xs.length:Int))=true:=decide_eq_true hov
    go_wp2_with (first
     | (go_at_call 67;(with_reducible refine(xF HR.out).mono ?_);rintro e w4 ⟨rfl,qY⟩;obtain⟨A4,c4,yI⟩:=qY.cells;have g2:=yI.c2;clear yI;have yE:=am qY;clear qY))
    go_quiet (fail)
    rename_i nq
    go_wp2_with fail
    go_ret2
    exact Zz.out (by omega) _ _ _ _ ((yE.out.drewN nq).th) ((HP.out.1.xL HR.out.is yE.out.ke).drewN nq)
   ·have hd:decide (i≥(xs.length:Int))=false:=decide_eq_false hov
    cases o with
    | true=>
     go_wp2_with (first
      | (go_at_call 67;(with_reducible refine(xF HR.out).mono ?_);rintro e w4 ⟨rfl,qY⟩;obtain⟨A4,c4,yI⟩:=qY.cells;have g2:=yI.c2;clear yI;have yE:=am qY;clear qY))
     go_quiet (fail)
     rename_i nq
     go_wp2_with fail
     go_ret2
     exact Zz.out (by simp) _ _ _ _ ((yE.out.drewN nq).th) ((HP.out.1.xL HR.out.is yE.out.ke).drewN nq)
    | false=>
     have hf:=HF.out i false h0 (by omega)
     obtain⟨kind,KR⟩:∃k,(F i false).1=k:=⟨_,rfl⟩
     obtain⟨i',Ms⟩:∃k,(F i false).2.1=k:=⟨_,rfl⟩
     obtain⟨o',oN⟩:∃k,(F i false).2.2=k:=⟨_,rfl⟩
     have q1:=hf.ge
     have q2:=hf.le
     have eh:=hf.pr.1
     have bZ:=hf.run
     rw [Ms] at q1 q2 eh
     rw [KR,Ms,oN] at bZ
     have afc:=am bZ
     have HK:=am (And.intro KR (And.intro Ms oN))
     clear hf bZ KR Ms oN
     go_wp2_with (first
      | (go_at_call 67;(with_reducible refine(xF HR.out).mono ?_);rintro e w4 ⟨rfl,qY⟩;obtain⟨A4,c4,yI⟩:=qY.cells;have g2:=yI.c2;have g1:=yI.c1;clear yI;have yE:=am qY;clear qY)
      | (go_at_call 68;(with_reducible refine(afc.out _ _ _ _ yE.out).mono ?_);rintro e w5 ⟨rfl,q5⟩;obtain⟨A6,c6,Wa⟩:=q5.cells;have d1:=Wa.c1;clear Wa;obtain⟨A1,V7,hcut,yO,hCm⟩:=rP (lo:=i) (hi:=i') HVQ.out.rd HVQ.out.cap h0 q1 q2;obtain⟨cs,ho,AT⟩:=HP.out.1.xL HR.out.is q5.ke;rw [List.length_map] at ho;have HQ:=am (And.intro q5 (And.intro yO (And.intro hCm (And.intro ho AT))));clear q5 yO hCm ho AT)
      | (at_builtin;refine di (w0:=w) w.heap.size rfl (.tmp 34) (.tmp 44) 26 55 _ 6 128 (by rfl) Tryz.underlying26 KO rfl (by decide) (by decide) (.slice A5 qs.length c5) qs.length cs [.string kind,.slice A1 (mid xs i i').length V7,.slice none 0 0,.slice none 0 0,.slice none 0 0,.string ⟨#[]⟩] (by rfl) (by simp [Act.eval]) rfl (by intro u hu;simp at hu;rcases hu with rfl|rfl|rfl|rfl<;>rfl) HQ.out.2.2.2.1 HQ.out.1.be HQ.out.1.be.size (by have:=HP.out.2.2;omega) ?_;intro v1 w6 dW mv jm mq;have P1:=am (And.intro dW (And.intro mv jm));clear dW mv jm mq))
     go_roundg (((xs.length:Int) - i').toNat+(if o' then 0 else 1))
     case measure=>
      have e:=HS.out
      have hm:=HM.out
      rw [e.1,e.2.1] at hm
      simp at hm
      split<;>omega
     case rel=>
      obtain⟨r3,r4,r5,r6,r7⟩:=HQ.out
      obtain⟨s1,s2,s3⟩:=P1.out
      have hn:Kd.C (Kd.int .u8) wq none 0 []:=⟨rfl,by decide,fun h=>absurd h (by decide)⟩
      have e:=HS.out
      have jC:fJ xs F (n+1)=(qs++ [(kind,mid xs i i')],i',o'):=by
       rw [AS (by rw [e.1];omega) (by rw [e.2.1])]
       rw [e.1,e.2.2,HK.out.1,HK.out.2.1,HK.out.2.2]
      refine⟨n+1,?_,?_,?_⟩
      ·rw [jC];exact⟨aD.Ub r3.is r6 s3,s2,aw.refl _ _ _⟩
      ·rw [jC]
       refine⟨cs++ [.string kind,.slice A1 (mid xs i i').length V7,.slice none 0 0,.slice none 0 0,.slice none 0 0,.string ⟨#[]⟩],?_,?_⟩
       ·simpa using s1
       ·rw [List.map_append]
        exact eX.snoc r7 (R4 wq (rB (kind,mid xs i i')) (A1:=A1) (c1:=V7) r4 r5 (A2:=none) (c2:=0) (Nat.le_refl _) hn (A3:=none) (c3:=0) (Nat.le_refl _) hn (A4:=none) (c4:=0) (Nat.le_refl _) hn) rfl
      ·rw [jC];exact⟨rfl⟩
noncomputable def FF (xs:List Int):Int→Bool→ByteArray×Int×Bool:=by
 classical
 exact if h:Tx xs then Classical.choose (Zv xs h) else fun _ _=>default
theorem AU {xs:List Int} (h:Tx xs):G9 xs (FF xs):=by
 unfold FF
 rw [dif_pos h]
 exact Classical.choose_spec (Zv xs h)
noncomputable def fK (xs:List Int):List (ByteArray×List Int):=(fJ xs (FF xs) (xs.length+1)).1
noncomputable def Oy (xs:List Int):Bool:=(fJ xs (FF xs) (xs.length+1)).2.2
theorem Uf {xs:List Int} (h:Tx xs) (ho:Oy xs=false):yH xs (fK xs) xs.length false:=by
 have hF:=AU h
 obtain⟨i1,i2,i3,i4,i5⟩:=pQ hF (xs.length+1)
 unfold Oy at ho
 unfold fK
 rw [ho] at i1
 have:(fJ xs (FF xs) (xs.length+1)).2.1=xs.length:=by
  rcases Int.lt_or_le (fJ xs (FF xs) (xs.length+1)).2.1 xs.length with h'|h'
  ·have:=i5 ⟨h',ho⟩
   omega
  ·omega
 rw [this] at i1
 exact i1
end Go.Proofs.YtlglijnaeaonpaaGreatDoor.Lx
end
