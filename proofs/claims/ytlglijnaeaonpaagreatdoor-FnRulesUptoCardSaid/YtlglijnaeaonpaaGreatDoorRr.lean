/- FnRules: a part of the proof (Rr). -/
import Derived.Test.YtlglijnaeaonpaaGreatDoorRn
import Derived.StillTailTactics
import Derived.Lib.SlBytesConst
import Derived.Deep.LoopGhost
import Derived.Deep.DeepCutAuto
import Derived.ArgAppend
section
set_option maxHeartbeats 8000000
set_option maxRecDepth 100000
set_option linter.unusedVariables false
set_option linter.unusedSimpArgs false
namespace Go.Proofs.YtlglijnaeaonpaaGreatDoor.Lx
open Go.RowKit Go.Proofs.YtlglijnaeaonpaaGreatDoorW.aC
variable {w0 w wr:World} {c:lQ} {p:Int} {B:Nat} {gp:Nat} {v:PV} {ts:List Tk} {fs:List Nat} {ds:List Int} {k q:Int} {xs:List Int} {K:Act→World→Prop} {Q:Exit→Act→World→Prop} {l:List Value} {off:Int}
theorem Tb.at_ {b:Value} (h:Tb B w b ts) {i:Nat} {t:Tk} (hi:ts[i]? =some t):∃g o n cap dv,b= .slice (some ⟨g,o,none⟩) n cap∧ts.length=n∧i<n∧n≤cap∧w.cell? ⟨g,o+i*2,none⟩=some (.int .u32 t.tt)∧w.cell? ⟨g,o+i*2+1,none⟩=some dv∧Rd w dv t.bs:=by
 obtain⟨A,n,cap,rfl,h1,h2,h3,h4⟩:=h
 have OQ:=(List.getElem?_eq_some_iff.1 hi).1
 obtain⟨g,o,cs,rfl,AO,hg,hs,hc⟩:=h4 (by omega)
 obtain⟨dv,e1,e2,e3⟩:=hc i t hi
 exact⟨g,o,n,cap,dv,rfl,h1,by omega,h2,by rw [ao hg];exact e1,by rw [ao hg];exact e2,e3⟩
theorem Tb.drop {g o n cap:Nat} (h:Tb B w (.slice (some ⟨g,o,none⟩) n cap) ts) (k:Nat) (hk:k≤n):Tb B w (.slice (some ⟨g,o+k*2,none⟩) (n - k) (cap - k)) (ts.drop k):=by
 obtain⟨A,n',yL,e,h1,h2,h3,h4⟩:=h
 injection e with e e' e''
 subst e;subst e';subst e''
 refine⟨_,_,_,rfl,by simp [h1],by omega,by omega,fun hp=> ?_⟩
 obtain⟨g',o',cs,e,AO,hg,hs,hc⟩:=h4 (by omega)
 injection e with e
 injection e with e e'
 subst e;subst e'
 refine⟨_,_,cs,rfl,AO,hg,by omega,fun i t ht=> ?_⟩
 rw [List.getElem?_drop] at ht
 obtain⟨dv,e1,e2,e3⟩:=hc (k+i) t ht
 exact⟨dv,by rw [show o+k*2+i*2=o+(k+i)*2 by omega];exact e1,by rw [show o+k*2+i*2=o+(k+i)*2 by omega];exact e2,e3⟩
theorem Tb.zero (A:Option Addr):Tb B w (.slice A 0 0) []:=⟨A,0,0,rfl,rfl,by omega,by simp [maxLen],fun h=>by omega⟩
def qJ (B:Nat) (w0:World) (c:lQ) (gp:Nat) (w:World) (k2:Int) (p:Int) (v:PV) (ts:List Tk) (fs:List Nat) (ds:List Int) (l:List Value) (wx:World):Prop:=
 Fr gp l∧l.getD 4 default= .int .u32 k2∧Pk B w0 c gp w wx p v ts fs ds
theorem afu {k2:Int} {m:Nat} {cl:Tk} (h:qJ B w0 c gp w k2 p v ts fs ds l wr) (h6:l.getD 6 default= .int .i64 1) (h1:1≤m) (hm:ts[m]? =some cl) (hc:cl.tt=23) (hb:∀i,1≤i→i<m→∃t,ts[i]? =some t∧t.tt=20) (hn:ts.length≤100000000)
  (hK:∀l',l'.getD 6 default= .int .i64 m→qJ B w0 c gp w k2 p v ts fs ds l' wr→K ⟨l'.toArray,[]⟩ wr):Code.wp Tryz.prog (bI [0,1,0,1,0,1,0] db) (Exit.then K Q) ⟨l.toArray,[]⟩ wr:=by
 have HP:=am h
 have HB:=am hb
 have HC:=am (And.intro hm hc)
 have hml:=(List.getElem?_eq_some_iff.1 hm).1
 conv=>arg 2;whnf
 clear hb hm hc
 go_wp2_with (fail)
 refine cZ 453 (fun g l' wx=>∃i:Nat,g=m - i∧1≤i∧i≤m∧l'.getD 6 default= .int .i64 i∧wx=wr∧qJ B w0 c gp w k2 p v ts fs ds l' wr) (m - 1) _ HP.out.1.1 ⟨1,rfl,Nat.le_refl _,h1,h6,rfl,HP.out⟩ ?_
 clear h h6 HP
 rintro n l wx hl ⟨i,Wl,hi1,pM,h6,rfl,⟨⟨_,dy⟩,h4,hP⟩⟩ J hJ
 obtain⟨f,hf,rfl⟩:=dD l hl
 rw [hf] at dy h6 h4
 rw [dy,h6,h4]
 clear hf hl dy h6 h4
 have c4:=hP.1.c4
 have HP:=am hP
 by_cases him:i=m
 ·subst him
  obtain⟨g,o,n',cap,dv,gu,e1,e2,e3,e4,e5,e6⟩:=hP.1.tb.at_ HC.out.1
  rw [HC.out.2] at e4
  rw [gu] at c4
  clear hP gu e6 e5
  go_wp2_with (fail)
  exact hK _ rfl ⟨⟨by kernel_rfl,rfl⟩,rfl,HP.out⟩
 ·obtain⟨t,ht,Il⟩:=HB.out i hi1 (by omega)
  obtain⟨g,o,n',cap,dv,gu,e1,e2,e3,e4,e5,e6⟩:=hP.1.tb.at_ ht
  rw [Il] at e4
  rw [gu] at c4
  have dc:i≤100000000:=by omega
  clear hP gu e6 e5 ht Il
  go_wp2_with (fail)
  exact hJ (m - (i+1)) _ _ (by omega) (by kernel_rfl) ⟨i+1,rfl,by omega,by omega,rfl,rfl,⟨by kernel_rfl,rfl⟩,rfl,HP.out⟩
theorem afv {k2:Int} {m:Nat} {cl:Tk} (h:qJ B w0 c gp w k2 p v ts fs ds l wr) (h6:l.getD 6 default= .int .i64 m) (hm:ts[m]? =some cl) (hc:cl.tt=23) (hn:ts.length≤100000000)
  (hK:∀l',l'.getD 6 default= .int .i64 m→qJ B w0 c gp w k2 p v ts fs ds l' wr→K ⟨l'.toArray,[]⟩ wr):Code.wp Tryz.prog (bI [0,1,0,1,0,1,1,0] db) (Exit.then K Q) ⟨l.toArray,[]⟩ wr:=by
 obtain⟨⟨hl,dy⟩,h4,hP⟩:=h
 obtain⟨f,hf,rfl⟩:=dD l hl
 rw [hf] at dy h4
 rw [dy,h4]
 rw [hf] at h6
 rw [h6]
 clear hf hl dy h4 h6
 have c4:=hP.1.c4
 have hml:=(List.getElem?_eq_some_iff.1 hm).1
 have HP:=am hP
 obtain⟨g,o,n',cap,dv,gu,e1,e2,e3,e4,e5,e6⟩:=hP.1.tb.at_ hm
 rw [hc] at e4
 rw [gu] at c4
 have hz:((n' :Int)==(m:Int))=false:=by simp;omega
 clear hP gu e6 e5 hm hc
 conv=>arg 2;whnf
 go_wp2_with (fail)
 exact hK _ rfl ⟨⟨by kernel_rfl,rfl⟩,rfl,HP.out⟩
theorem Z9 {k2:Int} {m:Nat} {cl:Tk} (h:qJ B w0 c gp w k2 p v ts fs ds l wr) (h0:0<B) (h6:l.getD 6 default= .int .i64 m) (hm:ts[m]? =some cl) (hn:ts.length≤100000000)
  (hK:∀l' wx b',qJ B w0 c gp w k2 p {v with buf:=b' } (ts.drop (m+1)) fs ds l' wx→K ⟨l'.toArray,[]⟩ wx):Code.wp Tryz.prog (bI [0,1,0,1,0,1,1,1,0] db) (Exit.then K Q) ⟨l.toArray,[]⟩ wr:=by
 obtain⟨⟨hl,dy⟩,h4,hP⟩:=h
 obtain⟨f,hf,rfl⟩:=dD l hl
 rw [hf] at dy h4
 rw [dy,h4]
 rw [hf] at h6
 rw [h6]
 clear hf hl dy h4 h6
 have c4:=hP.1.c4
 have f4:=hP.1.f 4
 have hml:=(List.getElem?_eq_some_iff.1 hm).1
 have HP:=am hP
 have ht:=hP.1.tb
 obtain⟨g,o,n',cap,dv,gu,e1,e2,e3,e4,e5,e6⟩:=hP.1.tb.at_ hm
 rw [gu] at c4 ht
 have HT:=am (ht.drop (m+1) (by omega))
 clear hP gu e6 e5 hm ht
 conv=>arg 2;whnf
 go_wp2_with (fail)
 ·have lS:cap=m+1:=by assumption
  have Wm:ts.drop (m+1)= []:=List.drop_eq_nil_of_le (by omega)
  have Ks:n' - (m+1)=0:=by omega
  have ht:Tb B wr (.slice (some ⟨g,o,none⟩) (n' - (m+1)) 0) (ts.drop (m+1)):=by rw [Wm,Ks];exact Tb.zero _
  exact hK _ _ _ ⟨⟨by kernel_rfl,rfl⟩,rfl,HP.out.1.tw h0 (my.fh (Below.refl _ _) HP.out.1.hB) ht,HP.out.2.trans (HP.out.1.eY 4 _)⟩
 ·exact hK _ _ _ ⟨⟨by kernel_rfl,rfl⟩,rfl,HP.out.1.tw h0 (my.fh (Below.refl _ _) HP.out.1.hB) HT.out,HP.out.2.trans (HP.out.1.eY 4 _)⟩
def bH (ts:List Tk):List Tk:=ts.filter (fun t=> !(t.tt==20))
theorem aaa {k2:Int} {N0:List Tk} (h:qJ B w0 c gp w k2 p v ts fs ds l wr) (h0:0<B) (hn:ts.length≤100000000) (hN:bH ts=N0)
  (hK:∀l' wx b' bN,bH bN =N0→bN.length≤100000000→qJ B w0 c gp w k2 p {v with buf:=b' } bN fs ds l' wx→K ⟨l'.toArray,[]⟩ wx):Code.wp Tryz.prog (bI [0,1,0,1,0,1,1,1,1,0] db) (Exit.then K Q) ⟨l.toArray,[]⟩ wr:=by
 have HP:=am h
 have HN:=am hN
 conv=>arg 2;whnf
 clear h hN
 go_wp2_with (fail)
 refine cZ 453 (fun g l' wx=>∃b' bN,g=bN.length∧bH bN =N0∧bN.length≤100000000∧qJ B w0 c gp w k2 p {v with buf:=b' } bN fs ds l' wx) ts.length _ HP.out.1.1 ⟨v.buf,ts,rfl,HN.out,hn,HP.out⟩ ?_
 clear HP hn
 rintro n l wx hl ⟨b',bN,Wl,hN2,JR,⟨⟨_,dy⟩,h4,hP⟩⟩ J hJ
 obtain⟨f,hf,rfl⟩:=dD l hl
 rw [hf] at dy h4
 rw [dy,h4]
 clear hf hl dy h4
 have c4:=hP.1.c4
 have f4:=hP.1.f 4
 have HP:=am hP
 have HNI:=am Wl
 have HN2:=am hN2
 cases AN:bN with
 | nil=>
  obtain⟨A,n',cap,gu,e1,e2⟩:=hP.1.tb.getD
  rw [AN] at e1
  have en:n' =0:=e1.symm
  subst en
  simp only at gu
  rw [gu] at c4
  have HT:=am AN
  clear hP gu AN hN2 Wl
  go_wp2_with (fail)
  exact hK _ _ b' bN HN2.out JR ⟨⟨by kernel_rfl,rfl⟩,rfl,HP.out⟩
 | cons t r=>
  obtain⟨g,o,n',cap,dv,gu,e1,e2,e3,e4,e5,e6⟩:=hP.1.tb.at_ (i:=0) (t:=t) (by rw [AN];rfl)
  simp only at gu
  have ht:=hP.1.tb
  simp only at ht
  rw [gu] at c4 ht
  have HT:=am (And.intro AN (ht.drop 1 (by omega)))
  have hz:(0:Int)<(n' :Int):=by omega
  simp only [Nat.zero_mul,Nat.add_zero] at e4
  clear hP gu e6 e5 ht hN2 Wl AN
  by_cases hk:t.tt=20
  ·rw [hk] at e4
   have HKK:=am hk
   clear hk
   go_wp2_with (fail)
   all_goals
    have AN:=HT.out.1
    have DN:bH (bN.drop 1)=N0:=by rw [←HN2.out,AN];simp [bH,HKK.out]
    have hlen:(bN.drop 1).length<n:=by rw [HNI.out,AN];simp
    have Q5:(bN.drop 1).length≤100000000:=by simp;omega
   ·have lS:cap=1:=by assumption
    have Wm:bN.drop 1= []:=List.drop_eq_nil_of_le (by omega)
    have Ks:n' - 1=0:=by omega
    have ht:Tb B wx (.slice (some ⟨g,o,none⟩) (n' - 1) 0) (bN.drop 1):=by rw [Wm,Ks];exact Tb.zero _
    exact hJ _ _ _ hlen (by kernel_rfl) ⟨_,bN.drop 1,rfl,DN,Q5,⟨by kernel_rfl,rfl⟩,rfl,HP.out.1.tw h0 (my.fh (Below.refl _ _) HP.out.1.hB) ht,HP.out.2.trans (HP.out.1.eY 4 _)⟩
   ·exact hJ _ _ _ hlen (by kernel_rfl) ⟨_,bN.drop 1,rfl,DN,Q5,⟨by kernel_rfl,rfl⟩,rfl,HP.out.1.tw h0 (my.fh (Below.refl _ _) HP.out.1.hB) HT.out.2,HP.out.2.trans (HP.out.1.eY 4 _)⟩
  ·have kV:(t.tt==20)=false:=by simpa using hk
   clear hk
   go_wp2_with (fail)
   exact hK _ _ b' bN HN2.out JR ⟨⟨by kernel_rfl,rfl⟩,rfl,HP.out⟩
def Cm (B:Nat) (w0:World) (c:lQ) (gp:Nat) (w:World) (k2:Int) (p:Int) (v:PV) (N0:List Tk) (ts:List Tk) (fs:List Nat) (ds:List Int) (j i:Nat) (l:List Value) (wx:World):Prop:=
 qJ B w0 c gp w k2 p v ts fs ds l wx∧l.getD 7 default= .int .i64 j∧l.getD 8 default= .int .i64 i∧j≤i∧i≤ts.length∧ts.length≤100000000∧bH (ts.take j)++bH (ts.drop i)=N0
theorem tC {ts:List Tk} {j i:Nat} {t:Tk} (hj:j≤i) (ht:ts[i]? =some t):bH ((ts.set j t).take (j+1))++bH ((ts.set j t).drop (i+1))=bH (ts.take j)++bH (ts.drop i):=by
 have hi:=(List.getElem?_eq_some_iff.1 ht).1
 have hg:=(List.getElem?_eq_some_iff.1 ht).2
 have e1:(ts.set j t).take (j+1)=ts.take j++ [t]:=by
  rw [List.take_add_one,List.take_set_of_le (by omega),List.getElem?_set_self (by omega)]
  rfl
 have e2:(ts.set j t).drop (i+1)=ts.drop (i+1):=List.drop_set_of_lt (by omega)
 have e3:ts.drop i=t::ts.drop (i+1):=by rw [←hg];exact List.drop_eq_getElem_cons hi
 rw [e1,e2,e3]
 simp [bH,List.filter_cons]
 split<;>simp
theorem Tb.put {g o n cap:Nat} (h:Tb B w (.slice (some ⟨g,o,none⟩) n cap) ts) (h0:0<cap) {i j:Nat} {t:Tk} (hi:ts[i]? =some t) (hj:j<n):
  ∃cs dv,w.heap[g]? =some (.cells cs 59 (0,0))∧B≤g∧o+cap*2≤cs.size∧w.cell? ⟨g,o+i*2,none⟩=some (.int .u32 t.tt)∧w.cell? ⟨g,o+i*2+1,none⟩=some dv∧Rd w dv t.bs∧
   Tb B ((w.setCell ⟨g,o+j*2,none⟩ (.int .u32 t.tt)).setCell ⟨g,o+j*2+1,none⟩ dv) (.slice (some ⟨g,o,none⟩) n cap) (ts.set j t)∧my B w ((w.setCell ⟨g,o+j*2,none⟩ (.int .u32 t.tt)).setCell ⟨g,o+j*2+1,none⟩ dv):=by
 obtain⟨A,n',yL,e,h1,h2,h3,h4⟩:=h
 injection e with e e' e''
 subst e;subst e';subst e''
 obtain⟨g',o',cs,e,AO,hg,hs,hc⟩:=h4 h0
 injection e with e
 injection e with e e'
 subst e;subst e'
 obtain⟨dv,e1,e2,e3⟩:=hc i t hi
 have BZ:=my.gG hg AO (o+j*2) (.int .u32 t.tt)
 have jm:=cj hg (o+j*2) (.int .u32 t.tt)
 have kV:=my.gG jm AO (o+j*2+1) dv
 have rT:=cj jm (o+j*2+1) dv
 refine⟨cs,dv,hg,AO,hs,by rw [ao hg];exact e1,by rw [ao hg];exact e2,e3,⟨_,_,_,rfl,by simp [h1],h2,h3,fun _=>⟨g,o,_,rfl,AO,rT,by simp;omega,fun i' t' ht=> ?_⟩⟩,BZ.trans kV⟩
 have uk:=(List.getElem?_eq_some_iff.1 ht).1
 rw [List.length_set] at uk
 by_cases hij:i' =j
 ·subst hij
  rw [List.getElem?_set_self (by omega)] at ht
  injection ht with ht
  subst ht
  refine⟨dv,?_,?_,(BZ.trans kV).rd e3⟩
  ·rw [Array.getElem?_setIfInBounds_ne (by omega),Array.getElem?_setIfInBounds_self_of_lt (by omega)]
  ·rw [Array.getElem?_setIfInBounds_self_of_lt (by simp;omega)]
 ·rw [List.getElem?_set_ne (Ne.symm hij)] at ht
  obtain⟨yF,c1,c2,c3⟩:=hc i' t' ht
  refine⟨yF,?_,?_,(BZ.trans kV).rd c3⟩
  ·rw [Array.getElem?_setIfInBounds_ne (by omega),Array.getElem?_setIfInBounds_ne (by omega)];exact c1
  ·rw [Array.getElem?_setIfInBounds_ne (by omega),Array.getElem?_setIfInBounds_ne (by omega)];exact c2
theorem Ps.aab {w w' :World} {ts bN :List Tk} (h:Ps B w0 c gp w p v ts fs ds) (h0:0<B) (k:my B w w') (ht:Tb B w' v.buf bN):Ps B w0 c gp w' p v bN fs ds:=by
 obtain⟨cur,fr,hb⟩:=h.Ik
 exact⟨k.st h.lx h.Ik h0,k.eC _ _ _ _ h.par (by decide),⟨cur,fr,k.eC _ _ _ _ hb (by decide)⟩,ht,k.own h.rS (by decide),k.rd h.Dy,h.kt.trans k.kt,h.Bp,h.Bi⟩
theorem aac {k2:Int} {N0:List Tk} {j i:Nat} (h:Cm B w0 c gp w k2 p v N0 ts fs ds j i l wr) (h0:0<B) (hi:i<ts.length)
  (hK:∀l' wx bN,bN.length=ts.length→Cm B w0 c gp w k2 p v N0 bN fs ds (j+1) (i+1) l' wx→K ⟨l'.toArray,[]⟩ wx):Code.wp Tryz.prog (bI [0,1,0,1,0,1,1,1,1,1,1,0,1,0,0,1,0,1] db) (Exit.then K Q) ⟨l.toArray,[]⟩ wr:=by
 obtain⟨⟨⟨hl,dy⟩,h4,hP⟩,h7,h8,Hh,_,hn,hN⟩:=h
 obtain⟨f,hf,rfl⟩:=dD l hl
 rw [hf] at dy h4 h7 h8
 rw [dy,h4,h7,h8]
 clear hf hl dy h4 h7 h8
 have c4:=hP.1.c4
 obtain⟨t,ht⟩:∃t,ts[i]? =some t:=⟨_,List.getElem?_eq_getElem hi⟩
 have hT:=hP.1.tb
 obtain⟨g,o,n',cap,yF,gu,e1,e2,e3,-,-,-⟩:=hT.at_ ht
 rw [gu] at c4 hT
 obtain⟨cs,dv,hg,AO,hs,e4,e5,e6,Q6,hk⟩:=hT.put (by omega) ht (show j<n' by omega)
 obtain⟨Ad,nd,cd,yd,-,-,-⟩:=e6
 subst yd
 have afw:wr.drew.frozen? ⟨g,o+j*2,none⟩=false:=ai (w:=wr.drew) hg _
 have afx:wr.drew.frozen? ⟨g,o+j*2+1,none⟩=false:=ai (w:=wr.drew) hg _
 have HP:=am hP
 have HT:=am ht
 have OR:=am (And.intro gu (And.intro Q6 hk))
 have HN:=am (And.intro hN (tC Hh ht))
 have afy:wr.frozen? ⟨g,o+j*2,none⟩=false:=ai hg _
 have afz:wr.frozen? ⟨g,o+j*2+1,none⟩=false:=ai hg _
 have OQ:(i:Int)<(n' :Int):=by omega
 have hjn:(j:Int)<(n' :Int):=by omega
 have hjc:∃u,wr.cell? ⟨g,o+j*2,none⟩=some u:=⟨_,by rw [ao hg,Array.getElem?_eq_getElem (by omega)]⟩
 have Uu:∃u,wr.cell? ⟨g,o+j*2+1,none⟩=some u:=⟨_,by rw [ao hg,Array.getElem?_eq_getElem (by omega)]⟩
 obtain⟨u1,Ij⟩:=hjc
 obtain⟨u2,Fs⟩:=Uu
 have du1:wr.drew.cell? ⟨g,o+j*2,none⟩=some u1:=Ij
 have Uv:=cj hg (o+j*2) (.int .u32 t.tt)
 have afA:(wr.setCell ⟨g,o+j*2,none⟩ (.int .u32 t.tt)).drew.frozen? ⟨g,o+j*2+1,none⟩=false:=ai (w:=(wr.setCell ⟨g,o+j*2,none⟩ (.int .u32 t.tt)).drew) Uv _
 have du3:(wr.setCell ⟨g,o+j*2,none⟩ (.int .u32 t.tt)).drew.cell? ⟨g,o+j*2+1,none⟩=some u2:=by
  show (wr.setCell ⟨g,o+j*2,none⟩ (.int .u32 t.tt)).cell? ⟨g,o+j*2+1,none⟩=some u2
  rw [ao Uv,Array.getElem?_setIfInBounds_ne (by omega),←ao hg]
  exact Fs
 clear Uv
 have du2:wr.drew.cell? ⟨g,o+j*2+1,none⟩=some u2:=Fs
 have Uw:i≤100000000:=by omega
 have hjb:j≤100000000:=by omega
 clear hP ht Q6 hk hN gu hT hs
 conv=>arg 2;whnf
 by_cases eh:j<i
 ·have qL:(j:Int)<(i:Int):=by omega
  go_wp2_with (fail)
  go_still_tail 12,(by kernel_rfl)
  change wpList _ _ _ _ _ wr.drew
  go_wp2_with (fail)
  refine hK _ _ (ts.set j t) (by simp) ⟨⟨⟨by kernel_rfl,rfl⟩,rfl,?_⟩,rfl,rfl,by omega,by simp;omega,by simpa using hn,HN.out.2.trans HN.out.1⟩
  exact⟨(HP.out.1.aab h0 OR.out.2.2 (by rw [OR.out.1];exact OR.out.2.1)).drew,(HP.out.2.trans OR.out.2.2.kt).drew⟩
 ·have qL:¬(j:Int)<(i:Int):=by omega
  have HIJ:=am (show j=i by omega)
  go_wp2_with (fail)
  refine hK _ _ ts rfl ⟨⟨⟨by kernel_rfl,rfl⟩,rfl,HP.out⟩,rfl,rfl,by omega,by omega,hn,?_⟩
  have Ux:ts.set j t=ts:=by
   apply List.ext_getElem?
   intro k
   by_cases hkj:k=j
   ·subst hkj
    have:=HT.out
    rw [←HIJ.out] at this
    rw [List.getElem?_set_self (by omega),this]
   ·rw [List.getElem?_set_ne (Ne.symm hkj)]
  have:=HN.out.2
  rw [Ux,HN.out.1] at this
  exact this
theorem tD {ts:List Tk} {i:Nat} {t:Tk} (ht:ts[i]? =some t) (hk:t.tt=20):bH (ts.drop (i+1))=bH (ts.drop i):=by
 have hi:=(List.getElem?_eq_some_iff.1 ht).1
 have hg:=(List.getElem?_eq_some_iff.1 ht).2
 have e3:ts.drop i=t::ts.drop (i+1):=by rw [←hg];exact List.drop_eq_getElem_cons hi
 rw [e3]
 simp [bH,hk]
theorem Rd.test {dv:Value} (h:Rd w dv xs):∃A n cp,dv= .slice A n cp∧(((n:Int)==1)=false∨n=1∧∃g o b,A=some ⟨g,o,none⟩∧w.cell? ⟨g,o,none⟩=some (.int .u8 b)∧(b=44∨((b==44)=false∧(b=47∨((b==47)=false∧(b=58∨((b==58)=false∧(b=33∨((b==33)=false∧(b=61∨(b==61)=false)))))))))):=by
 obtain⟨A,n,cp,rfl,h1,h2,h3⟩:=h
 refine⟨A,n,cp,rfl,?_⟩
 by_cases hn:n=1
 ·refine .inr ⟨hn,?_⟩
  obtain⟨g,o,cs,fr,rfl,hg,hc⟩:=h3 (by omega)
  refine⟨_,_,xs.getD 0 0,rfl,?_,?_⟩
  ·unfold World.cell?
   rw [hg]
   simpa using hc 0 (by omega)
  ·simp only [beq_eq_false_iff_ne,ne_eq]
   omega
 ·left
  simp;omega
theorem aad {k2:Int} {N0:List Tk} {j i:Nat} (h:Cm B w0 c gp w k2 p v N0 ts fs ds j i l wr) {t:Tk} (ht:ts[i]? =some t) (hk:t.tt=20)
  (hK:∀l',Cm B w0 c gp w k2 p v N0 ts fs ds j i l' wr→K ⟨l'.toArray,[]⟩ wr)
  (hQ:∀l',Cm B w0 c gp w k2 p v N0 ts fs ds j (i+1) l' wr→Q (.exit 7) ⟨l'.toArray,[]⟩ wr):Code.wp Tryz.prog (bI [0,1,0,1,0,1,1,1,1,1,1,0,1,0,0,1,0,0,1,0,0] db) (Exit.then K Q) ⟨l.toArray,[]⟩ wr:=by
 have HC:=am h
 obtain⟨⟨⟨hl,dy⟩,h4,hP⟩,h7,h8,Hh,_,hn,hN⟩:=h
 obtain⟨f,hf,rfl⟩:=dD l hl
 rw [hf] at dy h4 h7 h8
 rw [dy,h4,h7,h8]
 have c4:=hP.1.c4
 have HP:=am hP
 have HN:=am hN
 have hi:=(List.getElem?_eq_some_iff.1 ht).1
 have Uw:i≤100000000:=by omega
 have hjb:j≤100000000:=by omega
 have Uy:=HC.out.2.2.2.2.2.2
 rw [←tD ht hk] at Uy
 have HS:=am Uy
 have HK:=am hK
 have HQ:=am hQ
 clear hK hQ
 clear hP hN Uy HC hf hl dy h4 h7 h8
 rcases Nat.eq_zero_or_pos j with pb|pb
 ·subst pb
  clear ht hk
  conv=>arg 2;whnf
  go_wp2_with (fail)
  exact HK.out _ ⟨⟨⟨by kernel_rfl,rfl⟩,rfl,HP.out⟩,rfl,rfl,by omega,by omega,hn,HN.out⟩
 ·obtain⟨t1,G6⟩:∃t1,ts[j - 1]? =some t1:=⟨_,List.getElem?_eq_getElem (by omega)⟩
  obtain⟨g,o,n',cap,dv,gu,e1,e2,e3,e4,e5,e6⟩:=HP.out.1.tb.at_ G6
  obtain⟨A,nd,cd,rfl,tE⟩:=e6.test
  rw [gu] at c4
  obtain⟨jj,hjj⟩:∃jj,j=jj+1:=⟨j - 1,by omega⟩
  have ejj:j - 1=jj:=by omega
  rw [ejj] at e2 e4 e5
  have hwj:IntKind.i64.wrap (jj:Int)=(jj:Int):=IntWalk.i64_in _ (by omega)
  have D8:(jj:Int)<(n' :Int):=by omega
  have OS:(0:Int)<((jj+1:Nat):Int):=by omega
  clear ht hk G6 gu ejj
  subst hjj
  conv=>arg 2;whnf
  rcases tE with hnd|⟨rfl,g2,o2,b,rfl,hb,tE⟩
  ·go_wp2_with (fail)
   exact HK.out _ ⟨⟨⟨by kernel_rfl,rfl⟩,rfl,HP.out⟩,rfl,rfl,by omega,by omega,hn,HN.out⟩
  ·rcases tE with rfl|⟨x1,rfl|⟨x2,rfl|⟨x3,rfl|⟨x4,rfl|x5⟩⟩⟩⟩
   ·go_wp2_with (fail)
    trace_state
    exact HQ.out _ ⟨⟨⟨by kernel_rfl,rfl⟩,rfl,HP.out⟩,rfl,rfl,by omega,by omega,hn,HS.out⟩
   ·go_wp2_with (fail)
    exact HQ.out _ ⟨⟨⟨by kernel_rfl,rfl⟩,rfl,HP.out⟩,rfl,rfl,by omega,by omega,hn,HS.out⟩
   ·go_wp2_with (fail)
    exact HQ.out _ ⟨⟨⟨by kernel_rfl,rfl⟩,rfl,HP.out⟩,rfl,rfl,by omega,by omega,hn,HS.out⟩
   ·go_wp2_with (fail)
    exact HQ.out _ ⟨⟨⟨by kernel_rfl,rfl⟩,rfl,HP.out⟩,rfl,rfl,by omega,by omega,hn,HS.out⟩
   ·go_wp2_with (fail)
    exact HQ.out _ ⟨⟨⟨by kernel_rfl,rfl⟩,rfl,HP.out⟩,rfl,rfl,by omega,by omega,hn,HS.out⟩
   ·go_wp2_with (fail)
    exact HK.out _ ⟨⟨⟨by kernel_rfl,rfl⟩,rfl,HP.out⟩,rfl,rfl,by omega,by omega,hn,HN.out⟩
theorem aae {k2:Int} {N0:List Tk} {j i:Nat} (h:Cm B w0 c gp w k2 p v N0 ts fs ds j i l wr) (h0:0<B) (hi:i<ts.length)
  (hK:∀l' wx bN,bN.length=ts.length→Cm B w0 c gp w k2 p v N0 bN fs ds (j+1) (i+1) l' wx→K ⟨l'.toArray,[]⟩ wx):Code.wp Tryz.prog (bI [0,1,0,1,0,1,1,1,1,1,1,0,1,0,0,1,0,0,1,0,1,1,0,1] db) (Exit.then K Q) ⟨l.toArray,[]⟩ wr:=by
 obtain⟨⟨⟨hl,dy⟩,h4,hP⟩,h7,h8,Hh,_,hn,hN⟩:=h
 obtain⟨f,hf,rfl⟩:=dD l hl
 rw [hf] at dy h4 h7 h8
 rw [dy,h4,h7,h8]
 clear hf hl dy h4 h7 h8
 have c4:=hP.1.c4
 obtain⟨t,ht⟩:∃t,ts[i]? =some t:=⟨_,List.getElem?_eq_getElem hi⟩
 have hT:=hP.1.tb
 obtain⟨g,o,n',cap,yF,gu,e1,e2,e3,-,-,-⟩:=hT.at_ ht
 rw [gu] at c4 hT
 obtain⟨cs,dv,hg,AO,hs,e4,e5,e6,Q6,hk⟩:=hT.put (by omega) ht (show j<n' by omega)
 obtain⟨Ad,nd,cd,yd,-,-,-⟩:=e6
 subst yd
 have afw:wr.drew.frozen? ⟨g,o+j*2,none⟩=false:=ai (w:=wr.drew) hg _
 have afx:wr.drew.frozen? ⟨g,o+j*2+1,none⟩=false:=ai (w:=wr.drew) hg _
 have HP:=am hP
 have HT:=am ht
 have OR:=am (And.intro gu (And.intro Q6 hk))
 have HN:=am (And.intro hN (tC Hh ht))
 have afy:wr.frozen? ⟨g,o+j*2,none⟩=false:=ai hg _
 have afz:wr.frozen? ⟨g,o+j*2+1,none⟩=false:=ai hg _
 have OQ:(i:Int)<(n' :Int):=by omega
 have hjn:(j:Int)<(n' :Int):=by omega
 have hjc:∃u,wr.cell? ⟨g,o+j*2,none⟩=some u:=⟨_,by rw [ao hg,Array.getElem?_eq_getElem (by omega)]⟩
 have Uu:∃u,wr.cell? ⟨g,o+j*2+1,none⟩=some u:=⟨_,by rw [ao hg,Array.getElem?_eq_getElem (by omega)]⟩
 obtain⟨u1,Ij⟩:=hjc
 obtain⟨u2,Fs⟩:=Uu
 have du1:wr.drew.cell? ⟨g,o+j*2,none⟩=some u1:=Ij
 have Uv:=cj hg (o+j*2) (.int .u32 t.tt)
 have afA:(wr.setCell ⟨g,o+j*2,none⟩ (.int .u32 t.tt)).drew.frozen? ⟨g,o+j*2+1,none⟩=false:=ai (w:=(wr.setCell ⟨g,o+j*2,none⟩ (.int .u32 t.tt)).drew) Uv _
 have du3:(wr.setCell ⟨g,o+j*2,none⟩ (.int .u32 t.tt)).drew.cell? ⟨g,o+j*2+1,none⟩=some u2:=by
  show (wr.setCell ⟨g,o+j*2,none⟩ (.int .u32 t.tt)).cell? ⟨g,o+j*2+1,none⟩=some u2
  rw [ao Uv,Array.getElem?_setIfInBounds_ne (by omega),←ao hg]
  exact Fs
 clear Uv
 have du2:wr.drew.cell? ⟨g,o+j*2+1,none⟩=some u2:=Fs
 have Uw:i≤100000000:=by omega
 have hjb:j≤100000000:=by omega
 clear hP ht Q6 hk hN gu hT hs
 conv=>arg 2;whnf
 by_cases eh:j<i
 ·have qL:(j:Int)<(i:Int):=by omega
  go_wp2_with (fail)
  go_still_tail 12,(by kernel_rfl)
  change wpList _ _ _ _ _ wr.drew
  go_wp2_with (fail)
  refine hK _ _ (ts.set j t) (by simp) ⟨⟨⟨by kernel_rfl,rfl⟩,rfl,?_⟩,rfl,rfl,by omega,by simp;omega,by simpa using hn,HN.out.2.trans HN.out.1⟩
  exact⟨(HP.out.1.aab h0 OR.out.2.2 (by rw [OR.out.1];exact OR.out.2.1)).drew,(HP.out.2.trans OR.out.2.2.kt).drew⟩
 ·have qL:¬(j:Int)<(i:Int):=by omega
  have HIJ:=am (show j=i by omega)
  go_wp2_with (fail)
  refine hK _ _ ts rfl ⟨⟨⟨by kernel_rfl,rfl⟩,rfl,HP.out⟩,rfl,rfl,by omega,by omega,hn,?_⟩
  have Ux:ts.set j t=ts:=by
   apply List.ext_getElem?
   intro k
   by_cases hkj:k=j
   ·subst hkj
    have:=HT.out
    rw [←HIJ.out] at this
    rw [List.getElem?_set_self (by omega),this]
   ·rw [List.getElem?_set_ne (Ne.symm hkj)]
  have:=HN.out.2
  rw [Ux,HN.out.1] at this
  exact this
theorem Uz {k2:Int} {N0:List Tk} {j i:Nat} (h:Cm B w0 c gp w k2 p v N0 ts fs ds j i l wr) (hi:i<ts.length)
  (hK:∀l',l'.getD 207 default= .bool (decide (i+1<ts.length))→Cm B w0 c gp w k2 p v N0 ts fs ds j i l' wr→K ⟨l'.toArray,[]⟩ wr):Code.wp Tryz.prog (bI [0,1,0,1,0,1,1,1,1,1,1,0,1,0,0,1,0,0,1,0,1,0] db) (Exit.then K Q) ⟨l.toArray,[]⟩ wr:=by
 have HC:=am h
 obtain⟨⟨⟨hl,dy⟩,h4,hP⟩,h7,h8,Hh,_,hn,hN⟩:=h
 obtain⟨f,hf,rfl⟩:=dD l hl
 rw [hf] at dy h4 h7 h8
 rw [dy,h4,h7,h8]
 have c4:=hP.1.c4
 have HP:=am hP
 have HN:=am hN
 have HK:=am hK
 clear hK
 have Uw:i≤100000000:=by omega
 obtain⟨A,n',cap,gu,e1,e2⟩:=hP.1.tb.getD
 rw [gu] at c4
 rw [e1] at hi hn
 have hjb:j≤100000000:=by omega
 have OU:=am e1
 clear hP hN HC hf hl dy h4 h7 h8 gu e1
 by_cases eh:i+1<n'
 ·have qL:(i:Int)+1<(n' :Int):=by omega
  conv=>arg 2;whnf
  go_wp2_with (fail)
  refine HK.out _ ?_ ⟨⟨⟨by kernel_rfl,rfl⟩,rfl,HP.out⟩,rfl,rfl,by omega,by have:=OU.out;omega,by have:=OU.out;omega,HN.out⟩
  rw [OU.out,decide_eq_true eh]
  rfl
 ·have qL:¬(i:Int)+1<(n' :Int):=by omega
  conv=>arg 2;whnf
  go_wp2_with (fail)
  refine HK.out _ ?_ ⟨⟨⟨by kernel_rfl,rfl⟩,rfl,HP.out⟩,rfl,rfl,by omega,by have:=OU.out;omega,by have:=OU.out;omega,HN.out⟩
  rw [OU.out,decide_eq_false eh]
  rfl
theorem UA {k2:Int} {N0:List Tk} {j i:Nat} (h:Cm B w0 c gp w k2 p v N0 ts fs ds j i l wr) {t:Tk} (ht:ts[i]? =some t) (hk:t.tt=20) (pM:i+1<ts.length)
  (hK:∀l',Cm B w0 c gp w k2 p v N0 ts fs ds j i l' wr→K ⟨l'.toArray,[]⟩ wr)
  (hQ:∀l',Cm B w0 c gp w k2 p v N0 ts fs ds j (i+1) l' wr→Q (.exit 7) ⟨l'.toArray,[]⟩ wr):Code.wp Tryz.prog (bI [0,1,0,1,0,1,1,1,1,1,1,0,1,0,0,1,0,0,1,0,1,1,0,0] db) (Exit.then K Q) ⟨l.toArray,[]⟩ wr:=by
 have HC:=am h
 obtain⟨⟨⟨hl,dy⟩,h4,hP⟩,h7,h8,Hh,_,hn,hN⟩:=h
 obtain⟨f,hf,rfl⟩:=dD l hl
 rw [hf] at dy h4 h7 h8
 rw [dy,h4,h7,h8]
 have c4:=hP.1.c4
 have HP:=am hP
 have HN:=am hN
 have HK:=am hK
 clear hK
 have HQ:=am hQ
 clear hQ
 have Uw:i≤100000000:=by omega
 have hjb:j≤100000000:=by omega
 have Uy:=HC.out.2.2.2.2.2.2
 rw [←tD ht hk] at Uy
 have HS:=am Uy
 obtain⟨t1,G6⟩:∃t1,ts[i+1]? =some t1:=⟨_,List.getElem?_eq_getElem pM⟩
 obtain⟨g,o,n',cap,dv,gu,e1,e2,e3,e4,e5,e6⟩:=HP.out.1.tb.at_ G6
 obtain⟨A,nd,cd,rfl,tE⟩:=e6.test
 rw [gu] at c4
 have qL:(i:Int)+1<(n' :Int):=by omega
 clear hP hN Uy HC hf hl dy h4 h7 h8 ht hk G6 gu
 conv=>arg 2;whnf
 rcases tE with hnd|⟨rfl,g2,o2,b,rfl,hb,tE⟩
 ·go_wp2_with (fail)
  exact HK.out _ ⟨⟨⟨by kernel_rfl,rfl⟩,rfl,HP.out⟩,rfl,rfl,by omega,by omega,hn,HN.out⟩
 ·rcases tE with rfl|⟨x1,rfl|⟨x2,rfl|⟨x3,rfl|⟨x4,rfl|x5⟩⟩⟩⟩
  ·go_wp2_with (fail)
   exact HQ.out _ ⟨⟨⟨by kernel_rfl,rfl⟩,rfl,HP.out⟩,rfl,rfl,by omega,by omega,hn,HS.out⟩
  ·go_wp2_with (fail)
   exact HQ.out _ ⟨⟨⟨by kernel_rfl,rfl⟩,rfl,HP.out⟩,rfl,rfl,by omega,by omega,hn,HS.out⟩
  ·go_wp2_with (fail)
   exact HQ.out _ ⟨⟨⟨by kernel_rfl,rfl⟩,rfl,HP.out⟩,rfl,rfl,by omega,by omega,hn,HS.out⟩
  ·go_wp2_with (fail)
   exact HQ.out _ ⟨⟨⟨by kernel_rfl,rfl⟩,rfl,HP.out⟩,rfl,rfl,by omega,by omega,hn,HS.out⟩
  ·go_wp2_with (fail)
   exact HQ.out _ ⟨⟨⟨by kernel_rfl,rfl⟩,rfl,HP.out⟩,rfl,rfl,by omega,by omega,hn,HS.out⟩
  ·go_wp2_with (fail)
   exact HK.out _ ⟨⟨⟨by kernel_rfl,rfl⟩,rfl,HP.out⟩,rfl,rfl,by omega,by omega,hn,HN.out⟩
theorem aaf:bI [0,1,0,1,0,1,1,1,1,1,1,0,1,0,0,1,0] db= .seq (.seq (bI [0,1,0,1,0,1,1,1,1,1,1,0,1,0,0,1,0,0,0] db) (.cond (.tmp 153) (.seq (bI [0,1,0,1,0,1,1,1,1,1,1,0,1,0,0,1,0,0,1,0,0] db) (.seq (bI [0,1,0,1,0,1,1,1,1,1,1,0,1,0,0,1,0,0,1,0,1,0] db) (.cond (.tmp 207) (.seq (bI [0,1,0,1,0,1,1,1,1,1,1,0,1,0,0,1,0,0,1,0,1,1,0,0] db) (bI [0,1,0,1,0,1,1,1,1,1,1,0,1,0,0,1,0,0,1,0,1,1,0,1] db)) .skip))) .skip)) (bI [0,1,0,1,0,1,1,1,1,1,1,0,1,0,0,1,0,1] db):=by kernel_rfl
theorem aag {k2:Int} {N0:List Tk} {j i:Nat} (h:Cm B w0 c gp w k2 p v N0 ts fs ds j i l wr) {t:Tk} (ht:ts[i]? =some t)
  (hK:∀l',l'.getD 153 default= .bool (t.tt==20)→Cm B w0 c gp w k2 p v N0 ts fs ds j i l' wr→K ⟨l'.toArray,[]⟩ wr):Code.wp Tryz.prog (bI [0,1,0,1,0,1,1,1,1,1,1,0,1,0,0,1,0,0,0] db) (Exit.then K Q) ⟨l.toArray,[]⟩ wr:=by
 have HC:=am h
 obtain⟨⟨⟨hl,dy⟩,h4,hP⟩,h7,h8,Hh,_,hn,hN⟩:=h
 obtain⟨f,hf,rfl⟩:=dD l hl
 rw [hf] at dy h4 h7 h8
 rw [dy,h4,h7,h8]
 have c4:=hP.1.c4
 have HP:=am hP
 have HN:=am hN
 have HK:=am hK
 clear hK
 have Uw:i≤100000000:=by have:=(List.getElem?_eq_some_iff.1 ht).1;omega
 obtain⟨g,o,n',cap,dv,gu,e1,e2,e3,e4,e5,e6⟩:=HP.out.1.tb.at_ ht
 rw [gu] at c4
 have qL:(i:Int)<(n' :Int):=by omega
 clear hP hN HC hf hl dy h4 h7 h8 ht gu
 conv=>arg 2;whnf
 go_wp2_with (fail)
 exact HK.out _ rfl ⟨⟨⟨by kernel_rfl,rfl⟩,rfl,HP.out⟩,rfl,rfl,by omega,by omega,hn,HN.out⟩
theorem pY {l:List Value} {i:Nat} {v:Value} (h:l.getD i default=v) (hl:l.length=453) (hi:i<453):(⟨l.toArray,[]⟩:Act).eval (.tmp i)=v:=by
 have e:(⟨l.toArray,[]⟩:Act).eval (.tmp i)=l.toArray.getD i undef:=rfl
 rw [e,←h]
 simp [List.getD_eq_getElem?_getD,Array.getD_eq_getD_getElem?,List.getElem?_eq_getElem (show i<l.length by omega)]
theorem aah {k2:Int} {N0:List Tk} {j i:Nat} (h:Cm B w0 c gp w k2 p v N0 ts fs ds j i l wr) (h0:0<B) (hi:i<ts.length)
  (hK:∀l' wx bN j' i',bN.length=ts.length→i<i' →Cm B w0 c gp w k2 p v N0 bN fs ds j' i' l' wx→K ⟨l'.toArray,[]⟩ wx)
  (hQ:∀l' wx bN j' i',bN.length=ts.length→i<i' →Cm B w0 c gp w k2 p v N0 bN fs ds j' i' l' wx→Q (.exit 7) ⟨l'.toArray,[]⟩ wx):
  Code.wp Tryz.prog (bI [0,1,0,1,0,1,1,1,1,1,1,0,1,0,0,1,0] db) (Exit.then K Q) ⟨l.toArray,[]⟩ wr:=by
 rw [aaf]
 obtain⟨t,ht⟩:∃t,ts[i]? =some t:=⟨_,List.getElem?_eq_getElem hi⟩
 have ka:∀(l' :List Value) (wx:World) (bN :List Tk) (j' i' :Nat),bN.length=ts.length→i≤i' →i' <ts.length→Cm B w0 c gp w k2 p v N0 bN fs ds j' i' l' wx→(bI [0,1,0,1,0,1,1,1,1,1,1,0,1,0,0,1,0,1] db).wp Tryz.prog (Exit.then K Q) ⟨l'.toArray,[]⟩ wx:=by
  intro l' wx bN j' i' e1 e2 e3 hc
  exact aac hc h0 (by omega) (fun l2 wx2 OV e4 GH=>hK l2 wx2 OV _ _ (by omega) (by omega) GH)
 refine wp_seq_k fun K1 gv=>wp_seq_k fun K2 ik=> ?_
 refine aag h ht fun l1 e1 oe=>ik _ _ ?_
 by_cases hk:t.tt=20
 ·refine wp_cond_true (show (⟨l1.toArray,[]⟩:Act).eval (.tmp 153)= .bool true from ?_) ?_
  ·exact pY (by rw [e1,hk];rfl) oe.1.1.1 (by decide)
  refine wp_seq_k fun K3 jK=> ?_
  refine aad oe ht hk (fun l2 GH=>jK _ _ ?_) (fun l2 GH=> ?_)
  ·refine wp_seq_k fun K4 lW=> ?_
   refine Uz GH hi fun l3 e3 OW=>lW _ _ ?_
   by_cases pM:i+1<ts.length
   ·refine wp_cond_true (show (⟨l3.toArray,[]⟩:Act).eval (.tmp 207)= .bool true from ?_) ?_
    ·exact pY (by rw [e3,decide_eq_true pM]) OW.1.1.1 (by decide)
    refine wp_seq_k fun K5 oU=> ?_
    refine UA OW ht hk pM (fun l4 yI=>oU _ _ ?_) (fun l4 yI=> ?_)
    ·refine aae yI h0 hi (fun l5 wx5 ts5 e5 Fo=>gv _ _ (ka _ _ _ _ _ e5 (by omega) (by omega) Fo))
    ·exact hQ _ _ _ _ _ rfl (by omega) yI
   ·refine wp_cond_false (show (⟨l3.toArray,[]⟩:Act).eval (.tmp 207)= .bool false from ?_) (wp_skip ?_)
    ·exact pY (by rw [e3,decide_eq_false pM]) OW.1.1.1 (by decide)
    exact gv _ _ (ka _ _ _ _ _ rfl (by omega) (by omega) OW)
  ·exact hQ _ _ _ _ _ rfl (by omega) GH
 ·refine wp_cond_false (show (⟨l1.toArray,[]⟩:Act).eval (.tmp 153)= .bool false from ?_) (wp_skip ?_)
  ·exact pY (by rw [e1];simpa using hk) oe.1.1.1 (by decide)
  exact gv _ _ (ka _ _ _ _ _ rfl (by omega) (by omega) oe)
theorem aai:bI [0,1,0,1,0,1,1,1,1,1,1,0] db= .seq (bI [0,1,0,1,0,1,1,1,1,1,1,0,0] db) (.block 6 (.loop (.seq (.seq (bI [0,1,0,1,0,1,1,1,1,1,1,0,1,0,0,0,0] db) (.cond (.tmp 144) .skip (.exit 6))) (.block 7 (bI [0,1,0,1,0,1,1,1,1,1,1,0,1,0,0,1,0] db))))):=by kernel_rfl
theorem aaj {k2:Int} {N0:List Tk} {j i:Nat} (h:Cm B w0 c gp w k2 p v N0 ts fs ds j i l wr)
  (hK:∀l',l'.getD 144 default= .bool (decide (i<ts.length))→Cm B w0 c gp w k2 p v N0 ts fs ds j i l' wr→K ⟨l'.toArray,[]⟩ wr):Code.wp Tryz.prog (bI [0,1,0,1,0,1,1,1,1,1,1,0,1,0,0,0,0] db) (Exit.then K Q) ⟨l.toArray,[]⟩ wr:=by
 obtain⟨⟨⟨hl,dy⟩,h4,hP⟩,h7,h8,Hh,uk,hn,hN⟩:=h
 obtain⟨f,hf,rfl⟩:=dD l hl
 rw [hf] at dy h4 h7 h8
 rw [dy,h4,h7,h8]
 have c4:=hP.1.c4
 have HP:=am hP
 have HN:=am hN
 have HK:=am hK
 clear hK
 have Uw:i≤100000000:=by omega
 obtain⟨A,n',cap,gu,e1,e2⟩:=hP.1.tb.getD
 rw [gu] at c4
 have OU:=am e1
 clear hP hN hf hl dy h4 h7 h8 gu e1
 by_cases eh:i<n'
 ·have qL:(i:Int)<(n' :Int):=by omega
  conv=>arg 2;whnf
  go_wp2_with (fail)
  refine HK.out _ ?_ ⟨⟨⟨by kernel_rfl,rfl⟩,rfl,HP.out⟩,rfl,rfl,by omega,uk,hn,HN.out⟩
  rw [OU.out,decide_eq_true eh]
  rfl
 ·have qL:¬(i:Int)<(n' :Int):=by omega
  conv=>arg 2;whnf
  go_wp2_with (fail)
  refine HK.out _ ?_ ⟨⟨⟨by kernel_rfl,rfl⟩,rfl,HP.out⟩,rfl,rfl,by omega,uk,hn,HN.out⟩
  rw [OU.out,decide_eq_false eh]
  rfl
theorem aak {k2:Int} (h:qJ B w0 c gp w k2 p v ts fs ds l wr)
  (hK:∀l',l'.getD 7 default= .int .i64 0→qJ B w0 c gp w k2 p v ts fs ds l' wr→K ⟨l'.toArray,[]⟩ wr):Code.wp Tryz.prog (bI [0,1,0,1,0,1,1,1,1,1,0] db) (Exit.then K Q) ⟨l.toArray,[]⟩ wr:=by
 have HH:=am h
 obtain⟨⟨hl,dy⟩,h4,hP⟩:=h
 obtain⟨f,hf,rfl⟩:=dD l hl
 rw [hf] at dy h4
 rw [dy,h4]
 have HK:=am hK
 clear hK hP hf hl dy h4
 conv=>arg 2;whnf
 go_wp2_with (fail)
 exact HK.out _ rfl ⟨⟨by kernel_rfl,rfl⟩,rfl,HH.out.2.2⟩
theorem aal {k2:Int} (h:qJ B w0 c gp w k2 p v ts fs ds l wr) (h7:l.getD 7 default= .int .i64 0)
  (hK:∀l',l'.getD 7 default= .int .i64 0→l'.getD 8 default= .int .i64 0→qJ B w0 c gp w k2 p v ts fs ds l' wr→K ⟨l'.toArray,[]⟩ wr):Code.wp Tryz.prog (bI [0,1,0,1,0,1,1,1,1,1,1,0,0] db) (Exit.then K Q) ⟨l.toArray,[]⟩ wr:=by
 have HH:=am h
 obtain⟨⟨hl,dy⟩,h4,hP⟩:=h
 obtain⟨f,hf,rfl⟩:=dD l hl
 rw [hf] at dy h4 h7
 rw [dy,h4,h7]
 have HK:=am hK
 clear hK hP hf hl dy h4 h7
 conv=>arg 2;whnf
 go_wp2_with (fail)
 exact HK.out _ rfl rfl ⟨⟨by kernel_rfl,rfl⟩,rfl,HH.out.2.2⟩
theorem aam {k2:Int} {N0:List Tk} (h:qJ B w0 c gp w k2 p v ts fs ds l wr) (h7:l.getD 7 default= .int .i64 0) (h0:0<B) (hn:ts.length≤100000000) (hN:bH ts=N0)
  (hK:∀(l' :List Value) (wx:World) (bN :List Tk) (j:Nat),qJ B w0 c gp w k2 p v bN fs ds l' wx→l'.getD 7 default= .int .i64 j→j≤bN.length→bN.length≤100000000→bH (bN.take j)=N0→K ⟨l'.toArray,[]⟩ wx):Code.wp Tryz.prog (bI [0,1,0,1,0,1,1,1,1,1,1,0] db) (Exit.then K Q) ⟨l.toArray,[]⟩ wr:=by
 rw [aai]
 refine wp_seq_k fun K1 gv=> ?_
 refine aal h h7 fun l1 e7 e8 Ip=>gv _ _ ?_
 refine wp_block ?_
 refine cZ 453 (fun g l' wx=>∃bN j i,g=bN.length - i∧Cm B w0 c gp w k2 p v N0 bN fs ds j i l' wx) ts.length l1 Ip.1.1 ⟨ts,0,0,rfl,Ip,e7,e8,Nat.le_refl _,Nat.zero_le _,hn,by simpa [bH] using hN⟩ ?_
 rintro n l2 wx wi ⟨bN,j,i,Wl,hc⟩ J hJ
 refine wp_seq_k fun K2 ik=>wp_seq_k fun K3 jK=> ?_
 refine aaj hc fun l3 e3 OW=>jK _ _ ?_
 by_cases hi:i<bN.length
 ·refine wp_cond_true (pY (by rw [e3,decide_eq_true hi]) OW.1.1.1 (by decide)) (wp_skip (ik _ _ ?_))
  refine wp_block ?_
  have key:∀(l' :List Value) (wx:World) (OV:List Tk) (j' i' :Nat),OV.length=bN.length→i<i' →Cm B w0 c gp w k2 p v N0 OV fs ds j' i' l' wx→J ⟨l'.toArray,[]⟩ wx:=by
   intro l' wx OV j' i' e4 e5 yI
   exact hJ (OV.length - i') _ _ (by omega) yI.1.1.1 ⟨OV,j',i',rfl,yI⟩
  refine wp_mono (aah (K:=J) (Q:=fun e a w=>e= .exit 7∧J a w) OW h0 hi key (fun l' wx OV j' i' e4 e5 yI=>⟨rfl,key l' wx OV j' i' e4 e5 yI⟩)) ?_
  intro e a w' hq
  cases e with
  | normal=>exact hq
  | exit id=>
   obtain⟨e1,e2⟩:=hq
   injection e1 with e1
   subst e1
   exact e2
  | goto l=>cases hq.1
  | ret=>cases hq.1
  | panic ch=>cases hq.1
  | outgrown=>cases hq.1
 ·refine wp_cond_false (pY (by rw [e3,decide_eq_false hi]) OW.1.1.1 (by decide)) (wp_exit ?_)
  obtain⟨hs,e7',e8',Hh,uk,YO,hN'⟩:=OW
  refine hK l3 wx bN j hs e7' (by omega) YO ?_
  rw [List.drop_eq_nil_of_le (by omega)] at hN'
  simpa [bH] using hN'
end Go.Proofs.YtlglijnaeaonpaaGreatDoor.Lx
end
section
set_option maxHeartbeats 8000000
set_option maxRecDepth 100000
set_option linter.unusedVariables false
set_option linter.unusedSimpArgs false
namespace Go.Proofs.YtlglijnaeaonpaaGreatDoor.Lx
open Go.RowKit Go.Proofs.YtlglijnaeaonpaaGreatDoorW.aC
variable {w0 w:World}
def low (b:Int):Int:=if 65≤b∧b≤90 then b+32 else b
theorem qe.cell {g:Nat} {xs:List Int} (h:qe w g xs) {i:Nat} (hi:i<xs.length):w.cell? ⟨g,i,none⟩=some (.int .u8 (xs.getD i 0)):=by
 rw [ao h]
 simp [bp,List.getD_eq_getElem?_getD,List.getElem?_eq_getElem hi]
theorem qe.set {g:Nat} {xs:List Int} (h:qe w g xs) {i:Nat} (b:Int):qe (w.setCell ⟨g,i,none⟩ (.int .u8 b)) g (xs.set i b):=by
 have:=cj h i (.int .u8 b)
 unfold qe
 rw [this]
 simp [bp,List.map_set]
def lo (xs:List Int) (i:Nat):List Int:=(xs.take i).map low++xs.drop i
theorem vU (xs:List Int) {i:Nat} (hi:i≤xs.length) (k:Nat):(lo xs i)[k]? =if k<i then xs[k]?.map low else xs[k]?:=by
 unfold lo
 have hl:((xs.take i).map low).length=i:=by rw [List.length_map,List.length_take];omega
 split
 ·rw [List.getElem?_append_left (by omega),List.getElem?_map,List.getElem?_take,if_pos (by assumption)]
 ·rw [List.getElem?_append_right (by omega),hl,List.getElem?_drop]
  congr 1
  omega
theorem Ln (xs:List Int) {i:Nat} (hi:i≤xs.length):(lo xs i).length=xs.length:=by
 unfold lo
 rw [List.length_append,List.length_map,List.length_take,List.length_drop]
 omega
theorem UB (xs:List Int) {i:Nat} (hi:i<xs.length):(lo xs i).getD i 0=xs.getD i 0:=by
 rw [List.getD_eq_getElem?_getD,List.getD_eq_getElem?_getD,vU xs (by omega),if_neg (by omega)]
theorem UC (xs:List Int) {i:Nat} (hi:i<xs.length):(lo xs i).set i (low (xs.getD i 0))=lo xs (i+1):=by
 apply List.ext_getElem?
 intro k
 have e3:xs.getD i 0=xs[i]:=by rw [List.getD_eq_getElem?_getD,List.getElem?_eq_getElem hi];rfl
 by_cases hk:k=i
 ·subst hk
  rw [List.getElem?_set_self (by rw [Ln xs (by omega)];exact hi),vU xs (by omega),if_pos (by omega),List.getElem?_eq_getElem hi,e3]
  rfl
 ·rw [List.getElem?_set_ne (Ne.symm hk),vU xs (by omega),vU xs (by omega)]
  by_cases h1:k<i
  ·rw [if_pos h1,if_pos (by omega)]
  ·rw [if_neg h1,if_neg (by omega)]
theorem OX (xs:List Int) {i:Nat} (hi:i<xs.length) (h:low (xs.getD i 0)=xs.getD i 0):lo xs (i+1)=lo xs i:=by
 apply List.ext_getElem?
 intro k
 have e3:xs.getD i 0=xs[i]:=by rw [List.getD_eq_getElem?_getD,List.getElem?_eq_getElem hi];rfl
 rw [e3] at h
 rw [vU xs (by omega),vU xs (by omega)]
 by_cases hk:k=i
 ·subst hk
  rw [if_pos (by omega),if_neg (by omega),List.getElem?_eq_getElem hi,Option.map_some,h]
 ·by_cases h1:k<i
  ·rw [if_pos h1,if_pos (by omega)]
  ·rw [if_neg h1,if_neg (by omega)]
def LoI (s:Nat) (w:World) (g:Nat) (xs:List Int) (k:Nat) (v7:Value) (wr:World):Prop:=
 ∃i:Nat,v7= .int .i64 i∧i≤xs.length∧k=xs.length - i∧qe wr g (lo xs i)∧Below s w wr
theorem lower (g n:Nat) (xs:List Int) (h:qe w g xs) (hn:xs.length=n) (hb:n≤1099511627776) (hx:∀x∈xs,0≤x∧x≤255) {s:Nat} {w00:World} (hs:Below s w00 w) (hg:s≤g):
  Calls Tryz.prog 71 #[.slice (some ⟨g,0,none⟩) n n] w fun e w' =>e= .returned (.slice (some ⟨g,0,none⟩) n n)∧qe w' g (xs.map low)∧Below s w00 w':=by
 have hI:LoI s w00 g xs n (.int .i64 0) w:=⟨0,rfl,Nat.zero_le _,by omega,by simpa [lo] using h,hs⟩
 have HX:=am hx
 have HN:=am hn
 clear h hs hx hn
 go_enter Tryz.func71,Tryz.ntmps71
 go_wp2
 go_loopg [7] n (fun k v7 wr=>LoI s w00 g xs k v7 wr)
 case atStart=>exact hI
 case round=>
  clear hI
  obtain⟨i,rfl,uk,hk,hB,lX⟩:=hrel
  have HK:=am hk
  have Ut:=am lX
  rw [HN.out] at uk
  clear hk lX
  by_cases hi:i<n
  ·have qL:(i:Int)<(n:Int):=by omega
   have o9:i<xs.length:=by have:=HN.out;omega
   have hc:=hB.cell (i:=i) (by rw [Ln xs (by omega)];exact o9)
   rw [UB xs o9] at hc
   have afB:0≤xs.getD i 0∧xs.getD i 0≤255:=by
    have e3:xs.getD i 0=xs[i]:=by rw [List.getD_eq_getElem?_getD,List.getElem?_eq_getElem o9];rfl
    rw [e3]
    exact HX.out _ (List.getElem_mem _)
   have hf:wr.frozen? ⟨g,i,none⟩=false:=ai hB i
   have hBs:=hB.set (i:=i) (low (xs.getD i 0))
   rw [UC xs o9] at hBs
   have Bg:low (xs.getD i 0)=xs.getD i 0→qe wr g (lo xs (i+1)):=fun e=>by rw [OX xs o9 e];exact hB
   have HSM:=am Bg
   have Iq:=am hBs
   have HXL:=am o9
   clear hB Bg hBs o9
   revert hc afB HSM Iq
   generalize xs.getD i 0=b
   rintro hc ⟨qS,eW⟩ HSM Iq
   by_cases h1:65≤b
   ·by_cases h2:b≤90
    ·have e:low b=b+32:=by simp [low,h1,h2]
     rw [e] at Iq
     have ahm:IntKind.u8.wrap (b+32)=b+32:=by simp [IntKind.wrap,IntKind.bits,IntKind.signed];omega
     clear e
     go_wp2
     go_roundg (n - (i+1))
     case measure=>have:=HK.out;have:=HN.out;omega
     case rel=>exact⟨i+1,rfl,HXL.out,by rw [HN.out],Iq.out,Ut.out.setCell hg _⟩
    ·have e:low b=b:=by simp [low,h2]
     clear Iq
     go_wp2
     go_roundg (n - (i+1))
     case measure=>have:=HK.out;have:=HN.out;omega
     case rel=>exact⟨i+1,rfl,HXL.out,by rw [HN.out],HSM.out e,Ut.out⟩
   ·have e:low b=b:=by simp [low,h1]
    clear Iq
    go_wp2
    go_roundg (n - (i+1))
    case measure=>have:=HK.out;have:=HN.out;omega
    case rel=>exact⟨i+1,rfl,HXL.out,by rw [HN.out],HSM.out e,Ut.out⟩
  ·have qL:¬(i:Int)<(n:Int):=by omega
   have OQ:i=xs.length:=by have:=HN.out;omega
   have KQ:qe wr g (xs.map low):=by
    rw [OQ] at hB
    simpa [lo] using hB
   have kY:=am KQ
   clear OQ hB KQ
   go_wp2
   go_ret
   exact⟨rfl,kY.out,Ut.out⟩
end Go.Proofs.YtlglijnaeaonpaaGreatDoor.Lx
end
section
set_option maxHeartbeats 8000000
set_option maxRecDepth 100000
set_option linter.unusedVariables false
set_option linter.unusedSimpArgs false
namespace Go.Proofs.YtlglijnaeaonpaaGreatDoor.Lx
open Go.RowKit Go.Proofs.YtlglijnaeaonpaaGreatDoorW.aC
variable {w0 w wr:World} {c:lQ} {p:Int} {B:Nat} {gp:Nat} {v:PV} {ts:List Tk} {fs:List Nat} {ds:List Int} {k q:Int} {xs:List Int} {K:Act→World→Prop} {Q:Exit→Act→World→Prop} {l:List Value} {off:Int}
theorem aan {k2:Int} {j:Nat} (h:qJ B w0 c gp w k2 p v ts fs ds l wr) (h0:0<B) (h7:l.getD 7 default= .int .i64 j) (hj:j≤ts.length) (hn:ts.length≤100000000)
  (hK:∀l' wx b',qJ B w0 c gp w k2 p {v with buf:=b' } (ts.take j) fs ds l' wx→K ⟨l'.toArray,[]⟩ wx):Code.wp Tryz.prog (bI [0,1,0,1,0,1,1,1,1,1,1,1,0] db) (Exit.then K Q) ⟨l.toArray,[]⟩ wr:=by
 obtain⟨⟨hl,dy⟩,h4,hP⟩:=h
 obtain⟨f,hf,rfl⟩:=dD l hl
 rw [hf] at dy h4
 rw [dy,h4]
 have HP:=am hP
 have HK:=am hK
 clear hK
 rw [hf] at h7
 rw [h7]
 clear hf hl dy h4 h7
 have c4:=hP.1.c4
 have f4:=hP.1.f 4
 have hjb:j≤100000000:=by omega
 have ht:=hP.1.tb
 obtain⟨A,n',cap,gu,e1,e2⟩:=hP.1.tb.getD
 rw [gu] at c4 ht
 have hT:Tb B wr (.slice A j cap) (ts.take j):=by
  obtain⟨A',n2,yL,e,h1,h2,h3,h4⟩:=ht
  injection e with e e' e''
  subst e;subst e';subst e''
  refine⟨_,_,_,rfl,by simp;omega,by omega,by omega,fun hp=> ?_⟩
  obtain⟨g',o',cs,e,AO,hg,hs,hc⟩:=h4 (by omega)
  refine⟨_,_,cs,e,AO,hg,by omega,fun i t ht=> ?_⟩
  rw [List.getElem?_take] at ht
  split at ht
  ·exact hc i t ht
  ·cases ht
 have HT:=am hT
 have hjc:(j:Int)≤(cap:Int):=by omega
 clear hP gu ht hT
 conv=>arg 2;whnf
 go_wp2_with (fail)
 exact HK.out _ _ _ ⟨⟨by kernel_rfl,rfl⟩,rfl,HP.out.1.tw h0 (my.fh (Below.refl _ _) HP.out.1.hB) HT.out,HP.out.2.trans (HP.out.1.eY 4 _)⟩
theorem aao {k2:Int} (h:qJ B w0 c gp w k2 p v ts fs ds l wr) (h0:0<B) (hx:∀x∈ds,0≤x∧x≤255)
  (hK:∀l' wx dv,qJ B w0 c gp w k2 p {v with data:=dv} ts fs (ds.map low) l' wx→K ⟨l'.toArray,[]⟩ wx):Code.wp Tryz.prog (bI [0,1,0,1,0,1,1,1,1,1,1,1,1,0] db) (Exit.then K Q) ⟨l.toArray,[]⟩ wr:=by
 obtain⟨⟨hl,dy⟩,h4,hP⟩:=h
 obtain⟨f,hf,rfl⟩:=dD l hl
 rw [hf] at dy h4
 rw [dy,h4]
 have HP:=am hP
 have HK:=am hK
 clear hK
 clear hf hl dy h4
 have c6:=hP.1.c6
 obtain⟨A,n,cp,yd,hd1,Wn,DO⟩:=hP.1.Dy.reads
 rw [yd] at c6
 have HX:=am hx
 clear hP yd hx
 conv=>arg 2;whnf
 go_wp2_with (fail)
 refine(copy A n cp ds wr DO Wn).mono ?_
 rintro e w1 ⟨g,rfl,mv,jm,Lo⟩
 have pa:=am mv
 have afC:=am Lo
 clear mv Lo
 go_wp2_with (fail)
 refine(lower g n ds pa.out hd1 Wn HX.out afC.out jm).mono ?_
 rintro e w2 ⟨rfl,KQ,Hi⟩
 have jM:=HP.out.1.below Hi
 have kV:=HP.out.2.below Hi HP.out.1.hB
 have f6:=jM.f 6
 have c6':=jM.c6
 have kY:=am (And.intro KQ (And.intro jM kV))
 clear KQ Hi jM kV c6
 go_wp2_with (fail)
 refine HK.out _ _ _ ⟨⟨by kernel_rfl,rfl⟩,rfl,kY.out.2.1.store h0 6 _ {v with data:=.slice (some ⟨g,0,none⟩) n n} _ _ _ rfl kY.out.2.1.tb kY.out.2.1.rS ?_,kY.out.2.2.trans (kY.out.2.1.eY 6 _)⟩
 refine⟨_,_,_,rfl,by simp [hd1],Wn,fun hp=>⟨g,0,_,_,rfl,kY.out.1,fun j hj=> ?_⟩⟩
 have D8:j<ds.length:=by omega
 simp [bp,List.getD_eq_getElem?_getD,List.getElem?_eq_getElem D8]
theorem aap {k2:Int} (h:qJ B w0 c gp w k2 p v ts fs ds l wr) (h0:0<B)
  (hK:∀l' wx,qJ B w0 c gp w k2 p {v with pe:=k2==31} ts fs ds l' wx→K ⟨l'.toArray,[]⟩ wx):Code.wp Tryz.prog (bI [0,1,0,1,0,1,1,1,1,1,1,1,1,1,0] db) (Exit.then K Q) ⟨l.toArray,[]⟩ wr:=by
 obtain⟨⟨hl,dy⟩,h4,hP⟩:=h
 obtain⟨f,hf,rfl⟩:=dD l hl
 rw [hf] at dy h4
 rw [dy,h4]
 have HP:=am hP
 have HK:=am hK
 clear hK
 clear hf hl dy h4
 have eZ:=hP.1.eZ
 have f10:=hP.1.f 10
 clear hP
 conv=>arg 2;whnf
 go_wp2_with (fail)
 exact HK.out _ _ ⟨⟨by kernel_rfl,rfl⟩,rfl,HP.out.1.ez h0 10 _ {v with pe:=k2==31} rfl rfl rfl rfl,HP.out.2.trans (HP.out.1.eY 10 _)⟩
theorem aaq {k2:Int} (h:qJ B w0 c gp w k2 p v ts fs ds l wr)
  (hK:∀l',l'.getD 2 default= .int .u32 8→qJ B w0 c gp w k2 p v ts fs ds l' wr→K ⟨l'.toArray,[]⟩ wr):Code.wp Tryz.prog (bI [0,1,0,1,0,1,1,1,1,1,1,1,1,1,1,0] db) (Exit.then K Q) ⟨l.toArray,[]⟩ wr:=by
 obtain⟨⟨hl,dy⟩,h4,hP⟩:=h
 obtain⟨f,hf,rfl⟩:=dD l hl
 rw [hf] at dy h4
 rw [dy,h4]
 have HP:=am hP
 have HK:=am hK
 clear hK
 clear hf hl dy h4 hP
 conv=>arg 2;whnf
 go_wp2_with (fail)
 exact HK.out _ rfl ⟨⟨by kernel_rfl,rfl⟩,rfl,HP.out⟩
end Go.Proofs.YtlglijnaeaonpaaGreatDoor.Lx
end
