/- FnRules: a part of the proof (Rs). -/
import Derived.Test.YtlglijnaeaonpaaGreatDoorRn
import Derived.StillTailTactics
import Derived.Lib.SlBytesConst
import Derived.Deep.LoopGhost
import Derived.Deep.DeepCutAuto
import Derived.ArgAppend
import Derived.Test.YtlglijnaeaonpaaGreatDoorRr
section
set_option maxHeartbeats 8000000
set_option maxRecDepth 100000
set_option linter.unusedVariables false
set_option linter.unusedSimpArgs false
namespace Go.Proofs.YtlglijnaeaonpaaGreatDoor.Lx
open Go.RowKit Go.Proofs.YtlglijnaeaonpaaGreatDoorW.aC
variable {w0 w wr:World} {c:lQ} {p:Int} {B:Nat} {gp:Nat} {v:PV} {ts:List Tk} {fs:List Nat} {ds:List Int} {k q:Int} {xs:List Int} {K:Act→World→Prop} {Q:Exit→Act→World→Prop} {l:List Value} {off:Int}
theorem aar {x:Tk} {dv:Value} {lvl lvl' :Nat} (h:AQ B w0 c gp w off x dv p v ts fs ds l wr) (iW:v.lvl=lvl) (hlb:lvl≤100000000) (hs:step lvl x.tt lvl')
  (hK:∀l',l'.getD 44 default= .bool false→AQ B w0 c gp w off x dv p v ts fs ds l' wr→K ⟨l'.toArray,[]⟩ wr):Code.wp Tryz.prog (bI [0,1,0,0] db) (Exit.then K Q) ⟨l.toArray,[]⟩ wr:=by
 have HM:=am h
 obtain⟨⟨hl,dy⟩,h3,h4,h5,hP,hd⟩:=h
 obtain⟨f,hf,rfl⟩:=dD l hl
 rw [hf] at dy h3 h4 h5
 rw [dy,h3,h4,h5]
 clear hf hl dy h3 h4 h5 hd
 have Lp:=hP.1.c5
 rw [iW] at Lp
 have HS:=am hs
 clear hP hs iW
 conv=>arg 2;whnf
 have hM:∀l' :List Value,l'.length=453→l'.getD 0 default= .pointer (some ⟨gp,0,none⟩)→l'.getD 3 default= .int .i64 off→l'.getD 4 default= .int .u32 x.tt→l'.getD 5 default=dv→AQ B w0 c gp w off x dv p v ts fs ds l' wr:=
  fun l' a b d e g=>⟨⟨a,b⟩,d,e,g,HM.out.2.2.2.2⟩
 have HMM:=am hM
 clear hM
 have ik:∀l',ak (l'.getD 44 default= .bool false∧AQ B w0 c gp w off x dv p v ts fs ds l' wr)→K ⟨l'.toArray,[]⟩ wr:=fun l' hh=>hK l' hh.out.1 hh.out.2
 clear hK
 rcases HS.out with ⟨hk|hk|hk,-⟩|⟨hk|hk,-⟩|⟨⟨y0,y1,y2,y3,y4,y5,y6,y7,y8⟩,-⟩
 ·go_wp2_with (fail)
  exact am ⟨rfl,HMM.out _ (by kernel_rfl) rfl rfl rfl rfl⟩
 all_goals
  go_wp2_with (fail)
  exact am ⟨rfl,HMM.out _ (by kernel_rfl) rfl rfl rfl rfl⟩
theorem aas (h:Pk B w0 c gp w wr p v ts fs ds) (h0:0<B) (ij:v.kw=false) {x:Tk} {ws:Bool} (hp:eo c.bs p x.tt q x.bs ws) (hl:Fr gp l) (h3:l.getD 3 default= .int .i64 off)
  (hK:∀l' wx dv,AQ B w0 c gp w off x dv q {v with pw:=ws,pc:=false} ts fs ds l' wx→K ⟨l'.toArray,[]⟩ wx):Code.wp Tryz.prog (bI [0,0] db) (Exit.then K Q) ⟨l.toArray,[]⟩ wr:=by
 obtain⟨hl,dy⟩:=hl
 obtain⟨f,hf,rfl⟩:=dD l hl
 rw [hf] at dy h3
 rw [dy,h3]
 clear hf hl dy h3
 conv=>arg 2;whnf
 have HH:=am h
 have AP:=am ij
 have HP:=am hp
 clear h ij hp
 go_wp2_with (fail)
 refine(pop HH.out.1 h0 AP.out false HP.out).mono ?_
 rintro e w3 ⟨dv,rfl,hd,gm,jK⟩
 have HD:=am hd
 have mA:=am gm
 have Ou:=am (HH.out.2.trans jK)
 clear hd gm jK
 go_wp2_with (fail)
 exact hK _ _ dv ⟨⟨by kernel_rfl,rfl⟩,rfl,rfl,rfl,⟨mA.out,Ou.out⟩,HD.out⟩
theorem aat {x:Tk} {dv:Value} {lvl lvl' :Nat} (h:AQ B w0 c gp w off x dv p v ts fs ds l wr) (h0:0<B) (iW:v.lvl=lvl) (hlb:lvl≤100000000) (hs:step lvl x.tt lvl')
  (hK:∀l' wx,AQ B w0 c gp w off x dv p {v with lvl:=lvl' } ts fs ds l' wx→K ⟨l'.toArray,[]⟩ wx):Code.wp Tryz.prog (bI [0,1,0,1,1] db) (Exit.then K Q) ⟨l.toArray,[]⟩ wr:=by
 obtain⟨⟨hl,dy⟩,h3,h4,h5,hP,hd⟩:=h
 obtain⟨f,hf,rfl⟩:=dD l hl
 rw [hf] at dy h3 h4 h5
 rw [dy,h3,h4,h5]
 clear hf hl dy h3 h4 h5
 have HD:=am hd
 have HP:=am hP
 have Lp:=hP.1.c5
 have ahn:=hP.1.f 5
 rw [iW] at Lp
 have HS:=am hs
 have HLV:=am iW
 clear hs hd hP iW
 have hM:∀l' :List Value,l'.length=453→l'.getD 0 default= .pointer (some ⟨gp,0,none⟩)→l'.getD 3 default= .int .i64 off→l'.getD 4 default= .int .u32 x.tt→l'.getD 5 default=dv→K ⟨l'.toArray,[]⟩ (wr.setCell ⟨gp,5,none⟩ (.int .i64 lvl')):=
  fun l' a b d e g=>hK l' _ ⟨⟨a,b⟩,d,e,g,⟨HP.out.1.ez h0 5 _ _ rfl rfl rfl rfl,HP.out.2.trans (HP.out.1.eY 5 _)⟩,HD.out.kt (HP.out.1.eY 5 _)⟩
 have hM2:lvl' =lvl→∀l' :List Value,l'.length=453→l'.getD 0 default= .pointer (some ⟨gp,0,none⟩)→l'.getD 3 default= .int .i64 off→l'.getD 4 default= .int .u32 x.tt→l'.getD 5 default=dv→K ⟨l'.toArray,[]⟩ wr:=
  fun he l' a b d e g=>hK l' _ ⟨⟨a,b⟩,d,e,g,by rw [he,←HLV.out];exact HP.out,HD.out⟩
 have HM:=am hM
 have YQ:=am hM2
 clear hM hM2 hK
 conv=>arg 2;whnf
 rcases HS.out with ⟨hk|hk|hk,hl⟩|⟨hk|hk,hl⟩|⟨⟨y0,y1,y2,y3,y4,y5,y6,y7,y8⟩,hl⟩
 ·have HL:=am hl
  clear hl
  have e:((lvl' :Nat):Int)=(lvl:Int)+1:=by have:=HL.out;omega
  have hK:=HM.out
  rw [e] at hK
  have HK:=am hK
  clear hK e
  go_wp2_with (fail)
  exact HK.out _ (by kernel_rfl) rfl rfl rfl rfl
 ·have HL:=am hl
  clear hl
  have e:((lvl' :Nat):Int)=(lvl:Int)+1:=by have:=HL.out;omega
  have hK:=HM.out
  rw [e] at hK
  have HK:=am hK
  clear hK e
  go_wp2_with (fail)
  exact HK.out _ (by kernel_rfl) rfl rfl rfl rfl
 ·have HL:=am hl
  clear hl
  have e:((lvl' :Nat):Int)=(lvl:Int)+1:=by have:=HL.out;omega
  have hK:=HM.out
  rw [e] at hK
  have HK:=am hK
  clear hK e
  go_wp2_with (fail)
  exact HK.out _ (by kernel_rfl) rfl rfl rfl rfl
 ·have HL:=am hl
  clear hl
  have e:((lvl' :Nat):Int)=(lvl:Int) - 1:=by have:=HL.out;omega
  have hz:((lvl:Int)==0)=false:=by have:=HL.out;simp;omega
  have hK:=HM.out
  rw [e] at hK
  have HK:=am hK
  clear hK e
  go_wp2_with (fail)
  exact HK.out _ (by kernel_rfl) rfl rfl rfl rfl
 ·have HL:=am hl
  clear hl
  have e:((lvl' :Nat):Int)=(lvl:Int) - 1:=by have:=HL.out;omega
  have hz:((lvl:Int)==0)=false:=by have:=HL.out;simp;omega
  have hK:=HM.out
  rw [e] at hK
  have HK:=am hK
  clear hK e
  go_wp2_with (fail)
  exact HK.out _ (by kernel_rfl) rfl rfl rfl rfl
 ·have HL:=am hl
  clear hl
  go_wp2_with (fail)
  exact YQ.out HL.out _ (by kernel_rfl) rfl rfl rfl rfl
theorem aau {x:Tk} {dv:Value} (h:AQ B w0 c gp w off x dv p v ts fs ds l wr) (h0:0<B) (hn:ts.length≤1000000000)
  (hK:∀l' wx b',AQ B w0 c gp w off x dv p {v with buf:=b' } (ts++ [x]) fs ds l' wx→K ⟨l'.toArray,[]⟩ wx):Code.wp Tryz.prog (bI [0,1,1,1,0] db) (Exit.then K Q) ⟨l.toArray,[]⟩ wr:=by
 obtain⟨⟨hl,dy⟩,h3,h4,h5,hP,hd⟩:=h
 obtain⟨f,hf,rfl⟩:=dD l hl
 rw [hf] at dy h3 h4 h5
 rw [dy,h3,h4,h5]
 clear hf hl dy h3 h4 h5
 have HD:=am hd
 have HP:=am hP
 clear hd hP
 conv=>arg 2;whnf
 go_wp2_with (fail)
 refine(lR HP.out.1 h0 x dv HD.out hn).mono ?_
 rintro e w3 ⟨rfl,b',gm,jK⟩
 have mA:=am gm
 have Ou:=am jK
 clear gm jK
 go_wp2_with (fail)
 exact hK _ _ b' ⟨⟨by kernel_rfl,rfl⟩,rfl,rfl,rfl,⟨mA.out,HP.out.2.trans Ou.out⟩,HD.out.kt Ou.out⟩
theorem aav {x:Tk} {dv:Value} (h:AQ B w0 c gp w off x dv p v ts fs ds l wr)
  (hK:∀l' wx afD,AQ B w0 c gp w afD x dv p v ts fs ds l' wx→K ⟨l'.toArray,[]⟩ wx):Code.wp Tryz.prog (bI [0,1,1,1,1] db) (Exit.then K Q) ⟨l.toArray,[]⟩ wr:=by
 obtain⟨⟨hl,dy⟩,h3,h4,h5,hP,hd⟩:=h
 obtain⟨f,hf,rfl⟩:=dD l hl
 rw [hf] at dy h3 h4 h5
 rw [dy,h3,h4,h5]
 clear hf hl dy h3 h4 h5
 have HD:=am hd
 have HP:=am hP
 have c0:=hP.1.c0
 have hr:=hP.1.lx.r
 obtain⟨A,n,cp,rfl,hd1,Wn,DO⟩:=hd
 clear hP DO
 conv=>arg 2;whnf
 by_cases aaw:off=0
 ·subst aaw
  go_wp2_with (fail)
  refine(offset HP.out.1.lx).mono ?_
  rintro e w3 ⟨rfl,hS⟩
  have HS:=am hS
  clear hS
  have hk3:Kt B wr w3:=Kt.Ft HS.out.kept HP.out.1.Bi HP.out.1.hB HP.out.1.lx.uT
  go_wp2_with (fail)
  exact hK _ _ _ ⟨⟨by kernel_rfl,rfl⟩,rfl,rfl,rfl,⟨HP.out.1.Fu HS.out,HP.out.2.trans hk3⟩,HD.out.kt hk3⟩
 ·have agO:(off==0)=false:=by simpa using aaw
  go_wp2_with (fail)
  exact hK _ _ _ ⟨⟨by kernel_rfl,rfl⟩,rfl,rfl,rfl,⟨HP.out.1,HP.out.2⟩,HD.out⟩
theorem aax {x:Tk} {dv:Value} (h:AQ B w0 c gp w off x dv p v ts fs ds l wr) (h0:0<B) (hn:ts.length≤1000000000) {t0:Tk} {pr:List Tk} (ht:ts=pr++ [t0]) (hk:t0.tt≠20) (hpc:v.pc=false)
  (hK:∀l' wx b',AQ B w0 c gp w off x dv p {v with buf:=b' } (if v.pw then ts++ [⟨20,[32]⟩] else ts) fs ds l' wx→K ⟨l'.toArray,[]⟩ wx):Code.wp Tryz.prog (bI [0,1,1,0] db) (Exit.then K Q) ⟨l.toArray,[]⟩ wr:=by
 obtain⟨⟨hl,dy⟩,h3,h4,h5,hP,hd⟩:=h
 obtain⟨f,hf,rfl⟩:=dD l hl
 rw [hf] at dy h3 h4 h5
 rw [dy,h3,h4,h5]
 clear hf hl dy h3 h4 h5
 have HD:=am hd
 have HP:=am hP
 have c4:=hP.1.c4
 have c9:=hP.1.c9
 have kJ:=hP.1.kJ
 rw [hpc] at kJ
 clear hd
 cases hw:v.pw with
 | false=>
  rw [hw] at c9
  have HW:=am hw
  clear hP hw
  conv=>arg 2;whnf
  go_wp2_with (fail)
  go_quiet (fail)
  rename_i nq
  go_wp2_with (fail)
  refine hK _ _ v.buf ⟨⟨by kernel_rfl,rfl⟩,rfl,rfl,rfl,⟨?_,HP.out.2.drewN nq⟩,HD.out.below (bn (Below.refl _ _) nq)⟩
  rw [show (if v.pw=true then ts++ [⟨20,[32]⟩] else ts)=ts by rw [HW.out];rfl]
  exact HP.out.1.drewN nq
 | true=>
  rw [hw] at c9
  obtain⟨A,n,cap,gu,h1,h2,h3,h4⟩:=hP.1.tb
  obtain⟨g,o,cs,rfl,AO,hg,hs,hc⟩:=h4 (by rw [ht] at h1;simp at h1;omega)
  obtain⟨dv0,e1,e2,e3⟩:=hc pr.length t0 (by rw [ht];simp)
  have BY:n=pr.length+1:=by rw [←h1,ht];simp
  have hpr:pr.length≤1000000000:=by omega
  have hwr:IntKind.i64.wrap (pr.length:Int)=(pr.length:Int):=IntWalk.i64_in _ (by omega)
  have eh:(pr.length:Int)<(pr.length:Int)+1:=by omega
  subst BY
  have bR:wr.cell? ⟨g,o+pr.length*2,none⟩=some (.int .u32 t0.tt):=by rw [ao hg];exact e1
  have kV:(t0.tt==20)=false:=by simpa using hk
  have HW:=am hw
  rw [gu] at c4
  clear hP hw e1 e2 e3 hc h4 hg gu h1 ht hk
  conv=>arg 2;whnf
  go_wp2_with (fail)
  go_quiet (fail)
  rename_i nq
  go_wp2_with (fail)
  refine(wsb _).mono ?_
  rintro e w2 ⟨wv,rfl,hwv,lX⟩
  have Lm:=am ((HP.out.1.drewN nq).below lX)
  have Qq:=am ((HP.out.2.drewN nq).below lX (HP.out.1.drewN nq).hB)
  have HD2:=am ((HD.out.below (bn (Below.refl _ _) nq)).below lX)
  have HWV:=am hwv
  clear hwv lX c4 c9 kJ bR
  go_wp2_with (fail)
  refine(lR Lm.out h0 ⟨20,[32]⟩ wv HWV.out hn).mono ?_
  rintro e w3 ⟨rfl,b',gm,jK⟩
  have mA:=am gm
  have Ou:=am jK
  clear gm jK
  go_wp2_with (fail)
  refine hK _ _ b' ⟨⟨by kernel_rfl,rfl⟩,rfl,rfl,rfl,⟨?_,Qq.out.trans Ou.out⟩,HD2.out.kt Ou.out⟩
  rw [show (if v.pw=true then ts++ [⟨20,[32]⟩] else ts)=ts++ [⟨20,[32]⟩] by rw [HW.out];rfl]
  exact mA.out
theorem aay {x:Tk} {dv:Value} (h:AQ B w0 c gp w off x dv p v ts fs ds l wr) (iW:v.lvl=0) (hk:x.tt=24∨x.tt=31∨x.tt=0)
  (hK:∀l',l'.getD 44 default= .bool true→AQ B w0 c gp w off x dv p v ts fs ds l' wr→K ⟨l'.toArray,[]⟩ wr):Code.wp Tryz.prog (bI [0,1,0,0] db) (Exit.then K Q) ⟨l.toArray,[]⟩ wr:=by
 obtain⟨⟨hl,dy⟩,h3,h4,h5,hP,hd⟩:=h
 obtain⟨f,hf,rfl⟩:=dD l hl
 rw [hf] at dy h3 h4 h5
 rw [dy,h3,h4,h5]
 clear hf hl dy h3 h4 h5
 have HD:=am hd
 have HP:=am hP
 have HK:=am hK
 have Lp:=hP.1.c5
 rw [iW] at Lp
 clear hP hd iW hK
 conv=>arg 2;whnf
 rcases hk with hk|hk|hk
 ·go_wp2_with (fail)
  exact HK.out _ rfl ⟨⟨by kernel_rfl,rfl⟩,rfl,by rw [hk];rfl,rfl,HP.out,HD.out⟩
 ·go_wp2_with (fail)
  exact HK.out _ rfl ⟨⟨by kernel_rfl,rfl⟩,rfl,by rw [hk];rfl,rfl,HP.out,HD.out⟩
 ·go_wp2_with (fail)
  exact HK.out _ rfl ⟨⟨by kernel_rfl,rfl⟩,rfl,by rw [hk];rfl,rfl,HP.out,HD.out⟩
theorem afE {x:Tk} {dv:Value} (h:AQ B w0 c gp w off x dv p v ts fs ds l wr)
  (hK:∀l',l'.getD 6 default= .int .i64 1→qJ B w0 c gp w x.tt p v ts fs ds l' wr→K ⟨l'.toArray,[]⟩ wr):Code.wp Tryz.prog (bI [0,1,0,1,0,0] db) (Exit.then K Q) ⟨l.toArray,[]⟩ wr:=by
 obtain⟨⟨hl,dy⟩,h3,h4,h5,hP,hd⟩:=h
 obtain⟨f,hf,rfl⟩:=dD l hl
 rw [hf] at dy h3 h4 h5
 rw [dy,h3,h4,h5]
 clear hf hl dy h3 h4 h5
 have HD:=am hd
 have HP:=am hP
 have HK:=am hK
 clear hP hd hK
 conv=>arg 2;whnf
 go_wp2_with (fail)
 exact HK.out _ rfl ⟨⟨by kernel_rfl,rfl⟩,rfl,HP.out⟩
theorem OY:bI [0,1,0,1,0] db= .seq (bI [0,1,0,1,0,0] db) (.seq (bI [0,1,0,1,0,1,0] db) (.seq (bI [0,1,0,1,0,1,1,0] db) (.seq (bI [0,1,0,1,0,1,1,1,0] db) (.seq (bI [0,1,0,1,0,1,1,1,1,0] db) (.seq (bI [0,1,0,1,0,1,1,1,1,1,0] db) (.seq (bI [0,1,0,1,0,1,1,1,1,1,1,0] db) (.seq (bI [0,1,0,1,0,1,1,1,1,1,1,1,0] db) (.seq (bI [0,1,0,1,0,1,1,1,1,1,1,1,1,0] db) (.seq (bI [0,1,0,1,0,1,1,1,1,1,1,1,1,1,0] db) (.seq (bI [0,1,0,1,0,1,1,1,1,1,1,1,1,1,1,0] db) .ret)))))))))):=by kernel_rfl
theorem OZ {x:Tk} {dv:Value} {nm cl:Tk} {b:Bool} {rest:List (Tk×Bool)} (h:AQ B w0 c gp w off x dv p v (nm::flat ((cl,b)::rest)) fs ds l wr) (h0:0<B) (kx:cl.tt=23) (hn:(flat rest).length≤50000000) (hx:∀x∈ds,0≤x∧x≤255)
  (hQ:∀l' wx b' yF bN,l'.getD 2 default= .int .u32 8→bH bN =bH (flat rest)→bN.length≤100000000→qJ B w0 c gp w x.tt p {v with buf:=b',data:=yF,pe:=x.tt==31} bN fs (ds.map low) l' wx→Q .ret ⟨l'.toArray,[]⟩ wx):
  Code.wp Tryz.prog (bI [0,1,0,1,0] db) (Exit.then K Q) ⟨l.toArray,[]⟩ wr:=by
 rw [OY]
 refine wp_seq_k fun K1 gv=> ?_
 refine afE h fun l1 e1 h1=>gv _ _ ?_
 obtain⟨m,TN,hm,lX,hdr⟩:∃m,1≤m∧(nm::flat ((cl,b)::rest))[m]? =some cl∧(∀i,1≤i→i<m→∃t,(nm::flat ((cl,b)::rest))[i]? =some t∧t.tt=20)∧(nm::flat ((cl,b)::rest)).drop (m+1)=flat rest:=by
  cases b with
  | false=>exact⟨1,Nat.le_refl _,rfl,fun i _ _=>by omega,rfl⟩
  | true=>exact⟨2,by omega,rfl,fun i h1 h2=>by
    have:i=1:=by omega
    subst this
    exact⟨_,rfl,rfl⟩,rfl⟩
 have hlen:(nm::flat ((cl,b)::rest)).length≤100000000:=by
  cases b<;>simp [flat]<;>omega
 refine wp_seq_k fun K2 ik=> ?_
 refine afu h1 e1 TN hm kx lX hlen fun l2 e2 h2=>ik _ _ ?_
 refine wp_seq_k fun K3 jK=> ?_
 refine afv h2 e2 hm kx hlen fun l3 e3 h3=>jK _ _ ?_
 refine wp_seq_k fun K4 lW=> ?_
 refine Z9 h3 h0 e3 hm hlen fun l4 w4 b4 h4=>lW _ _ ?_
 rw [hdr] at h4
 refine wp_seq_k fun K5 oU=> ?_
 refine aaa (N0:=bH (flat rest)) h4 h0 (by omega) rfl fun l5 w5 b5 ts5 n5 afF h5=>oU _ _ ?_
 refine wp_seq_k fun K6 Hj=> ?_
 refine aak h5 fun l6 e6 h6=>Hj _ _ ?_
 refine wp_seq_k fun K7 Lq=> ?_
 refine aam h6 e6 h0 afF n5 fun l7 w7 ts7 j7 h7 e7 hj7 afG n7=>Lq _ _ ?_
 refine wp_seq_k fun K8 DP=> ?_
 refine aan h7 h0 e7 hj7 afG fun l8 w8 b8 h8=>DP _ _ ?_
 refine wp_seq_k fun K9 UD=> ?_
 refine aao h8 h0 hx fun l9 w9 dv9 h9=>UD _ _ ?_
 refine wp_seq_k fun K10 afH=> ?_
 refine aap h9 h0 fun l10 Qg dG=>afH _ _ ?_
 refine wp_seq_k fun K11 afI=> ?_
 refine aaq dG fun l11 e11 im=>afI _ _ ?_
 exact wp_ret (hQ _ _ _ _ _ e11 n7 (by rw [List.length_take];omega) im)
theorem O0:bI [0,1,1] db= .seq (bI [0,1,1,0] db) (.seq (bI [0,1,1,1,0] db) (bI [0,1,1,1,1] db)):=by kernel_rfl
theorem Bh (l:List (Tk×Bool)):(flat l).length≤2*l.length:=by
 induction l with
 | nil=>simp [flat]
 | cons x l ih=>
  obtain⟨t,b⟩:=x
  cases b<;>simp [flat]<;>omega
theorem Hk {nm:Tk} (qM:nm.tt≠20) {dn:List (Tk×Bool)} (hd:∀x∈dn,x.1.tt≠20):∃pr t0,nm::flat dn=pr++ [t0]∧t0.tt≠20:=by
 rcases List.eq_nil_or_concat dn with rfl|⟨d,⟨t,b⟩,rfl⟩
 ·exact⟨[],nm,rfl,qM⟩
 ·have hk:=hd (t,b) (by simp)
  cases b with
  | false=>exact⟨nm::flat d,t,by rw [List.concat_eq_append,(n9 d t).1];rfl,hk⟩
  | true=>exact⟨nm::flat d++ [⟨20,[32]⟩],t,by rw [List.concat_eq_append,(n9 d t).2];simp,hk⟩
def DcI (B:Nat) (w0:World) (c:lQ) (gp:Nat) (w:World) (v:PV) (nm:Tk) (all:List (Tk×Bool)) (fs:List Nat) (ds:List Int) (q:Int) (g:Nat) (l:List Value) (wr:World):Prop:=
 ∃(off:Int) (lvl:Nat) (p' :Int) (v' :PV) (dn rest:List (Tk×Bool)),Fr gp l∧l.getD 3 default= .int .i64 off∧all=dn++rest∧g=rest.length+1∧Same v v' ∧v'.lvl=lvl∧lvl≤dn.length∧(∀x∈dn,x.1.tt≠20)∧
  Pk B w0 c gp w wr p' v' (nm::flat dn) fs ds∧eJ c.bs q lvl p' rest
theorem O1 {nm:Tk} {all:List (Tk×Bool)} {lvl:Nat} {v' :PV} {dn r:List (Tk×Bool)} {x:Tk×Bool} {p' :Int} (h0:0<B) (qM:nm.tt≠20) (ij:v.kw=false) (oD:all.length≤10000000)
  (hl:Fr gp l) (h3:l.getD 3 default= .int .i64 off) (fi:all=dn++x::r) (uW:Same v v') (iW:v'.lvl=lvl) (hld:lvl≤dn.length) (hdn:∀x∈dn,x.1.tt≠20)
  (hP:Pk B w0 c gp w wr p' v' (nm::flat dn) fs ds) (fT:eJ c.bs q lvl p' (x::r))
  (hK:∀l' wx,DcI B w0 c gp w v nm all fs ds q (r.length+1) l' wx→K ⟨l'.toArray,[]⟩ wx):Code.wp Tryz.prog db (Exit.then K Q) ⟨l.toArray,[]⟩ wr:=by
 obtain⟨q1,lvl',cW,jC,hr⟩:=fT.cons
 have O2 :v'.kw=false:=by rw [uW.2.2.2.2.2.1];exact ij
 have Q4:dn.length≤10000000:=by rw [fi] at oD;simp at oD;omega
 have jE:=Bh dn
 have hxk:x.1.tt≠20:=cW.1
 have afJ:∀y∈dn++ [x],y.1.tt≠20:=by
  intro y hy
  rcases List.mem_append.1 hy with hy|hy
  ·exact hdn y hy
  ·simp at hy;subst hy;exact hxk
 obtain⟨pr,t0,hpr,ht0⟩:=Hk qM hdn
 have afK:lvl' ≤(dn++ [x]).length:=by
  rw [List.length_append]
  simp only [List.length_cons,List.length_nil]
  rcases jC with ⟨_,h⟩|⟨_,h⟩|⟨_,h⟩<;>omega
 rw [QM]
 refine wp_block ?_
 refine wp_seq_k fun K1 gv=> ?_
 refine aas hP h0 O2 cW hl h3 fun l1 w1 dv1 h1=>gv _ _ ?_
 refine wp_seq_k fun K2 ik=>wp_seq_k fun K3 jK=> ?_
 refine aar (lvl:=lvl) h1 iW (by omega) jC fun l2 e2 h2=>jK _ _ ?_
 refine wp_cond_false (pY e2 h2.1.1 (by decide)) ?_
 refine aat h2 h0 iW (by omega) jC fun l3 w3 h3=>ik _ _ ?_
 rw [O0]
 refine wp_seq_k fun K4 lW=> ?_
 refine aax h3 h0 (by simp;omega) hpr ht0 rfl fun l4 w4 b4 h4=>lW _ _ ?_
 refine wp_seq_k fun K5 oU=> ?_
 refine aau h4 h0 (by simp only;split<;>simp<;>omega) fun l5 w5 b5 h5=>oU _ _ ?_
 refine wp_mono (aav (K:=K) (Q:=Exit.inBlock 1 (Exit.then K Q)) h5 fun l6 w6 afL h6=> ?_) ?_
 ·obtain⟨a1,a2,a3,a4,a5,a6⟩:=h6
  refine hK l6 w6 ⟨afL,lvl',q1,{v' with pw:=x.2,pc:=false,lvl:=(lvl' :Int),buf:=b5},dn++ [x],r,a1,a2,by rw [fi];simp,rfl,?_,?_,afK,afJ,?_,hr⟩
  rotate_left 2
  ·have e:nm::flat (dn++ [x])=(if x.2=true then (nm::flat dn)++ [⟨20,[32]⟩] else (nm::flat dn))++ [x.1]:=by
    obtain⟨t,b⟩:=x
    cases b
    ·rw [(n9 dn t).1];rfl
    ·rw [(n9 dn t).2];simp
   rw [e]
   exact a5
  ·exact uW
  ·rfl
 ·intro e a w' hq
  cases e<;>exact hq
theorem UE {nm cl:Tk} {b:Bool} {rest:List (Tk×Bool)} {v' :PV} {k2 q2:Int} {uj:List Int} {tF:Bool} (h0:0<B) (ij:v.kw=false) (oD:rest.length≤10000000) (kx:cl.tt=23) (hx:∀x∈ds,0≤x∧x≤255)
  (hl:Fr gp l) (h3:l.getD 3 default= .int .i64 off) (uW:Same v v') (iW:v'.lvl=0)
  (hP:Pk B w0 c gp w wr q v' (nm::flat ((cl,b)::rest)) fs ds) (cW:eo c.bs q k2 q2 uj tF) (kV:k2=24∨k2=31∨k2=0)
  (hQ:∀(l' :List Value) (wx:World) (v2:PV) (bN :List Tk),l'.length=453→l'.getD 2 default= .int .u32 8→bH bN =bH (flat rest)∧bN.length≤100000000→v2.st=v.st∧v2.err=v.err∧v2.ep=v.ep∧v2.tt=v.tt∧v2.kw=false∧v2.sh=v.sh∧v2.lvl=0∧v2.pc=false∧v2.pe=(k2==31)→Pk B w0 c gp w wx q2 v2 bN fs (ds.map low)→Q .ret ⟨l'.toArray,[]⟩ wx):
  Code.wp Tryz.prog db (Exit.then K Q) ⟨l.toArray,[]⟩ wr:=by
 have O2 :v'.kw=false:=by rw [uW.2.2.2.2.2.1];exact ij
 have jE:=Bh rest
 rw [QM]
 refine wp_block ?_
 refine wp_seq_k fun K1 gv=> ?_
 refine aas (x:=⟨k2,uj⟩) hP h0 O2 cW hl h3 fun l1 w1 dv1 h1=>gv _ _ ?_
 refine wp_seq_k fun K2 ik=>wp_seq_k fun K3 jK=> ?_
 refine aay h1 iW kV fun l2 e2 h2=>jK _ _ ?_
 refine wp_cond_true (pY e2 h2.1.1 (by decide)) ?_
 refine OZ h2 h0 kx (by omega) hx fun l3 w3 b3 dv3 MK e3 n3 afM h3=> ?_
 refine hQ l3 w3 {v' with pw:=tF,pc:=false,buf:=b3,data:=dv3,pe:=(k2==31)} MK h3.1.1 e3 ⟨n3,afM⟩ ⟨uW.1,uW.2.1,uW.2.2.1,uW.2.2.2.2.1,O2,uW.2.2.2.2.2.2.2,iW,rfl,rfl⟩ h3.2.2
def Q7 (B:Nat) (w0:World) (c:lQ) (gp:Nat) (w:World) (v:PV) (rest:List (Tk×Bool)) (fs:List Nat) (ds:List Int) (k2 q2:Int) (w' :World):Prop:=
 ∃v2 bN,(bH bN =bH (flat rest)∧bN.length≤100000000)∧(v2.st=v.st∧v2.err=v.err∧v2.ep=v.ep∧v2.tt=v.tt∧v2.kw=false∧v2.sh=v.sh∧v2.lvl=0∧v2.pc=false∧v2.pe=(k2==31))∧Pk B w0 c gp w w' q2 v2 bN fs (ds.map low)
theorem Hl {cl:Tk} {b:Bool} {rest:List (Tk×Bool)} {k2 q2:Int} {uj:List Int} {tF:Bool} (h:Ps B w0 c gp w p v ts fs ds) (h0:0<B) (ij:v.kw=false) (iW:v.lvl=0) (qM:v.tt≠20) (oD:rest.length<10000000) (kx:cl.tt=23) (hx:∀x∈ds,0≤x∧x≤255)
  (hs:eJ c.bs q 0 p ((cl,b)::rest)) (cW:eo c.bs q k2 q2 uj tF) (kV:k2=24∨k2=31∨k2=0):
  Calls Tryz.prog 55 #[.pointer (some ⟨gp,0,none⟩)] w fun e w' =>e= .returned (.int .u32 8)∧Q7 B w0 c gp w v rest fs ds k2 q2 w':=by
 have HH:=am h
 have AP:=am ij
 have HLV:=am iW
 have HS:=am hs
 have tG:=am cW
 have Qq:=am kV
 have HX:=am hx
 have HCL:=am kx
 have HNM:=am qM
 clear h ij iW hs cW kV hx kx qM
 go_enter Tryz.func55,Tryz.ntmps55
 go_wp2_with (fail)
 refine(xN HH.out h0).mono ?_
 rintro e w1 ⟨rfl,b1,hP,hK⟩
 have c6:=hP.c6
 have c7:=hP.c7
 have HP:=am hP
 have HK:=am hK
 clear hP hK
 go_wp2_with (fail)
 go_still_tail 9,(by kernel_rfl)
 change wpList _ _ _ _ _ w1.drew
 go_wp2_with (fail)
 refine(lR HP.out.drew h0 ⟨v.tt,ds⟩ v.data HP.out.drew.Dy (by simp)).mono ?_
 rintro e w2 ⟨rfl,b2,jM,ik⟩
 have HI:=am (And.intro jM ((HK.out.drew).trans ik))
 clear jM ik c6 c7
 go_wp2_with (fail)
 refine cZ 453 (fun g l wr=>DcI B w0 c gp w v ⟨v.tt,ds⟩ ((cl,b)::rest) fs ds q g l wr) (rest.length+2) _ (by kernel_rfl)
  ⟨0,0,p,{v with buf:=b2},[],(cl,b)::rest,⟨by kernel_rfl,rfl⟩,rfl,rfl,by simp,⟨rfl,rfl,rfl,rfl,rfl,rfl,rfl,rfl⟩,HLV.out,Nat.le_refl _,(fun x hx=>by cases hx),HI.out,HS.out⟩ ?_
 rintro n l wr hl ⟨off,lvl,p',v',dn,rs,hfr,h3,fi,hg,uW,iW,hld,hdn,hP,fT⟩ J hJ
 show Code.wp Tryz.prog db _ _ _
 cases rs with
 | nil=>
  obtain⟨dy,rfl⟩:=fT.GG
  subst dy
  rw [List.append_nil] at fi
  subst fi
  refine UE h0 AP.out (by omega) HCL.out HX.out hfr h3 uW iW hP tG.out Qq.out ?_
  intro l' wx v2 bN Ir e1 n1 hv hp
  simp only [Exit.inBlock,Exit.then]
  refine bodyPost_ret (results_tmp rfl _ _ _) rfl ⟨?_,v2,bN,n1,hv,hp⟩
  exact congrArg Ending.returned (pY e1 Ir (by decide))
 | cons x r=>
  exact O1 h0 HNM.out AP.out (by simp;omega) hfr h3 fi uW iW hld hdn hP fT fun l' wx hi=>hJ (r.length+1) l' wx (by rw [hg];simp) hi.choose_spec.choose_spec.choose_spec.choose_spec.choose_spec.choose_spec.1.1 hi
theorem Lr {cl:Tk} {b:Bool} {rest:List (Tk×Bool)} {k2 q2:Int} {uj:List Int} {tF:Bool} (h:Ps B w0 c gp w p v ts fs ds) (h0:0<B) (ij:v.kw=false) (iW:v.lvl=0) (qM:v.tt=1) (oD:rest.length<10000000) (kx:cl.tt=23) (hx:∀x∈ds,0≤x∧x≤255)
  (hs:eJ c.bs q 0 p ((cl,b)::rest)) (cW:eo c.bs q k2 q2 uj tF) (kV:k2=24∨k2=31∨k2=0):
  Calls Tryz.prog 38 #[.pointer (some ⟨gp,0,none⟩)] w fun e w' =>e= .returned (.int .u32 8)∧Q7 B w0 c gp w v rest fs ds k2 q2 w':=by
 have c7:=h.c7
 rw [qM] at c7
 have HD:=am (Hl h h0 ij iW (by rw [qM];decide) oD kx hx hs cW kV)
 clear h ij iW qM kx hx hs cW kV
 go_enter Tryz.func38,Tryz.ntmps38
 go_wp2_with (fail)
 go_loopg [26] 0 (fun k v26 wr=>wr=w)
 case atStart=>rfl
 case round=>
  subst hrel
  go_wp2_with (fail)
  refine HD.out.mono ?_
  rintro e w' ⟨rfl,hd⟩
  have HD2:=am hd
  clear hd c7
  go_wp2_with (fail)
  go_ret
  exact⟨rfl,HD2.out⟩
theorem afN (h:Ps B w0 c gp w p v ts fs ds) (he:v.err=⟨#[]⟩) (hp:p+1=c.bs.length):
  Calls Tryz.prog 24 #[.pointer (some ⟨gp,0,none⟩)] w fun e w' =>e= .returned c.eof∧Pk B w0 c gp w w' p v ts fs ds:=by
 have c2:=h.c2
 have c0:=h.c0
 rw [he] at c2
 have HH:=am h
 have HE:=am hp
 clear h hp he
 go_enter Tryz.func24,Tryz.ntmps24
 go_wp2_with (fail)
 refine(aeM HH.out.lx HE.out).mono ?_
 rintro e w' ⟨rfl,hs⟩
 have HP:=am (And.intro (HH.out.Fu hs) (Kt.Ft hs.kept HH.out.Bi HH.out.hB HH.out.lx.uT))
 clear hs c2 c0
 go_wp2_with (fail)
 go_ret
 exact⟨rfl,HP.out.1,HP.out.2⟩
theorem Ls (g:Nat) (w:World):Calls Tryz.prog 37 #[.pointer (some ⟨g,0,none⟩)] w fun e w' =>e= .returned (.pointer (some ⟨w.heap.size,0,none⟩))∧w.alloc (.cells #[.pointer (some ⟨g,0,none⟩)] 93)=w':=by
 go_enter Tryz.func37,Tryz.ntmps37
 go_wp2_with (fail)
 go_ret
 exact⟨rfl,rfl⟩
theorem UF:(Tryz.prog.info? 88).map (fun i=>(i.zero,i.size,i.bytes))=some (some .nilFunc,1,8):=by kernel_rfl
theorem UG (W:World):(Instr.makeSlice 78 (.int .i64 0) (.int .i64 4)).run Tryz.prog W= .ok (.slice (some ⟨W.heap.size,0,none⟩) 0 4) (W.alloc (.cells #[.nilFunc,.nilFunc,.nilFunc,.nilFunc] 88)):=by
 obtain⟨i0,hi,ku⟩:=Option.map_eq_some_iff.1 UF
 simp only [Prod.mk.injEq] at ku
 obtain⟨sa,o0,sc⟩:=ku
 have h:=run_make (P:=Tryz.prog) W 78 88 i0 .nilFunc Tryz.underlying78 hi sa .i64 .i64 0 4 (by omega) (by omega) (by rw [sc];decide) (by omega)
 rw [o0] at h
 have e:madeCells Value.nilFunc.cells (Int.toNat 4*1)= #[.nilFunc,.nilFunc,.nilFunc,.nilFunc]:=by kernel_rfl
 rw [h,e]
 rfl
end Go.Proofs.YtlglijnaeaonpaaGreatDoor.Lx
end
