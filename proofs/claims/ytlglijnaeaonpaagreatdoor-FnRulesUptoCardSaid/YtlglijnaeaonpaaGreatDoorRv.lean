/- FnRules: a part of the proof (Rv). -/
import Derived.Test.YtlglijnaeaonpaaGreatDoorRs
import Derived.StillTailTactics
import Derived.Lib.SlBytesConst
import Derived.Deep.LoopGhost
import Derived.Deep.DeepCutAuto
import Derived.ArgAppend
import Derived.Test.YtlglijnaeaonpaaGreatDoorRn
section
set_option maxHeartbeats 8000000
set_option maxRecDepth 100000
set_option linter.unusedVariables false
set_option linter.unusedSimpArgs false
namespace Go.Proofs.YtlglijnaeaonpaaGreatDoor.Lx
open Go.RowKit Go.Proofs.YtlglijnaeaonpaaGreatDoorW.aC
variable {w0 w wr:World} {c:lQ} {p:Int} {B:Nat} {gp:Nat} {v:PV} {ts:List Tk} {fs:List Nat} {ds:List Int} {k q:Int} {xs:List Int} {f:Nat}
theorem qN (h:Ps B w0 c gp w p v ts (fs++ [f]) ds):∃g cap,v.st= .slice (some ⟨g,0,none⟩) (fs.length+1) cap∧fs.length+1≤cap∧cap≤maxLen∧w.cell? ⟨g,fs.length,none⟩=some (fv f):=by
 rcases h.rS.2 with ⟨_,h0⟩|⟨g,cap,cur,e,hb,hh,hn,hm,yB,qZ⟩
 ·simp at h0
 ·refine⟨g,cap,by rw [e];simp,by simpa using hn,hm,?_⟩
  rw [ao hh]
  have:(cur.toList.take (fs.length+1))[fs.length]? =some (fv f):=by
   have h2:cur.toList.take (fs.length+1)=fs.map fv++ [fv f]:=by simpa using qZ
   rw [h2,List.getElem?_append_right (by simp)]
   simp
  rw [List.getElem?_take,if_pos (by omega)] at this
  simpa using this
theorem Pn (h:Ps B w0 c gp w p v ts (fs++ [f]) ds) {g cap:Nat} (e:v.st= .slice (some ⟨g,0,none⟩) (fs.length+1) cap):w.ownsRow B 88 1 (.slice (some ⟨g,0,none⟩) fs.length cap) fs.length (fs.map fv):=by
 rcases h.rS.2 with ⟨h1,h0⟩|⟨g',yL,cur,e',hb,hh,hn,hm,yB,qZ⟩
 ·rw [e] at h1;cases h1
 ·rw [e] at e'
  injection e' with e1 e2 e3
  injection e1 with e1
  injection e1 with e1
  subst e1;subst e3
  refine⟨by simp,.inr ⟨g,cap,cur,rfl,hb,hh,by simp at hn;omega,hm,yB,?_⟩⟩
  have h2:cur.toList.take (fs.length+1)=fs.map fv++ [fv f]:=by simpa using qZ
  have h3:=congrArg (List.take fs.length) h2
  rw [List.take_take,List.take_append_of_le_length (by simp)] at h3
  rw [show min fs.length (fs.length+1)=fs.length by omega] at h3
  rw [Nat.mul_one,h3,List.take_of_length_le (by simp)]
theorem LG {ws:Bool} {gt:Int} {Rel:PV→List Tk→List Nat→List Int→Int→Prop} (h:Ps B w0 c gp w p v ts (fs++ [39]) ds) (h0:0<B) (mB:v.pe=false) (ij:v.kw=false) (jE:fs.length≤1000) (cW:eo c.bs p k q xs ws)
  (eN:∀dv W,Ps B w0 c gp W q {v with err:=⟨#[]⟩,pw:=ws,pc:=false,tt:=k,data:=dv} ts (fs++ [39]) xs→
   Calls Tryz.prog 39 #[.pointer (some ⟨gp,0,none⟩)] W fun e w' =>e= .returned (.int .u32 gt)∧∃v' bN fs' fI p',Rel v' bN fs' fI p' ∧Pk B w0 c gp W w' p' v' bN fs' fI):
  Calls Tryz.prog 21 #[.pointer (some ⟨gp,0,none⟩)] w fun e w' =>∃v' bN fs' fI p',e= .returned (.tuple #[.int .u32 gt,.int .u32 v'.tt,v'.data])∧Rel v' bN fs' fI p' ∧Pk B w0 c gp w w' p' v' bN fs' fI:=by
 have mz:=h.ez h0 2 (.string ⟨#[]⟩) {v with err:=⟨#[]⟩} rfl rfl rfl rfl
 have gv:=h.eY 2 (.string ⟨#[]⟩)
 have f2:=h.f 2
 have c2:=h.c2
 have eZ:=mz.eZ
 simp only at eZ
 rw [mB] at eZ
 have qh:=am mz
 have dR:=am gv
 have tG:=am cW
 have AP:=am ij
 have HC:=am eN
 clear h mB mz gv cW ij eN
 go_enter Tryz.func21,Tryz.ntmps21
 go_wp2_with (fail)
 refine(pop qh.out h0 AP.out true tG.out).mono ?_
 rintro e w1 ⟨dv,rfl,hd,jM,ik⟩
 have gm:=jM.ez h0 7 (.int .u32 k) {v with err:=⟨#[]⟩,pw:=ws,pc:=false,tt:=k} rfl rfl rfl rfl
 have jK:=ik.trans (jM.eY 7 (.int .u32 k))
 have DO:=hd.kt (jM.eY 7 (.int .u32 k))
 have tK:=gm.store h0 6 dv {v with err:=⟨#[]⟩,pw:=ws,pc:=false,tt:=k,data:=dv} ts (fs++ [39]) xs rfl gm.tb gm.rS DO
 have lW:=jK.trans (gm.eY 6 dv)
 have f7:=jM.f 7
 have f6:=gm.f 6
 have c7:=jM.c7
 have c6:=gm.c6
 obtain⟨A,n,cp,rfl,-,-,-⟩:=hd
 obtain⟨g,cap,fT,-,-,LH⟩:=qN tK
 have c1:=tK.c1
 simp only at c1 fT
 rw [fT] at c1
 obtain⟨m,hm⟩:∃m:Nat,m=fs.length+1:=⟨_,rfl⟩
 obtain⟨j,hj⟩:∃j:Int,j=(fs.length:Int):=⟨_,rfl⟩
 rw [←hm] at c1
 have hwz:IntKind.i64.wrap ((m:Int) - 1)=j:=by rw [IntWalk.i64_in _ (by omega)];omega
 have pb:0≤j:=by omega
 have pJ:j<(m:Int):=by omega
 have UQ:((w1.setCell ⟨gp,7,none⟩ (.int .u32 k)).setCell ⟨gp,6,none⟩ (.slice A n cp)).cell? ⟨g,j.toNat,none⟩=some (.func (.func 39) #[] #[]):=by
  rw [show j.toNat=fs.length by omega]
  exact LH
 have kp:=am tK
 have UR:=am (dR.out.trans lW)
 clear jM ik gm jK DO tK lW fT LH
 have B7:=eq_true pb
 have US:=eq_true pJ
 clear hm hj
 go_wp2_with (fail)
 clear f7 f6 c7 c6
 generalize ((w1.setCell ⟨gp,7,none⟩ (.int .u32 k)).setCell ⟨gp,6,none⟩ (.slice A n cp))=W at*
 go_still_tail 13,(by kernel_rfl)
 change wpList _ _ _ _ _ W.drew
 go_wp2_with (fail)
 refine(HC.out _ _ kp.out.drew).mono ?_
 rintro e w2 ⟨rfl,v',bN,fs',fI,p',hrel,pd,oU⟩
 have d7:=pd.c7
 have d6:=pd.c6
 have nn:=am (And.intro hrel (And.intro pd ((UR.out.drew).trans oU)))
 clear hrel pd oU c1
 go_wp2_with (fail)
 go_quiet (fail)
 rename_i nq
 go_wp2_with (fail)
 go_ret3
 exact⟨v',bN,fs',fI,p',rfl,nn.out.1,nn.out.2.1.drewN nq,nn.out.2.2.drewN nq⟩
theorem LI {ws:Bool} {gt:Int} {Rel:PV→List Tk→List Nat→List Int→Int→Prop} (h:Ps B w0 c gp w p v ts (fs++ [75]) ds) (h0:0<B) (mB:v.pe=false) (ij:v.kw=false) (jE:fs.length≤1000) (cW:eo c.bs p k q xs ws)
  (eN:∀dv W,Ps B w0 c gp W q {v with err:=⟨#[]⟩,pw:=ws,pc:=false,tt:=k,data:=dv} ts (fs++ [75]) xs→
   Calls Tryz.prog 75 #[.pointer (some ⟨gp,0,none⟩)] W fun e w' =>e= .returned (.int .u32 gt)∧∃v' bN fs' fI p',Rel v' bN fs' fI p' ∧Pk B w0 c gp W w' p' v' bN fs' fI):
  Calls Tryz.prog 21 #[.pointer (some ⟨gp,0,none⟩)] w fun e w' =>∃v' bN fs' fI p',e= .returned (.tuple #[.int .u32 gt,.int .u32 v'.tt,v'.data])∧Rel v' bN fs' fI p' ∧Pk B w0 c gp w w' p' v' bN fs' fI:=by
 have mz:=h.ez h0 2 (.string ⟨#[]⟩) {v with err:=⟨#[]⟩} rfl rfl rfl rfl
 have gv:=h.eY 2 (.string ⟨#[]⟩)
 have f2:=h.f 2
 have c2:=h.c2
 have eZ:=mz.eZ
 simp only at eZ
 rw [mB] at eZ
 have qh:=am mz
 have dR:=am gv
 have tG:=am cW
 have AP:=am ij
 have HC:=am eN
 clear h mB mz gv cW ij eN
 go_enter Tryz.func21,Tryz.ntmps21
 go_wp2_with (fail)
 refine(pop qh.out h0 AP.out true tG.out).mono ?_
 rintro e w1 ⟨dv,rfl,hd,jM,ik⟩
 have gm:=jM.ez h0 7 (.int .u32 k) {v with err:=⟨#[]⟩,pw:=ws,pc:=false,tt:=k} rfl rfl rfl rfl
 have jK:=ik.trans (jM.eY 7 (.int .u32 k))
 have DO:=hd.kt (jM.eY 7 (.int .u32 k))
 have tK:=gm.store h0 6 dv {v with err:=⟨#[]⟩,pw:=ws,pc:=false,tt:=k,data:=dv} ts (fs++ [75]) xs rfl gm.tb gm.rS DO
 have lW:=jK.trans (gm.eY 6 dv)
 have f7:=jM.f 7
 have f6:=gm.f 6
 have c7:=jM.c7
 have c6:=gm.c6
 obtain⟨A,n,cp,rfl,-,-,-⟩:=hd
 obtain⟨g,cap,fT,-,-,LH⟩:=qN tK
 have c1:=tK.c1
 simp only at c1 fT
 rw [fT] at c1
 obtain⟨m,hm⟩:∃m:Nat,m=fs.length+1:=⟨_,rfl⟩
 obtain⟨j,hj⟩:∃j:Int,j=(fs.length:Int):=⟨_,rfl⟩
 rw [←hm] at c1
 have hwz:IntKind.i64.wrap ((m:Int) - 1)=j:=by rw [IntWalk.i64_in _ (by omega)];omega
 have pb:0≤j:=by omega
 have pJ:j<(m:Int):=by omega
 have UQ:((w1.setCell ⟨gp,7,none⟩ (.int .u32 k)).setCell ⟨gp,6,none⟩ (.slice A n cp)).cell? ⟨g,j.toNat,none⟩=some (.func (.func 75) #[] #[]):=by
  rw [show j.toNat=fs.length by omega]
  exact LH
 have kp:=am tK
 have UR:=am (dR.out.trans lW)
 clear jM ik gm jK DO tK lW fT LH
 have B7:=eq_true pb
 have US:=eq_true pJ
 clear hm hj
 go_wp2_with (fail)
 clear f7 f6 c7 c6
 generalize ((w1.setCell ⟨gp,7,none⟩ (.int .u32 k)).setCell ⟨gp,6,none⟩ (.slice A n cp))=W at*
 go_still_tail 13,(by kernel_rfl)
 change wpList _ _ _ _ _ W.drew
 go_wp2_with (fail)
 refine(HC.out _ _ kp.out.drew).mono ?_
 rintro e w2 ⟨rfl,v',bN,fs',fI,p',hrel,pd,oU⟩
 have d7:=pd.c7
 have d6:=pd.c6
 have nn:=am (And.intro hrel (And.intro pd ((UR.out.drew).trans oU)))
 clear hrel pd oU c1
 go_wp2_with (fail)
 go_quiet (fail)
 rename_i nq
 go_wp2_with (fail)
 go_ret3
 exact⟨v',bN,fs',fI,p',rfl,nn.out.1,nn.out.2.1.drewN nq,nn.out.2.2.drewN nq⟩
theorem LJ {ws:Bool} {gt:Int} {Rel:PV→List Tk→List Nat→List Int→Int→Prop} (h:Ps B w0 c gp w p v ts (fs++ [79]) ds) (h0:0<B) (mB:v.pe=false) (ij:v.kw=false) (jE:fs.length≤1000) (cW:eo c.bs p k q xs ws)
  (eN:∀dv W,Ps B w0 c gp W q {v with err:=⟨#[]⟩,pw:=ws,pc:=false,tt:=k,data:=dv} ts (fs++ [79]) xs→
   Calls Tryz.prog 79 #[.pointer (some ⟨gp,0,none⟩)] W fun e w' =>e= .returned (.int .u32 gt)∧∃v' bN fs' fI p',Rel v' bN fs' fI p' ∧Pk B w0 c gp W w' p' v' bN fs' fI):
  Calls Tryz.prog 21 #[.pointer (some ⟨gp,0,none⟩)] w fun e w' =>∃v' bN fs' fI p',e= .returned (.tuple #[.int .u32 gt,.int .u32 v'.tt,v'.data])∧Rel v' bN fs' fI p' ∧Pk B w0 c gp w w' p' v' bN fs' fI:=by
 have mz:=h.ez h0 2 (.string ⟨#[]⟩) {v with err:=⟨#[]⟩} rfl rfl rfl rfl
 have gv:=h.eY 2 (.string ⟨#[]⟩)
 have f2:=h.f 2
 have c2:=h.c2
 have eZ:=mz.eZ
 simp only at eZ
 rw [mB] at eZ
 have qh:=am mz
 have dR:=am gv
 have tG:=am cW
 have AP:=am ij
 have HC:=am eN
 clear h mB mz gv cW ij eN
 go_enter Tryz.func21,Tryz.ntmps21
 go_wp2_with (fail)
 refine(pop qh.out h0 AP.out true tG.out).mono ?_
 rintro e w1 ⟨dv,rfl,hd,jM,ik⟩
 have gm:=jM.ez h0 7 (.int .u32 k) {v with err:=⟨#[]⟩,pw:=ws,pc:=false,tt:=k} rfl rfl rfl rfl
 have jK:=ik.trans (jM.eY 7 (.int .u32 k))
 have DO:=hd.kt (jM.eY 7 (.int .u32 k))
 have tK:=gm.store h0 6 dv {v with err:=⟨#[]⟩,pw:=ws,pc:=false,tt:=k,data:=dv} ts (fs++ [79]) xs rfl gm.tb gm.rS DO
 have lW:=jK.trans (gm.eY 6 dv)
 have f7:=jM.f 7
 have f6:=gm.f 6
 have c7:=jM.c7
 have c6:=gm.c6
 obtain⟨A,n,cp,rfl,-,-,-⟩:=hd
 obtain⟨g,cap,fT,-,-,LH⟩:=qN tK
 have c1:=tK.c1
 simp only at c1 fT
 rw [fT] at c1
 obtain⟨m,hm⟩:∃m:Nat,m=fs.length+1:=⟨_,rfl⟩
 obtain⟨j,hj⟩:∃j:Int,j=(fs.length:Int):=⟨_,rfl⟩
 rw [←hm] at c1
 have hwz:IntKind.i64.wrap ((m:Int) - 1)=j:=by rw [IntWalk.i64_in _ (by omega)];omega
 have pb:0≤j:=by omega
 have pJ:j<(m:Int):=by omega
 have UQ:((w1.setCell ⟨gp,7,none⟩ (.int .u32 k)).setCell ⟨gp,6,none⟩ (.slice A n cp)).cell? ⟨g,j.toNat,none⟩=some (.func (.func 79) #[] #[]):=by
  rw [show j.toNat=fs.length by omega]
  exact LH
 have kp:=am tK
 have UR:=am (dR.out.trans lW)
 clear jM ik gm jK DO tK lW fT LH
 have B7:=eq_true pb
 have US:=eq_true pJ
 clear hm hj
 go_wp2_with (fail)
 clear f7 f6 c7 c6
 generalize ((w1.setCell ⟨gp,7,none⟩ (.int .u32 k)).setCell ⟨gp,6,none⟩ (.slice A n cp))=W at*
 go_still_tail 13,(by kernel_rfl)
 change wpList _ _ _ _ _ W.drew
 go_wp2_with (fail)
 refine(HC.out _ _ kp.out.drew).mono ?_
 rintro e w2 ⟨rfl,v',bN,fs',fI,p',hrel,pd,oU⟩
 have d7:=pd.c7
 have d6:=pd.c6
 have nn:=am (And.intro hrel (And.intro pd ((UR.out.drew).trans oU)))
 clear hrel pd oU c1
 go_wp2_with (fail)
 go_quiet (fail)
 rename_i nq
 go_wp2_with (fail)
 go_ret3
 exact⟨v',bN,fs',fI,p',rfl,nn.out.1,nn.out.2.1.drewN nq,nn.out.2.2.drewN nq⟩
theorem Po {gt:Int} {Rel:PV→List Tk→List Nat→List Int→Int→Prop} (h:Ps B w0 c gp w p v ts (fs++ [79]) ds) (h0:0<B) (mB:v.pe=true) (jE:fs.length≤1000)
  (eN:∀dv W,Ps B w0 c gp W p {v with err:=⟨#[]⟩,tt:=31,data:=dv,pe:=false} ts (fs++ [79]) [125]→
   Calls Tryz.prog 79 #[.pointer (some ⟨gp,0,none⟩)] W fun e w' =>e= .returned (.int .u32 gt)∧∃v' bN fs' fI p',Rel v' bN fs' fI p' ∧Pk B w0 c gp W w' p' v' bN fs' fI):
  Calls Tryz.prog 21 #[.pointer (some ⟨gp,0,none⟩)] w fun e w' =>∃v' bN fs' fI p',e= .returned (.tuple #[.int .u32 gt,.int .u32 v'.tt,v'.data])∧Rel v' bN fs' fI p' ∧Pk B w0 c gp w w' p' v' bN fs' fI:=by
 have mz:=h.ez h0 2 (.string ⟨#[]⟩) {v with err:=⟨#[]⟩} rfl rfl rfl rfl
 have gv:=h.eY 2 (.string ⟨#[]⟩)
 have f2:=h.f 2
 have c2:=h.c2
 have eZ:=mz.eZ
 simp only at eZ
 rw [mB] at eZ
 have qh:=am mz
 have dR:=am gv
 have HC:=am eN
 clear h mB mz gv eN
 go_enter Tryz.func21,Tryz.ntmps21
 go_wp2_with (fail)
 refine(aeN _).mono ?_
 rintro e w1 ⟨dv,rfl,hd,eW⟩
 have jM:=qh.out.below eW
 have ik:Kt B (w.setCell ⟨gp,2,none⟩ (.string ⟨#[]⟩)) w1:=(Kt.refl B _).below eW qh.out.hB
 have gm:=jM.ez h0 7 (.int .u32 31) {v with err:=⟨#[]⟩,tt:=31} rfl rfl rfl rfl
 have jK:=ik.trans (jM.eY 7 (.int .u32 31))
 have DO:=hd.kt (jM.eY 7 (.int .u32 31))
 have LK:=gm.store h0 6 dv {v with err:=⟨#[]⟩,tt:=31,data:=dv} ts (fs++ [79]) [125] rfl gm.tb gm.rS DO
 have aaC:=jK.trans (gm.eY 6 dv)
 have tK:=LK.ez h0 10 (.bool false) {v with err:=⟨#[]⟩,tt:=31,data:=dv,pe:=false} rfl rfl rfl rfl
 have lW:=aaC.trans (LK.eY 10 (.bool false))
 have f7:=jM.f 7
 have f6:=gm.f 6
 have f10:=LK.f 10
 have c7:=jM.c7
 have c6:=gm.c6
 have d10:=LK.eZ
 obtain⟨A,n,cp,rfl,-,-,-⟩:=hd
 obtain⟨g,cap,fT,-,-,LH⟩:=qN tK
 have c1:=tK.c1
 simp only at c1 fT
 rw [fT] at c1
 obtain⟨m,hm⟩:∃m:Nat,m=fs.length+1:=⟨_,rfl⟩
 obtain⟨j,hj⟩:∃j:Int,j=(fs.length:Int):=⟨_,rfl⟩
 rw [←hm] at c1
 have hwz:IntKind.i64.wrap ((m:Int) - 1)=j:=by rw [IntWalk.i64_in _ (by omega)];omega
 have pb:0≤j:=by omega
 have pJ:j<(m:Int):=by omega
 have UQ:(((w1.setCell ⟨gp,7,none⟩ (.int .u32 31)).setCell ⟨gp,6,none⟩ (.slice A n cp)).setCell ⟨gp,10,none⟩ (.bool false)).cell? ⟨g,j.toNat,none⟩=some (.func (.func 79) #[] #[]):=by
  rw [show j.toNat=fs.length by omega]
  exact LH
 have kp:=am tK
 have UR:=am (dR.out.trans lW)
 clear jM ik gm jK DO tK lW fT LH LK aaC eW
 have B7:=eq_true pb
 have US:=eq_true pJ
 clear hm hj
 go_wp2_with (fail)
 clear f7 f6 c7 c6 f10 d10
 generalize (((w1.setCell ⟨gp,7,none⟩ (.int .u32 31)).setCell ⟨gp,6,none⟩ (.slice A n cp)).setCell ⟨gp,10,none⟩ (.bool false))=W at*
 go_still_tail 13,(by kernel_rfl)
 change wpList _ _ _ _ _ W.drew
 go_wp2_with (fail)
 refine(HC.out _ _ kp.out.drew).mono ?_
 rintro e w2 ⟨rfl,v',bN,fs',fI,p',hrel,pd,oU⟩
 have d7:=pd.c7
 have d6:=pd.c6
 have nn:=am (And.intro hrel (And.intro pd ((UR.out.drew).trans oU)))
 clear hrel pd oU c1
 go_wp2_with (fail)
 go_quiet (fail)
 rename_i nq
 go_wp2_with (fail)
 go_ret3
 exact⟨v',bN,fs',fI,p',rfl,nn.out.1,nn.out.2.1.drewN nq,nn.out.2.2.drewN nq⟩
end Go.Proofs.YtlglijnaeaonpaaGreatDoor.Lx
end
section
set_option maxHeartbeats 8000000
set_option maxRecDepth 100000
set_option linter.unusedVariables false
set_option linter.unusedSimpArgs false
namespace Go.Proofs.YtlglijnaeaonpaaGreatDoor.Lx
open Go.RowKit Go.Proofs.YtlglijnaeaonpaaGreatDoorW.aC
variable {w0 w wr:World} {c:lQ} {p:Int} {B:Nat} {gp:Nat} {v:PV} {ts:List Tk} {fs:List Nat} {ds:List Int} {k q:Int} {xs:List Int} {K:Act→World→Prop} {Q:Exit→Act→World→Prop} {l:List Value}
noncomputable def dq:Code:=(Tryz.f62.body.bind dT).getD .skip
theorem gR (l:List Value) (hl:l.length=196):∃f:Nat→Value,(∀i,l.getD i default=f i)∧l=f 0::f 1::f 2::f 3::f 4::f 5::f 6::f 7::f 8::f 9::f 10::f 11::f 12::f 13::f 14::f 15::f 16::f 17::f 18::f 19::f 20::f 21::f 22::f 23::f 24::f 25::f 26::f 27::f 28::f 29::f 30::f 31::f 32::f 33::f 34::f 35::f 36::f 37::f 38::f 39::f 40::f 41::f 42::f 43::f 44::f 45::f 46::f 47::f 48::f 49::f 50::f 51::f 52::f 53::f 54::f 55::f 56::f 57::f 58::f 59::f 60::f 61::f 62::f 63::f 64::f 65::f 66::f 67::f 68::f 69::f 70::f 71::f 72::f 73::f 74::f 75::f 76::f 77::f 78::f 79::f 80::f 81::f 82::f 83::f 84::f 85::f 86::f 87::f 88::f 89::f 90::f 91::f 92::f 93::f 94::f 95::f 96::f 97::f 98::f 99::f 100::f 101::f 102::f 103::f 104::f 105::f 106::f 107::f 108::f 109::f 110::f 111::f 112::f 113::f 114::f 115::f 116::f 117::f 118::f 119::f 120::f 121::f 122::f 123::f 124::f 125::f 126::f 127::f 128::f 129::f 130::f 131::f 132::f 133::f 134::f 135::f 136::f 137::f 138::f 139::f 140::f 141::f 142::f 143::f 144::f 145::f 146::f 147::f 148::f 149::f 150::f 151::f 152::f 153::f 154::f 155::f 156::f 157::f 158::f 159::f 160::f 161::f 162::f 163::f 164::f 165::f 166::f 167::f 168::f 169::f 170::f 171::f 172::f 173::f 174::f 175::f 176::f 177::f 178::f 179::f 180::f 181::f 182::f 183::f 184::f 185::f 186::f 187::f 188::f 189::f 190::f 191::f 192::f 193::f 194::f 195:: []:=by
 refine⟨fun i=>l.getD i default,fun _=>rfl,?_⟩
 conv=>lhs;rw [iP l,hl]
 kernel_rfl
theorem aaD:dq= .block 1 (.seq (.seq (bI [0,0,0] dq) (.cond (.tmp 10) (bI [0,0,1,0] dq) (bI [0,0,1,1] dq))) (.seq (.seq (bI [0,1,0,0] dq) (.cond (.tmp 39) (bI [0,1,0,1,0] dq) (.seq (bI [0,1,0,1,1,0] dq) (.cond (.tmp 50) (bI [0,1,0,1,1,1,0] dq) (bI [0,1,0,1,1,1,1] dq))))) (.seq (bI [0,1,1,0] dq) (.seq (bI [0,1,1,1,0] dq) (bI [0,1,1,1,1] dq))))):=by kernel_rfl
theorem oE {l:List Value} {i:Nat} {v:Value} (h:l.getD i default=v) (hl:l.length=196) (hi:i<196):(⟨l.toArray,[]⟩:Act).eval (.tmp i)=v:=by
 have e:(⟨l.toArray,[]⟩:Act).eval (.tmp i)=l.toArray.getD i undef:=rfl
 rw [e,←h]
 simp [List.getD_eq_getElem?_getD,Array.getD_eq_getD_getElem?,List.getElem?_eq_getElem (show i<l.length by omega)]
theorem UT (w:World):Calls Tryz.prog 78 #[] w fun e w' =>∃v,e= .returned v∧Rd w' v []∧Below w.heap.size w w':=by
 have kc:=fun (w:World) (C:Array Value) (n c:Nat)=>Lib.run_convert_bytes_const (P:=Tryz.prog) w 24 5 C n c Tryz.underlying24 Tryz.underlying5
 go_enter Tryz.func78,Tryz.ntmps78
 go_wp2
 go_ret
 exact⟨_,rfl,⟨_,0,_,rfl,rfl,by omega,fun h=>absurd h (by omega)⟩,au (Below.refl _ _) _⟩
def Qf (gp:Nat) (first ia sw:Bool) (l:List Value):Prop:=l.length=196∧l.getD 0 default= .pointer (some ⟨gp,0,none⟩)∧l.getD 3 default= .bool first∧l.getD 4 default= .bool ia∧l.getD 5 default= .bool sw
theorem aaE {ia sw:Bool} (hf:Qf gp true ia sw l) (h:Ps B w0 c gp wr p v ts fs ds) (h0:0<B)
  (hK:∀l' wx dv ev,Qf gp false ia sw l' →l'.getD 6 default= .int .u32 v.tt→l'.getD 7 default=dv→Rd wx dv ds→Pk B w0 c gp wr wx p {v with tt:=20,data:=ev} ts fs []→K ⟨l'.toArray,[]⟩ wx):
  Code.wp Tryz.prog (bI [0,0,1,0] dq) (Exit.then K Q) ⟨l.toArray,[]⟩ wr:=by
 obtain⟨hl,g0,g3,g4,g5⟩:=hf
 obtain⟨f,hf,rfl⟩:=gR l hl
 rw [hf] at g0 g3 g4 g5
 rw [g0,g3,g4,g5]
 have c7:=h.c7
 have c6:=h.c6
 have f7:=h.f 7
 have f6:=h.f 6
 obtain⟨A,n,cp,yd,-,-,-⟩:=id h.Dy
 rw [yd] at c6
 have HP:=am (And.intro h yd)
 have HK:=am hK
 clear hf hl g0 g3 g4 g5 h yd hK
 conv=>arg 2;whnf
 go_wp2_with (fail)
 go_quiet (fail)
 rename_i nq
 have qf:=HP.out.1.drewN nq
 have mz:=qf.ez h0 7 (.int .u32 20) {v with tt:=20} rfl rfl rfl rfl
 have e7:=qf.c7
 have e7f:=qf.f 7
 have qh:=am mz
 clear qf mz c7 c6 f7 f6
 go_wp2_with (fail)
 refine(UT _).mono ?_
 rintro e w2 ⟨ev,rfl,hd,dc⟩
 have jM:=qh.out.below dc
 have gm:=jM.store h0 6 ev {v with tt:=20,data:=ev} ts fs [] rfl jM.tb jM.rS hd
 have e6:=jM.c6
 have e6f:=jM.f 6
 have Im:Kt B wr (w2.setCell ⟨gp,6,none⟩ ev):=(((Kt.refl B wr).drewN nq).trans ((HP.out.1.drewN nq).eY 7 (.int .u32 20))).trans (((Kt.refl B _).below dc qh.out.hB).trans (jM.eY 6 ev))
 have aaF:Rd (w2.setCell ⟨gp,6,none⟩ ev) v.data ds:=HP.out.1.Dy.kt Im
 obtain⟨A2,n2,Fw,rfl,-,-,-⟩:=hd
 have mA:=am (And.intro gm (And.intro Im aaF))
 clear jM gm Im aaF dc
 go_wp2_with (fail)
 refine HK.out _ _ v.data _ ⟨by kernel_rfl,rfl,rfl,rfl,rfl⟩ rfl (by rw [HP.out.2];rfl) mA.out.2.2 ⟨mA.out.1,mA.out.2.1⟩
theorem Q9 {first ia sw:Bool} (hf:Qf gp first ia sw l) (hK:∀l',Qf gp first ia sw l' →l'.getD 10 default= .bool first→K ⟨l'.toArray,[]⟩ wr):
  Code.wp Tryz.prog (bI [0,0,0] dq) (Exit.then K Q) ⟨l.toArray,[]⟩ wr:=by
 obtain⟨hl,g0,g3,g4,g5⟩:=hf
 obtain⟨f,hf,rfl⟩:=gR l hl
 rw [hf] at g0 g3 g4 g5
 rw [g0,g3,g4,g5]
 have HK:=am hK
 clear hf hl g0 g3 g4 g5 hK
 conv=>arg 2;whnf
 go_wp2_with (fail)
 exact HK.out _ ⟨by kernel_rfl,rfl,rfl,rfl,rfl⟩ rfl
theorem RA {ia sw ws:Bool} {t:Tk} (hf:Qf gp false ia sw l) (h:Ps B w0 c gp wr p v ts fs ds) (h0:0<B) (ij:v.kw=false) (cW:eo c.bs p t.tt q t.bs ws)
  (hK:∀l' wx dv,Qf gp false ia sw l' →l'.getD 6 default= .int .u32 t.tt→l'.getD 7 default=dv→Rd wx dv t.bs→Pk B w0 c gp wr wx q {v with pw:=ws,pc:=false} ts fs ds→K ⟨l'.toArray,[]⟩ wx):
  Code.wp Tryz.prog (bI [0,0,1,1] dq) (Exit.then K Q) ⟨l.toArray,[]⟩ wr:=by
 obtain⟨hl,g0,g3,g4,g5⟩:=hf
 obtain⟨f,hf,rfl⟩:=gR l hl
 rw [hf] at g0 g3 g4 g5
 rw [g0,g3,g4,g5]
 have HP:=am h
 have HK:=am hK
 have AP:=am ij
 have tG:=am cW
 clear hf hl g0 g3 g4 g5 h hK ij cW
 conv=>arg 2;whnf
 go_wp2_with (fail)
 refine(pop HP.out h0 AP.out false tG.out).mono ?_
 rintro e w1 ⟨dv,rfl,hd,hP,hk⟩
 obtain⟨A2,n2,Fw,e2,-,-,-⟩:=id hd
 subst e2
 have HR:=am (And.intro hd (And.intro hP hk))
 clear hd hP hk
 go_wp2_with (fail)
 exact HK.out _ _ _ ⟨by kernel_rfl,rfl,rfl,rfl,rfl⟩ rfl rfl HR.out.1 HR.out.2
def Qm (gp:Nat) (ia sw:Bool) (tt:Int) (dv:Value) (l:List Value):Prop:=Qf gp false ia sw l∧l.getD 6 default= .int .u32 tt∧l.getD 7 default=dv
theorem RB {ia sw r:Bool} {tt:Int} {dv:Value} (hf:Qm gp ia sw tt dv l) (h:Ps B w0 c gp wr p v ts fs ds) (hr:((tt==30)=true∧v.lvl=0∧r=true)∨((tt==30)=false∧r=false))
  (hK:∀l',Qm gp ia sw tt dv l' →l'.getD 39 default= .bool r→K ⟨l'.toArray,[]⟩ wr):
  Code.wp Tryz.prog (bI [0,1,0,0] dq) (Exit.then K Q) ⟨l.toArray,[]⟩ wr:=by
 obtain⟨hf,g6,g7⟩:=hf
 obtain⟨hl,g0,g3,g4,g5⟩:=hf
 obtain⟨f,hf,rfl⟩:=gR l hl
 rw [hf] at g0 g3 g4 g5 g6 g7
 rw [g0,g3,g4,g5,g6,g7]
 have c5:=h.c5
 have HK:=am hK
 clear hf hl g0 g3 g4 g5 g6 g7 h hK
 rcases hr with ⟨h1,h2,rfl⟩|⟨h1,rfl⟩
 ·rw [h2] at c5
  clear h2
  conv=>arg 2;whnf
  go_wp2_with (fail)
  exact HK.out _ ⟨⟨by kernel_rfl,rfl,rfl,rfl,rfl⟩,rfl,rfl⟩ rfl
 ·conv=>arg 2;whnf
  go_wp2_with (fail)
  exact HK.out _ ⟨⟨by kernel_rfl,rfl,rfl,rfl,rfl⟩,rfl,rfl⟩ rfl
theorem aaG {ia sw:Bool} {tt:Int} {dv:Value} (hf:Qm gp ia sw tt dv l)
  (hK:∀l',Qm gp ia sw tt dv l' →l'.getD 50 default= .bool (tt==0)→K ⟨l'.toArray,[]⟩ wr):
  Code.wp Tryz.prog (bI [0,1,0,1,1,0] dq) (Exit.then K Q) ⟨l.toArray,[]⟩ wr:=by
 obtain⟨hf,g6,g7⟩:=hf
 obtain⟨hl,g0,g3,g4,g5⟩:=hf
 obtain⟨f,hf,rfl⟩:=gR l hl
 rw [hf] at g0 g3 g4 g5 g6 g7
 rw [g0,g3,g4,g5,g6,g7]
 have HK:=am hK
 clear hf hl g0 g3 g4 g5 g6 g7 hK
 conv=>arg 2;whnf
 go_wp2_with (fail)
 exact HK.out _ ⟨⟨by kernel_rfl,rfl,rfl,rfl,rfl⟩,rfl,rfl⟩ rfl
theorem aaH {ia sw:Bool} {tt:Int} {dv:Value} {lvl lvl' :Nat} (hf:Qm gp ia sw tt dv l) (h:Ps B w0 c gp wr p v ts fs ds) (h0:0<B) (iW:v.lvl=lvl) (oz:lvl≤100000000) (fT:step lvl tt lvl')
  (hK:∀l' wx,Qm gp ia sw tt dv l' →Pk B w0 c gp wr wx p {v with lvl:=lvl' } ts fs ds→K ⟨l'.toArray,[]⟩ wx):
  Code.wp Tryz.prog (bI [0,1,0,1,1,1,1] dq) (Exit.then K Q) ⟨l.toArray,[]⟩ wr:=by
 obtain⟨hf,g6,g7⟩:=hf
 obtain⟨hl,g0,g3,g4,g5⟩:=hf
 obtain⟨f,hf,rfl⟩:=gR l hl
 rw [hf] at g0 g3 g4 g5 g6 g7
 rw [g0,g3,g4,g5,g6,g7]
 have c5:=h.c5
 have f5:=h.f 5
 rw [iW] at c5
 have HP:=am (And.intro h iW)
 have HK:=am hK
 clear hf hl g0 g3 g4 g5 g6 g7 h hK iW
 rcases fT with ⟨ho,rfl⟩|⟨hc,rfl⟩|⟨ho,rfl⟩
 ·have hw:IntKind.i64.wrap ((lvl:Int)+1)=((lvl+1:Nat):Int):=by rw [IntWalk.i64_in _ (by omega)];omega
  have dL:Pk B w0 c gp wr (wr.setCell ⟨gp,5,none⟩ (.int .i64 ((lvl+1:Nat):Int))) p {v with lvl:=((lvl+1:Nat):Int)} ts fs ds:=
   ⟨HP.out.1.ez h0 5 _ {v with lvl:=((lvl+1:Nat):Int)} rfl rfl rfl rfl,HP.out.1.eY 5 _⟩
  have HF:=am dL
  clear dL
  generalize hm:((lvl+1:Nat):Int)=m at*
  clear hm
  unfold Ih at ho
  rcases ho with rfl|rfl|rfl
  all_goals
   conv=>arg 2;whnf
   go_wp2_with (fail)
   exact HK.out _ _ ⟨⟨by kernel_rfl,rfl,rfl,rfl,rfl⟩,rfl,rfl⟩ HF.out
 ·have hw:IntKind.i64.wrap (((lvl' +1:Nat):Int) - 1)=(lvl' :Int):=by rw [IntWalk.i64_in _ (by omega)];omega
  have jJ:(((lvl' +1:Nat):Int)==0)=false:=by simp;omega
  have dL:Pk B w0 c gp wr (wr.setCell ⟨gp,5,none⟩ (.int .i64 (lvl' :Int))) p {v with lvl:=(lvl' :Int)} ts fs ds:=
   ⟨HP.out.1.ez h0 5 _ {v with lvl:=(lvl' :Int)} rfl rfl rfl rfl,HP.out.1.eY 5 _⟩
  have HF:=am dL
  clear dL
  generalize hm:((lvl' +1:Nat):Int)=m at*
  clear hm
  unfold NX at hc
  rcases hc with rfl|rfl
  all_goals
   conv=>arg 2;whnf
   go_wp2_with (fail)
   exact HK.out _ _ ⟨⟨by kernel_rfl,rfl,rfl,rfl,rfl⟩,rfl,rfl⟩ HF.out
 ·obtain⟨h1,h2,h3,h4,h5,h6,h7,h8,h9⟩:=ho
  have dL:Pk B w0 c gp wr wr p {v with lvl:=(lvl' :Int)} ts fs ds:=by
   have e:({v with lvl:=(lvl' :Int)}:PV)=v:=by rw [←HP.out.2]
   rw [e]
   exact⟨HP.out.1,Kt.refl _ _⟩
  have HF:=am dL
  clear dL
  conv=>arg 2;whnf
  go_wp2_with (fail)
  exact HK.out _ _ ⟨⟨by kernel_rfl,rfl,rfl,rfl,rfl⟩,rfl,rfl⟩ HF.out
theorem aaI {ia sw:Bool} {tt:Int} {dv:Value} (hf:Qm gp ia sw tt dv l) (hd:Rd wr dv xs)
  (hK:∀l' r,Qm gp ia sw tt dv l' →l'.getD 172 default= .bool r→K ⟨l'.toArray,[]⟩ wr):
  Code.wp Tryz.prog (bI [0,1,1,0,0] dq) (Exit.then K Q) ⟨l.toArray,[]⟩ wr:=by
 obtain⟨hf,g6,g7⟩:=hf
 obtain⟨hl,g0,g3,g4,g5⟩:=hf
 obtain⟨f,hf,rfl⟩:=gR l hl
 rw [hf] at g0 g3 g4 g5 g6 g7
 rw [g0,g3,g4,g5,g6,g7]
 have HK:=am hK
 obtain⟨A,n,cp,rfl,h1,h2,h3⟩:=hd
 clear hf hl g0 g3 g4 g5 g6 g7 hK
 by_cases hn:n=1
 ·subst hn
  obtain⟨g,o,cs,fr,rfl,hg,hc⟩:=h3 (by omega)
  have bR:wr.cell? ⟨g,o,none⟩=some (.int .u8 (xs.getD 0 0)):=by
   unfold World.cell?
   rw [hg]
   exact hc 0 (by omega)
  generalize xs.getD 0 0=b at bR
  clear h1 h2 h3 hg hc
  cases b1:(b==44)
  ·cases b2:(b==62)
   ·cases b3:(b==43)
    ·cases b4:(b==126)
     all_goals
      conv=>arg 2;whnf
      go_wp2_with (fail)
      exact HK.out _ _ ⟨⟨by kernel_rfl,rfl,rfl,rfl,rfl⟩,rfl,rfl⟩ rfl
    ·conv=>arg 2;whnf
     go_wp2_with (fail)
     exact HK.out _ _ ⟨⟨by kernel_rfl,rfl,rfl,rfl,rfl⟩,rfl,rfl⟩ rfl
   ·conv=>arg 2;whnf
    go_wp2_with (fail)
    exact HK.out _ _ ⟨⟨by kernel_rfl,rfl,rfl,rfl,rfl⟩,rfl,rfl⟩ rfl
  ·conv=>arg 2;whnf
   go_wp2_with (fail)
   exact HK.out _ _ ⟨⟨by kernel_rfl,rfl,rfl,rfl,rfl⟩,rfl,rfl⟩ rfl
 ·have BY:((n:Int)==1)=false:=by simp;omega
  clear h1 h2 h3 hn
  conv=>arg 2;whnf
  go_wp2_with (fail)
  exact HK.out _ _ ⟨⟨by kernel_rfl,rfl,rfl,rfl,rfl⟩,rfl,rfl⟩ rfl
theorem aaJ {ia sw:Bool} {tt:Int} {dv:Value} (hf:Qm gp ia sw tt dv l) (hK:∀l',Qm gp ia true tt dv l' →K ⟨l'.toArray,[]⟩ wr):
  Code.wp Tryz.prog (bI [0,1,1,0,1,0] dq) (Exit.then K Q) ⟨l.toArray,[]⟩ wr:=by
 obtain⟨hf,g6,g7⟩:=hf
 obtain⟨hl,g0,g3,g4,g5⟩:=hf
 obtain⟨f,hf,rfl⟩:=gR l hl
 rw [hf] at g0 g3 g4 g5 g6 g7
 rw [g0,g3,g4,g5,g6,g7]
 have HK:=am hK
 clear hf hl g0 g3 g4 g5 g6 g7 hK
 conv=>arg 2;whnf
 go_wp2_with (fail)
 exact HK.out _ ⟨⟨by kernel_rfl,rfl,rfl,rfl,rfl⟩,rfl,rfl⟩
theorem aaK {ia sw:Bool} {tt:Int} {dv:Value} (hf:Qm gp ia sw tt dv l) (h:Ps B w0 c gp wr p v ts fs ds) (hK:∀l' r,Qm gp ia sw tt dv l' →l'.getD 184 default= .bool r→K ⟨l'.toArray,[]⟩ wr):
  Code.wp Tryz.prog (bI [0,1,1,0,1,1,0] dq) (Exit.then K Q) ⟨l.toArray,[]⟩ wr:=by
 obtain⟨hf,g6,g7⟩:=hf
 obtain⟨hl,g0,g3,g4,g5⟩:=hf
 obtain⟨f,hf,rfl⟩:=gR l hl
 rw [hf] at g0 g3 g4 g5 g6 g7
 rw [g0,g3,g4,g5,g6,g7]
 have c9:=h.c9
 have HK:=am hK
 generalize v.pw=pw at c9
 clear hf hl g0 g3 g4 g5 g6 g7 hK h
 cases pw<;>cases sw<;>cases ia
 all_goals
  conv=>arg 2;whnf
  go_wp2_with (fail)
  exact HK.out _ _ ⟨⟨by kernel_rfl,rfl,rfl,rfl,rfl⟩,rfl,rfl⟩ rfl
theorem aaL {ia sw:Bool} {tt:Int} {dv:Value} (hf:Qm gp ia sw tt dv l) (hK:∀l',Qm gp ia false tt dv l' →K ⟨l'.toArray,[]⟩ wr):
  Code.wp Tryz.prog (bI [0,1,1,0,1,1,1,1] dq) (Exit.then K Q) ⟨l.toArray,[]⟩ wr:=by
 obtain⟨hf,g6,g7⟩:=hf
 obtain⟨hl,g0,g3,g4,g5⟩:=hf
 obtain⟨f,hf,rfl⟩:=gR l hl
 rw [hf] at g0 g3 g4 g5 g6 g7
 rw [g0,g3,g4,g5,g6,g7]
 have HK:=am hK
 clear hf hl g0 g3 g4 g5 g6 g7 hK
 conv=>arg 2;whnf
 go_wp2_with (fail)
 exact HK.out _ ⟨⟨by kernel_rfl,rfl,rfl,rfl,rfl⟩,rfl,rfl⟩
theorem aaM {ia sw:Bool} {tt:Int} {dv:Value} (hf:Qm gp ia sw tt dv l) (h:Ps B w0 c gp wr p v ts fs ds) (h0:0<B) (hn:ts.length≤1000000000)
  (hK:∀l' wx b',Qm gp ia sw tt dv l' →Pk B w0 c gp wr wx p {v with buf:=b' } (ts++ [⟨20,[32]⟩]) fs ds→K ⟨l'.toArray,[]⟩ wx):
  Code.wp Tryz.prog (bI [0,1,1,0,1,1,1,0] dq) (Exit.then K Q) ⟨l.toArray,[]⟩ wr:=by
 obtain⟨hf,g6,g7⟩:=hf
 obtain⟨hl,g0,g3,g4,g5⟩:=hf
 obtain⟨f,hf,rfl⟩:=gR l hl
 rw [hf] at g0 g3 g4 g5 g6 g7
 rw [g0,g3,g4,g5,g6,g7]
 have HK:=am hK
 have HP:=am h
 clear hf hl g0 g3 g4 g5 g6 g7 hK h
 conv=>arg 2;whnf
 go_wp2_with (fail)
 refine(wsb _).mono ?_
 rintro e w1 ⟨dv2,rfl,hd,hb⟩
 have HR:=am (And.intro hd hb)
 obtain⟨A2,n2,Fw,e2,-,-,-⟩:=id hd
 subst e2
 clear hd hb
 go_wp2_with (fail)
 refine(lR (HP.out.below HR.out.2) h0 ⟨20,[32]⟩ _ HR.out.1 hn).mono ?_
 rintro e w2 ⟨rfl,b',hP,hk⟩
 have HS:=am (And.intro hP (((Kt.refl B wr).below HR.out.2 HP.out.hB).trans hk))
 clear hP hk
 go_wp2_with (fail)
 exact HK.out _ _ _ ⟨⟨by kernel_rfl,rfl,rfl,rfl,rfl⟩,rfl,rfl⟩ HS.out
theorem Pp:bI [0,1,1,0] dq= .seq (bI [0,1,1,0,0] dq) (.cond (.tmp 172) (bI [0,1,1,0,1,0] dq) (.seq (bI [0,1,1,0,1,1,0] dq) (.cond (.tmp 184) (bI [0,1,1,0,1,1,1,0] dq) (bI [0,1,1,0,1,1,1,1] dq)))):=by kernel_rfl
theorem afP {ia sw:Bool} {tt:Int} {dv:Value} (hf:Qm gp ia sw tt dv l) (h:Ps B w0 c gp wr p v ts fs ds) (h0:0<B) (hn:ts.length≤1000000000) (hd:Rd wr dv xs)
  (hK:∀l' wx Pq b' bN,Qm gp ia Pq tt dv l' →bH bN =bH ts→bN.length≤ts.length+1→Rd wx dv xs→Pk B w0 c gp wr wx p {v with buf:=b' } bN fs ds→K ⟨l'.toArray,[]⟩ wx):
  Code.wp Tryz.prog (bI [0,1,1,0] dq) (Exit.then K Q) ⟨l.toArray,[]⟩ wr:=by
 rw [Pp]
 refine wp_seq_k fun K1 gv=> ?_
 refine aaI hf hd fun l1 r1 a1 a2=>gv _ _ ?_
 cases r1 with
 | true=>
  refine wp_cond_true (oE a2 a1.1.1 (by decide)) ?_
  refine aaJ a1 fun l2 b1=> ?_
  exact hK l2 wr true v.buf ts b1 rfl (by omega) hd ⟨h,Kt.refl _ _⟩
 | false=>
  refine wp_cond_false (oE a2 a1.1.1 (by decide)) ?_
  refine wp_seq_k fun K2 ik=> ?_
  refine aaK a1 h fun l2 r2 b1 b2=>ik _ _ ?_
  cases r2 with
  | true=>
   refine wp_cond_true (oE b2 b1.1.1 (by decide)) ?_
   refine aaM b1 h h0 hn fun l3 wx b' c1 c2=> ?_
   refine hK l3 wx sw b' _ c1 ?_ (by simp) (hd.kt c2.2) c2
   unfold bH
   rw [List.filter_append]
   simp
  | false=>
   refine wp_cond_false (oE b2 b1.1.1 (by decide)) ?_
   refine aaL b1 fun l3 c1=> ?_
   exact hK l3 wr false v.buf ts c1 rfl (by omega) hd ⟨h,Kt.refl _ _⟩
theorem afQ {ia sw:Bool} {tt:Int} {dv:Value} (hf:Qm gp ia sw tt dv l) (hK:∀l' ia',Qm gp ia' sw tt dv l' →K ⟨l'.toArray,[]⟩ wr):
  Code.wp Tryz.prog (bI [0,1,1,1,0] dq) (Exit.then K Q) ⟨l.toArray,[]⟩ wr:=by
 obtain⟨hf,g6,g7⟩:=hf
 obtain⟨hl,g0,g3,g4,g5⟩:=hf
 obtain⟨f,hf,rfl⟩:=gR l hl
 rw [hf] at g0 g3 g4 g5 g6 g7
 rw [g0,g3,g4,g5,g6,g7]
 have HK:=am hK
 clear hf hl g0 g3 g4 g5 g6 g7 hK
 cases h1:(tt==26)
 ·cases h2:(tt==27)
  all_goals
   conv=>arg 2;whnf
   go_wp2_with (fail)
   exact HK.out _ _ ⟨⟨by kernel_rfl,rfl,rfl,rfl,rfl⟩,rfl,rfl⟩
 ·conv=>arg 2;whnf
  go_wp2_with (fail)
  exact HK.out _ _ ⟨⟨by kernel_rfl,rfl,rfl,rfl,rfl⟩,rfl,rfl⟩
theorem afR {ia sw:Bool} {t:Tk} {dv:Value} (hf:Qm gp ia sw t.tt dv l) (h:Ps B w0 c gp wr p v ts fs ds) (h0:0<B) (hn:ts.length≤1000000000) (hd:Rd wr dv t.bs)
  (hK:∀l' wx b',Qf gp false ia sw l' →Pk B w0 c gp wr wx p {v with buf:=b' } (ts++ [t]) fs ds→K ⟨l'.toArray,[]⟩ wx):
  Code.wp Tryz.prog (bI [0,1,1,1,1] dq) (Exit.then K Q) ⟨l.toArray,[]⟩ wr:=by
 obtain⟨hf,g6,g7⟩:=hf
 obtain⟨hl,g0,g3,g4,g5⟩:=hf
 obtain⟨f,hf,rfl⟩:=gR l hl
 rw [hf] at g0 g3 g4 g5 g6 g7
 rw [g0,g3,g4,g5,g6,g7]
 obtain⟨A2,n2,Fw,e2,-,-,-⟩:=id hd
 subst e2
 have HK:=am hK
 have HP:=am (And.intro h hd)
 clear hf hl g0 g3 g4 g5 g6 g7 hK h hd
 conv=>arg 2;whnf
 go_wp2_with (fail)
 refine(lR HP.out.1 h0 t _ HP.out.2 hn).mono ?_
 rintro e w2 ⟨rfl,b',hP,hk⟩
 have HS:=am (And.intro hP hk)
 clear hP hk
 go_wp2_with (fail)
 exact HK.out _ _ _ ⟨by kernel_rfl,rfl,rfl,rfl,rfl⟩ HS.out
structure yJ (B:Nat) (w w' :World):Prop where
 os:w'.os=w.os
 tape:w'.tape=w.tape
 output:w'.output=w.output
 size:w.heap.size≤w'.heap.size
 low:∀k,k<B→w'.heap[k]? =w.heap[k]?
 eC:∀(k:Nat) (cs:Array Value) (t:TypeId) (fr:Nat×Nat),w.heap[k]? =some (.cells cs t fr)→t≠88→w'.heap[k]? =some (.cells cs t fr)
 uP:∀(k:Nat) (o:Obj),w.heap[k]? =some o→(∀cs t fr,o≠ .cells cs t fr)→w'.heap[k]? =some o
theorem yJ.iz {w' :World} {sv:Value} {n:Nat} {vs:List Value} (ho:w.ownsRow B 88 1 sv n vs) (hg:w.grownBy w' sv.ownBlock) (hB:B≤w.heap.size):yJ B w w':=by
 refine⟨hg.os,hg.tape,hg.output,hg.size,fun k hk=>hg.block k (by omega) (fun e=> ?_),fun k cs t fr hk ht=>(hg.block k (cT hk) (fun e=> ?_)).trans hk,fun k o hk hno=>(hg.block k (cT hk) (fun e=> ?_)).trans hk⟩
 ·have:=fg ho k e.symm
  omega
 ·obtain⟨cells,hc⟩:=ql ho k e.symm
  rw [hk] at hc
  injection hc with hc
  injection hc with _ hc
  exact ht hc
 ·obtain⟨cells,hc⟩:=ql ho k e.symm
  rw [hk] at hc
  injection hc with hc
  exact hno _ _ _ hc
theorem yJ.rd {w' :World} (k:yJ B w w') {v:Value} {xs:List Int} (h:Rd w v xs):Rd w' v xs:=by
 obtain⟨A,n,cp,rfl,h1,h2,h3⟩:=h
 refine⟨A,n,cp,rfl,h1,h2,fun hp=> ?_⟩
 obtain⟨g,o,cs,fr,e,hg,hc⟩:=h3 hp
 exact⟨g,o,cs,fr,e,k.eC g _ _ _ hg (by decide),hc⟩
theorem yJ.kt {w' :World} (k:yJ B w w'):Kt B w w':=⟨k.os,k.tape,k.output,k.size,k.low,fun i o ho hp=>by
 cases o with
 | cells cs t fr=>
  refine k.eC i cs t fr ho ?_
  rintro rfl
  simp [AM] at hp
 | _=>exact k.uP i _ ho (fun _ _ _ e=>by cases e)⟩
theorem yJ.st {w' :World} (k:yJ B w w') (h:St w c w p p) (hb:∃cur fr,w.heap[c.gb]? =some (.cells cur 5 fr)) (h0:0<B):St w' c w' p p:=by
 obtain⟨cur,fr,hb⟩:=hb
 have dc:=k.eC _ _ _ _ hb (by decide)
 refine⟨k.eC _ _ _ _ h.lex (by decide),k.eC _ _ _ _ h.uT (by decide),fun j hj=> ?_,?_,h.nl,h.nb,h.ne,Kp.refl _ _,h.dK,h.ei,h.dS,h.ej,h.ME,h.ok⟩
 ·have:=h.buf j hj
  unfold World.cell? at this⊢
  rw [hb] at this
  rw [dc]
  exact this
 ·have:=h.eof
  unfold World.cell? at this⊢
  rw [show w'.heap[(⟨0,0,none⟩:Addr).block]? =w.heap[(⟨0,0,none⟩:Addr).block]? from k.low 0 h0]
  exact this
theorem Ps.yh (h:Ps B w0 c gp w p v ts fs ds) (h0:0<B) {w1:World} (k:yJ B w w1) {jD :Value} {fs' :List Nat} (ho:w1.ownsRow B 88 1 jD fs'.length (fs'.map fv)):
  Pk B w0 c gp w (w1.setCell ⟨gp,1,none⟩ jD) p {v with st:=jD } ts fs' ds:=by
 obtain⟨cur,fr,hb⟩:=h.Ik
 have hp:=k.eC _ _ _ _ h.par (by decide)
 have eW:=k.eC _ _ _ _ hb (by decide)
 have ht:Tb B w1 v.buf ts:=h.tb.xL (fun g cs hg=>k.eC _ _ _ _ hg (by decide)) (fun _ _ hr=>k.rd hr)
 refine⟨⟨(k.st h.lx h.Ik h0).Dz h.gpi h.gpl h.Wc (h.gp0 h0) 1 jD,?_,⟨cur,fr,(Below.heap_setCell w1 ⟨gp,1,none⟩ jD c.gb (Ne.symm h.Wc)).trans eW⟩,ht.gG hp (by decide) (by decide) 1 jD,?_,(k.rd h.Dy).gG hp (by decide) 1 jD,(h.kt.trans k.kt).gG 1 jD h.Bp hp rfl,h.Bp,h.Bi⟩,k.kt.gG 1 jD h.Bp hp rfl⟩
 ·have:=cj hp 1 jD
  simpa [PV.cells] using this
 ·exact de ho (dJ ho hp (by decide)) jD
theorem F0:(Tryz.prog.info? 88).map (fun i=>(i.zero,i.size,i.bytes))=some (some .nilFunc,1,8):=by kernel_rfl
theorem Bs (h:Ps B w0 c gp w p v ts fs ds):∃A cap,v.st= .slice A fs.length cap:=by
 obtain⟨A,cp,e⟩:=dP h.rS
 exact⟨A,cp,e⟩
theorem UU {ia sw:Bool} {tt:Int} {dv:Value} (hf:Qm gp ia sw tt dv l) (h:Ps B w0 c gp wr p v ts fs ds) (h0:0<B) (jE:fs.length≤1000)
  (hQ:∀(l' :List Value) wx jD,l'.length=196→l'.getD 2 default= .int .u32 6→Pk B w0 c gp wr wx p {v with st:=jD } ts (fs++ [79]) ds→Q .ret ⟨l'.toArray,[]⟩ wx):
  Code.wp Tryz.prog (bI [0,1,0,1,0] dq) (Exit.then K Q) ⟨l.toArray,[]⟩ wr:=by
 obtain⟨hf,g6,g7⟩:=hf
 obtain⟨hl,g0,g3,g4,g5⟩:=hf
 obtain⟨f,hf,rfl⟩:=gR l hl
 rw [hf] at g0 g3 g4 g5 g6 g7
 rw [g0,g3,g4,g5,g6,g7]
 have c1:=h.c1
 obtain⟨A,cap,fT⟩:=Bs h
 have HST:=am h.rS
 have HP:=am h
 have HB:=am h.hB
 rw [fT] at c1
 have HE:=am fT
 have HQ:=am hQ
 have uo:∀u∈ [Value.func (.func 79) #[] #[]],u.oneCell' =true:=by intro u hu;simp at hu;subst hu;rfl
 clear hf hl g0 g3 g4 g5 g6 g7 h fT hQ
 conv=>arg 2;whnf
 go_wp2_with (at_builtin;refine di (w0:=wr) B rfl (.tmp 44) (.tmp 45) 78 88 _ 1 8 (by rfl) Tryz.underlying78 F0 rfl (by decide) (by decide) (.slice A fs.length cap) fs.length (fs.map fv) [.func (.func 79) #[] #[]] (by rfl) (by simp [Act.eval]) rfl uo (HE.out▸HST.out) ((Below.refl _ _).mono HB.out) HB.out (by omega) ?_;intro v1 w1 dW mv jm mq;obtain⟨A1,afS,e1⟩:=dP dW;subst e1;have P1:=am (HP.out.yh h0 (yJ.iz HP.out.rS (HE.out.symm▸jm) HB.out) (fs':=fs++ [79]) (by rw [List.length_append,List.map_append];exact dW));have d1:w1.cell? ⟨gp,1,none⟩=some (.slice A fs.length cap):=(by rw [ao ((yJ.iz HP.out.rS (HE.out.symm▸jm) HB.out).eC _ _ _ _ HP.out.par (by decide)),←HE.out];rfl);have d1f:w1.frozen? ⟨gp,1,none⟩=false:=ai ((yJ.iz HP.out.rS (HE.out.symm▸jm) HB.out).eC _ _ _ _ HP.out.par (by decide)) 1;clear dW mv jm mq)
 exact HQ.out _ _ _ (by kernel_rfl) rfl P1.out
theorem F1 {lvl lvl' :Nat} {tt:Int} (h:step lvl tt lvl'):(tt==30)=false∧(tt==0)=false:=by
 rcases h with ⟨h,_⟩|⟨h,_⟩|⟨h,_⟩
 ·unfold Ih at h;rcases h with rfl|rfl|rfl<;>exact⟨rfl,rfl⟩
 ·unfold NX at h;rcases h with rfl|rfl<;>exact⟨rfl,rfl⟩
 ·obtain⟨h1,h2,h3,h4,h5,h6,h7,h8,h9⟩:=h
  exact⟨h6,h9⟩
theorem gE (a b:List Tk):bH (a++b)=bH a++bH b:=by unfold bH;rw [List.filter_append]
theorem F2 {ia sw:Bool} {t:Tk} {dv:Value} {lvl lvl' :Nat} (hf:Qm gp ia sw t.tt dv l) (h:Ps B w0 c gp wr p v ts fs ds) (h0:0<B) (hd:Rd wr dv t.bs) (hn:ts.length≤100000000) (iW:v.lvl=lvl) (oz:lvl≤100000000) (fT:step lvl t.tt lvl')
  (hK:∀l' wx ia' Pq b' bN,Qf gp false ia' Pq l' →bH bN =bH ts++bH [t]→bN.length≤ts.length+2→Pk B w0 c gp wr wx p {v with lvl:=lvl',buf:=b' } bN fs ds→K ⟨l'.toArray,[]⟩ wx):
  Code.wp Tryz.prog (.seq (.seq (bI [0,1,0,0] dq) (.cond (.tmp 39) (bI [0,1,0,1,0] dq) (.seq (bI [0,1,0,1,1,0] dq) (.cond (.tmp 50) (bI [0,1,0,1,1,1,0] dq) (bI [0,1,0,1,1,1,1] dq))))) (.seq (bI [0,1,1,0] dq) (.seq (bI [0,1,1,1,0] dq) (bI [0,1,1,1,1] dq)))) (Exit.then K Q) ⟨l.toArray,[]⟩ wr:=by
 obtain⟨h30,ui⟩:=F1 fT
 refine wp_seq_k fun K1 gv=>wp_seq_k fun K2 ik=> ?_
 refine RB (r:=false) hf h (.inr ⟨h30,rfl⟩) fun l1 a1 a2=>ik _ _ ?_
 refine wp_cond_false (oE a2 a1.1.1 (by decide)) (wp_seq_k fun K3 jK=> ?_)
 refine aaG a1 fun l2 b1 b2=>jK _ _ ?_
 refine wp_cond_false (oE (b2.trans (by rw [ui])) b1.1.1 (by decide)) ?_
 refine aaH b1 h h0 iW oz fT fun l3 w3 c1 c2=>gv _ _ ?_
 refine wp_seq_k fun K4 lW=> ?_
 refine afP c1 c2.1 h0 (by omega) (hd.kt c2.2) fun l4 w4 sw4 b4 ts4 d1 d2 d3 d4 d5=>lW _ _ ?_
 refine wp_seq_k fun K5 oU=> ?_
 refine afQ d1 fun l5 ia5 e1=>oU _ _ ?_
 refine afR e1 d5.1 h0 (by omega) d4 fun l6 w6 b6 f1 f2=> ?_
 exact hK l6 w6 ia5 sw4 b6 (ts4++ [t]) f1 (by rw [gE,d2]) (by simp;omega) ⟨f2.1,(c2.2.trans d5.2).trans f2.2⟩
def QV (v v' :PV):Prop:=v'.st=v.st∧v'.err=v.err∧v'.ep=v.ep∧v'.tt=20∧v'.kw=false∧v'.pe=v.pe∧v'.sh=v.sh
def QI (B:Nat) (w0:World) (c:lQ) (gp:Nat) (w:World) (p:Int) (v:PV) (fs:List Nat) (ds:List Int) (r:List (Tk×Bool)) (tL:Nat) (q:Int) (g:Nat) (l:List Value) (wr:World):Prop:=
 (∃ia sw b',g=r.length+2∧Qf gp true ia sw l∧Pk B w0 c gp w wr p {v with buf:=b' } [] fs ds∧eJ c.bs q tL p r)∨
 (∃(ia sw:Bool) (lvl:Nat) (p' :Int) (v' :PV) (bN :List Tk) (dn rs:List (Tk×Bool)),g=rs.length+1∧Qf gp false ia sw l∧r=dn++rs∧v'.lvl=(lvl:Int)∧lvl≤dn.length+1∧QV v v' ∧bH bN =bH [⟨v.tt,ds⟩]++bH (flat dn)∧bN.length≤2*(dn.length+1)∧Pk B w0 c gp w wr p' v' bN fs []∧eJ c.bs q lvl p' rs)
theorem mo (dn:List (Tk×Bool)) (x:Tk×Bool):bH (flat (dn++ [x]))=bH (flat dn)++bH [x.1]:=by
 induction dn with
 | nil=>
  obtain⟨t,b⟩:=x
  cases b
  ·rfl
  ·show bH ([⟨20,[32]⟩]++ [t])=bH [t]
   rw [gE]
   rfl
 | cons y dn ih=>
  obtain⟨t,b⟩:=y
  cases b
  ·show bH ([t]++flat (dn++ [x]))=bH ([t]++flat dn)++_
   rw [gE,gE,ih,List.append_assoc]
  ·show bH ([⟨20,[32]⟩,t]++flat (dn++ [x]))=bH ([⟨20,[32]⟩,t]++flat dn)++_
   rw [gE,gE,ih,List.append_assoc]
theorem yi {lvl lvl' :Nat} {tt:Int} (h:step lvl tt lvl'):lvl' ≤lvl+1:=by
 rcases h with ⟨_,h⟩|⟨_,h⟩|⟨_,h⟩<;>omega
theorem Hs {r:List (Tk×Bool)} {tL:Nat} {q2:Int} {uj:List Int} {tF:Bool} (h:Ps B w0 c gp w p v ts fs ds) (h0:0<B) (ij:v.kw=false) (iW:v.lvl=0) (jE:fs.length≤1000) (oD:r.length<10000000)
  (fT:step 0 v.tt tL) (hs:eJ c.bs q tL p r) (cW:eo c.bs q 30 q2 uj tF):
  Calls Tryz.prog 62 #[.pointer (some ⟨gp,0,none⟩)] w fun e w' =>e= .returned (.int .u32 6)∧∃v' bN,bH bN =bH [⟨v.tt,ds⟩]++bH (flat r)∧bN.length≤100000000∧
   (v'.err=v.err∧v'.tt=20∧v'.kw=false∧v'.pe=v.pe∧v'.lvl=0)∧Pk B w0 c gp w w' q2 v' bN (fs++ [79]) []:=by
 have HH:=am h
 have HX:=am (And.intro ij (And.intro iW (And.intro fT (And.intro hs cW))))
 clear h ij iW fT hs cW
 go_enter Tryz.func62,Tryz.ntmps62
 go_wp2_with (fail)
 refine(xN HH.out h0).mono ?_
 rintro e w1 ⟨rfl,b1,hP⟩
 have HP:=am hP
 clear hP
 go_wp2_with (fail)
 refine cZ 196 (fun g l wr=>QI B w0 c gp w p v fs ds r tL q g l wr) (r.length+2) _ (by kernel_rfl) (.inl ⟨false,true,b1,rfl,⟨by kernel_rfl,rfl,rfl,rfl,rfl⟩,HP.out,HX.out.2.2.2.1⟩) ?_
 rintro n l wr hl hI J hJ
 show Code.wp Tryz.prog dq _ _ _
 rw [aaD]
 refine wp_block ?_
 rcases hI with ⟨ia,sw,b',hg,hf,hP,hs⟩|⟨ia,sw,lvl,p',v',bN,dn,rs,hg,hf,hr,yj,hld,oq,DN,hlen,hP,hs⟩
 ·refine wp_seq_k fun K1 gv=>wp_seq_k fun K2 ik=> ?_
  refine Q9 hf fun l1 a1 a2=>ik _ _ ?_
  refine wp_cond_true (oE a2 a1.1 (by decide)) ?_
  refine aaE a1 hP.1 h0 fun l2 w2 dv ev b1' b2 b3 b4 b5=>gv _ _ ?_
  refine wp_mono (F2 (K:=J) (Q:=Exit.inBlock 1 (Exit.then J _)) (t:=⟨v.tt,ds⟩) (lvl:=0) (lvl':=tL) ⟨b1',b2,b3⟩ b5.1 h0 b4 (by simp) HX.out.2.1 (by omega) HX.out.2.2.1 fun l3 w3 ia3 sw3 b3' MK c1 c2 c3 c4=> ?_) (fun e a w' hq=>by cases e<;>exact hq)
  obtain⟨v3,k1,k2,k3⟩:∃v3:PV,Pk B w0 c gp w w3 p v3 MK fs []∧v3.lvl=(tL:Int)∧QV v v3:=⟨_,⟨c4.1,(hP.2.trans b5.2).trans c4.2⟩,rfl,⟨rfl,rfl,rfl,rfl,HX.out.1,rfl,rfl⟩⟩
  refine hJ (r.length+1) l3 w3 (by omega) c1.1 (.inr ⟨ia3,sw3,tL,p,v3,MK,[],r,rfl,c1,rfl,k2,by have:=yi HX.out.2.2.1;simp;omega,k3,by rw [c2];simp [bH,flat],by simpa using c3,k1,hs⟩)
 ·have Yq:dn.length+rs.length=r.length:=by rw [hr,List.length_append]
  refine wp_seq_k fun K1 gv=>wp_seq_k fun K2 ik=> ?_
  refine Q9 hf fun l1 a1 a2=>ik _ _ ?_
  refine wp_cond_false (oE a2 a1.1 (by decide)) ?_
  cases rs with
  | nil=>
   obtain⟨rfl,rfl⟩:=hs.GG
   rw [List.append_nil] at hr
   subst hr
   refine RA (t:=⟨30,uj⟩) a1 hP.1 h0 oq.2.2.2.2.1 HX.out.2.2.2.2 fun l2 w2 dv b1' b2 b3 b4 b5=>gv _ _ ?_
   refine wp_seq_k fun K3 jK=>wp_seq_k fun K4 lW=> ?_
   refine RB (r:=true) ⟨b1',b2,b3⟩ b5.1 (.inl ⟨rfl,yj,rfl⟩) fun l3 c1 c2=>lW _ _ ?_
   refine wp_cond_true (oE c2 c1.1.1 (by decide)) ?_
   refine UU c1 b5.1 h0 jE fun l4 wx jD We e2 hp=> ?_
   simp only [Exit.inBlock,Exit.then]
   obtain⟨v3,k1,k2⟩:∃v3:PV,Pk B w0 c gp w wx q2 v3 bN (fs++ [79]) []∧(v3.err=v.err∧v3.tt=20∧v3.kw=false∧v3.pe=v.pe∧v3.lvl=0):=⟨_,⟨hp.1,(hP.2.trans b5.2).trans hp.2⟩,oq.2.1,oq.2.2.2.1,oq.2.2.2.2.1,oq.2.2.2.2.2.1,yj⟩
   refine bodyPost_ret (results_tmp rfl _ _ _) rfl ⟨?_,v3,bN,DN,by omega,k2,k1⟩
   exact congrArg Ending.returned (oE e2 We (by decide))
  | cons x rs=>
   obtain⟨t,ws⟩:=x
   obtain⟨q1,lvl',cW,fT,Pr⟩:=hs.cons
   simp only [List.length_cons] at Yq
   refine RA (t:=t) a1 hP.1 h0 oq.2.2.2.2.1 cW fun l2 w2 dv b1' b2 b3 b4 b5=>gv _ _ ?_
   refine wp_mono (F2 (K:=J) (Q:=Exit.inBlock 1 (Exit.then J _)) (t:=t) (lvl:=lvl) (lvl':=lvl') ⟨b1',b2,b3⟩ b5.1 h0 b4 (by omega) yj (by omega) fT fun l3 w3 ia3 sw3 b3' MK c1 c2 c3 c4=> ?_) (fun e a w' hq=>by cases e<;>exact hq)
   obtain⟨v3,k1,k2,k3⟩:∃v3:PV,Pk B w0 c gp w w3 q1 v3 MK fs []∧v3.lvl=(lvl' :Int)∧QV v v3:=⟨_,⟨c4.1,(hP.2.trans b5.2).trans c4.2⟩,rfl,⟨oq.1,oq.2.1,oq.2.2.1,oq.2.2.2.1,oq.2.2.2.2.1,oq.2.2.2.2.2.1,oq.2.2.2.2.2.2⟩⟩
   refine hJ (rs.length+1) l3 w3 (by simp at hg;omega) c1.1 (.inr ⟨ia3,sw3,lvl',q1,v3,MK,dn++ [(t,ws)],rs,rfl,c1,by rw [hr];simp,k2,by have:=yi fT;simp;omega,k3,?_,by simp;omega,k1,Pr⟩)
   rw [c2,DN,mo,List.append_assoc]
end Go.Proofs.YtlglijnaeaonpaaGreatDoor.Lx
end
