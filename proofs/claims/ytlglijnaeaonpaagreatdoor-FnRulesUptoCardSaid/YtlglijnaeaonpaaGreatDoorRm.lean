/- FnRules: a part of the proof (Rm). -/
import Derived.Test.YtlglijnaeaonpaaGreatDoorRl
import Derived.Deep.RegionWith
import Derived.Deep.LoopGhost
import Derived.Deep.DeepCutAuto
import Derived.Test.YtlglijnaeaonpaaGreatDoorRi
section
set_option maxHeartbeats 8000000
set_option maxRecDepth 100000
set_option linter.unusedVariables false
set_option linter.unusedSimpArgs false
namespace Go.Proofs.YtlglijnaeaonpaaGreatDoor.Lx
open Go.RowKit Go.Proofs.YtlglijnaeaonpaaGreatDoorW.aC
variable {w0 w:World} {c:lQ} {p s:Int}
theorem AE (h:St w0 c w p s) {a:Int} (h0:0≤a) (h1:a<c.bs.length):a≤run Ws c.bs a∧run Ws c.bs a<c.bs.length:=⟨bL,h.ok.tj (by decide) h0 h1⟩
theorem Kl (h:St w0 c w p s) {a:Int} (h0:0≤a) (h1:a<c.bs.length):a≤run Uc c.bs a∧run Uc c.bs a<c.bs.length:=⟨bL,h.ok.tj (by decide) h0 h1⟩
theorem AF (h:St w0 c w p p) (h0:lr c.bs p) {e:Int} (h1:at_ c.bs (run Nm c.bs p)=40) (h2:gC (oM c.bs p (run Nm c.bs p))) (hu:xA c.bs (run Nm c.bs p+1) e):
  Calls Tryz.prog 89 #[.pointer (some ⟨c.gl,0,none⟩)] w fun en w' =>en= .returned (.int .u32 7)∧St w0 c w' e p:=by
 have hr:=h.r;have b0:=h.dK;have b1:=h.ei;have b2:=h.dS;have b3:=h.ej
 obtain⟨l1,l2⟩:=kk h h0
 obtain⟨q0,hq0⟩:∃q0,q0=run Nm c.bs p:=⟨_,rfl⟩
 have l3:=h.ok.lt (run Nm c.bs p) (by omega) l2 (by omega)
 obtain⟨a,b,ha,hb,a34,a39,oh⟩:=hu
 have la:=AE h (a:=run Nm c.bs p+1) (by omega) l3
 rw [←ha] at la
 obtain⟨la1,la2⟩:=la
 have lb:=Kl h (a:=a) (by omega) la2
 rw [←hb] at lb
 obtain⟨lb1,lb2⟩:=lb
 have QH :(at_ c.bs (run Nm c.bs p) !=40)=false:=by simpa using h1
 have hU:true=decide (gC (oM c.bs p (run Nm c.bs p))):=by simp [h2]
 have HU:=am hU
 have HA:=am ha
 have HB:=am hb
 have HE:=am oh
 clear h1 hU h2 ha hb oh hq0
 go_enter Tryz.func89,Tryz.ntmps89
 go_wp2_with (first|(go_at_call 123;(with_reducible refine(pN (by assumption) (by assumption)).mono ?_);rintro e w1 ⟨rfl,hS⟩;have hr:=hS.r)|(go_at_call 80;(with_reducible refine(bE (by assumption)).mono ?_);rintro e w1 ⟨rfl,hS⟩;have hr:=hS.r)|(go_at_call 100;(with_reducible refine(Ka (by assumption) (by omega)).mono ?_);rintro e w1 ⟨rfl,hS⟩;have hr:=hS.r))
 refine(Kk (hS.alloc _) l1 _ (by simp [World.cell?_alloc_new])).mono ?_
 rintro en w2 ⟨v,rfl,bl,hS⟩
 clear hr
 have hr:=hS.r
 have HO:=am bl
 clear bl
 go_wp2_with (fail)
 refine(AD v _ _ _ (oM c.bs p (run Nm c.bs p)) _ _ (HO.out.alloc _) (by omega) (by simp [World.cell?_alloc_new]) (by simp [World.cell?_alloc_new]) (by simp [World.cell?_alloc_new]) (fun j hj=> ?_) true HU.out).mono ?_
 ·rw [nc b0 j hj]
  exact⟨(h.ok.range _).1,(h.ok.range _).2.1⟩
 rintro en w3 ⟨rfl,rfl⟩
 have hS:=hS.alloc (.cells #[Value.int .u8 117,Value.int .u8 114,Value.int .u8 108] 5)
 have hr:=hS.r
 clear HO
 go_wp2_with (first|(go_at_call 58;(with_reducible refine(move _ (by assumption) (by omega) (by omega)).mono ?_);rintro e w1 ⟨rfl,hS⟩;have hr:=hS.r))
 go_loopg [] ((c.bs.length:Int) - (run Nm c.bs p+1)).toNat (fun k w' =>∃q:Int,Ri Ws c.bs (run Nm c.bs p+1) q k∧St w0 c w' q p)
 case atStart=>exact⟨_,Ri.start (by omega) (by omega),by assumption⟩
 case round=>
  clear hS hr
  obtain⟨q,hR,hS⟩:=hrel
  have hr:=hS.r;have b0:=hS.dK;have b1:=hS.ei;have b2:=hS.dS;have b3:=hS.ej
  by_cases hn:Ws (at_ c.bs q)
  ·have hm:=hS.more (by unfold Ws at hn;omega)
   have iV:=hR.step (by omega) hn
   have eh:=hR.lt (by omega)
   go_wp2_with (first|(go_at_call 81;(with_reducible refine(Oc (by assumption) (by assumption)).mono ?_);rintro e w1 ⟨rfl,hS⟩;have hr:=hS.r))
   go_roundg (((c.bs.length:Int) - (q+1)).toNat)
   case measure=>exact eh
   case rel=>exact⟨_,iV,by assumption⟩
  ·have HQ:=am (hR.done hn)
   have hqa:q=a:=by rw [HA.out];exact HQ.out
   clear HQ hR
   subst hqa
   obtain⟨m,r,TN,wo,oP,hm3,T2⟩:∃m r:Int,(q≤m∧m<c.bs.length)∧r<c.bs.length∧r=run Ws c.bs m∧(at_ c.bs r==41)=true∧e=r+1∧((m=b∧at_ c.bs b=41)∨(m=b+1∧Ws (at_ c.bs b))):=by
    rcases HE.out with ⟨g1,g2⟩|⟨g1,g2,g3⟩
    ·have g4:run Ws c.bs b=b:=eI (by omega) (by omega) (by rw [g1];decide)
     exact⟨b,b,⟨by omega,by omega⟩,by omega,g4.symm,by simpa using g1,g2,.inl ⟨rfl,g1⟩⟩
    ·have g5:=h.ok.lt b (by omega) lb2 (by unfold Ws at g1;omega)
     have g4:=fH (f:=Ws) (bs:=c.bs) (p:=b) (by omega) (by omega) g1
     have g6:=AE h (a:=b+1) (by omega) g5
     exact⟨b+1,run Ws c.bs b,⟨by omega,by omega⟩,by omega,g4,by simpa using g2,g3,.inr ⟨rfl,g1⟩⟩
   obtain⟨TN,agX⟩:=TN
   obtain⟨T2,hm5⟩:=T2
   have YQ:=am oP
   have HM4:=am T2
   have HM5:=am hm5
   clear oP T2 hm5
   go_upto_region 14 with (first|(go_at_call 81;(with_reducible refine(TY (by assumption) (by assumption)).mono ?_);rintro e w1 ⟨rfl,hS⟩;have hr:=hS.r)|(go_at_call 80;(with_reducible refine(bE (by assumption)).mono ?_);rintro e w1 ⟨rfl,hS⟩;have hr:=hS.r))
   go_cut [57] (fun s57 wx=>s57= .bool false∧St w0 c wx m p)
   case first=>
    rcases HM5.out with ⟨g1,g2⟩|⟨g1,g2⟩
    ·have g3:at_ c.bs (run Uc c.bs q)=41:=by rw [←HB.out];exact g2
     have G1:=am (g1.trans HB.out)
     clear g1 g2
     go_wp2_with (first|(go_at_call 127;(with_reducible refine(YL (by assumption) g3).mono ?_);rintro e w1 ⟨rfl,hS⟩;have hr:=hS.r))
     go_meet
     refine⟨rfl,?_⟩
     rw [G1.out]
     assumption
    ·have g3:Ws (at_ c.bs (run Uc c.bs q)):=by rw [←HB.out];exact g2
     have G1:=am (show m=run Uc c.bs q+1 by rw [g1,HB.out])
     clear g1 g2
     go_wp2_with (first|(go_at_call 127;(with_reducible refine(YM (by assumption) g3).mono ?_);rintro e w1 ⟨rfl,hS⟩;have hr:=hS.r)|(go_at_call 81;(with_reducible refine(Oc (by assumption) g3).mono ?_);rintro e w1 ⟨rfl,hS⟩;have hr:=hS.r))
     go_meet
     refine⟨rfl,?_⟩
     rw [G1.out]
     assumption
   case rest=>
   clear hS hr
   obtain⟨rfl,hS⟩:=hcut
   have hr:=hS.r
   go_wp2_with (fail)
   go_loopg [] ((c.bs.length:Int) - m).toNat (fun k w' =>∃q:Int,Ri Ws c.bs m q k∧St w0 c w' q p)
   case atStart=>exact⟨_,Ri.start (by omega) (by omega),by assumption⟩
   case round=>
    clear hS hr
    obtain⟨q2,hR,hS⟩:=hrel
    have hr:=hS.r;have b0:=hS.dK;have b1:=hS.ei;have b2:=hS.dS;have b3:=hS.ej
    by_cases hn:Ws (at_ c.bs q2)
    ·have hm:=hS.more (by unfold Ws at hn;omega)
     have iV:=hR.step (by omega) hn
     have eh:=hR.lt (by omega)
     go_wp2_with (first|(go_at_call 81;(with_reducible refine(Oc (by assumption) (by assumption)).mono ?_);rintro e w1 ⟨rfl,hS⟩;have hr:=hS.r))
     go_roundg (((c.bs.length:Int) - (q2+1)).toNat)
     case measure=>exact eh
     case rel=>exact⟨_,iV,by assumption⟩
    ·have N5:q2=r:=by rw [YQ.out];exact hR.done hn
     clear hR
     subst N5
     go_upto_region 18 with (first|(go_at_call 81;(with_reducible refine(TY (by assumption) (by assumption)).mono ?_);rintro e w1 ⟨rfl,hS⟩;have hr:=hS.r))
     go_cut [73] (fun s73 wx=>s73= .bool false∧St w0 c wx (q2+1) p)
     case first=>
      have hSd:=hS.drew
      refine wp_region_any (by kernel_rfl) ?_
      change wpAny _ _ _ _ _ _ _ (World.drew _)
      refine wpAny_take (i:=0) (v:=.pointer (some ⟨c.gl,0,none⟩)) rfl (by kernel_rfl) (by kernel_rfl) (by kernel_rfl) (fun _ _ _ h=>h) (Or.inl ⟨by rfl,fun w=>by go_simp⟩) ?_
      refine wpAny_ready (rs:=[1]) (by kernel_rfl) (by simp) ?_
      refine AllReady.cons rfl (fun K hK=> ?_) AllReady.nil
      go_simp
      go_wp2_with (go_at_call 122;(with_reducible refine(Dc (by assumption) 41 (by decide) (by assumption)).mono ?_);rintro e w1 ⟨rfl,hS⟩;have hr:=hS.r)
      refine wpAny_take (i:=2) (v:=.bool false) rfl (by kernel_rfl) (by kernel_rfl) (by kernel_rfl) (fun _ _ _ h=>h) (Or.inl ⟨by rfl,fun w=>by go_simp⟩) ?_
      refine wpAny_take (i:=3) (v:=.bool false) rfl (by kernel_rfl) (by kernel_rfl) (by kernel_rfl) (fun _ _ _ h=>h) (Or.inl ⟨by rfl,fun w=>by go_simp⟩) ?_
      go_simp
      refine wpAny_take (i:=4) (v:=undef) rfl (by kernel_rfl) (by kernel_rfl) (by kernel_rfl) (fun _ _ _ h=>h) (Or.inr ⟨by rfl,rfl⟩) ?_
      refine wpAny_take (i:=5) (v:=undef) rfl (by kernel_rfl) (by kernel_rfl) (by kernel_rfl) (fun _ _ _ h=>h) (Or.inr ⟨by rfl,rfl⟩) ?_
      go_simp
      refine wpAny_take (i:=6) (v:=undef) rfl (by kernel_rfl) (by kernel_rfl) (by kernel_rfl) (fun _ _ _ h=>h) (Or.inr ⟨by rfl,rfl⟩) ?_
      refine wpAny_take (i:=7) (v:=undef) rfl (by kernel_rfl) (by kernel_rfl) (by kernel_rfl) (fun _ _ _ h=>h) (Or.inr ⟨by rfl,rfl⟩) ?_
      go_simp
      refine wpAny_take (i:=8) (v:=undef) rfl (by kernel_rfl) (by kernel_rfl) (by kernel_rfl) (fun _ _ _ h=>h) (Or.inr ⟨by rfl,rfl⟩) ?_
      refine wpAny_take (i:=9) (v:=undef) rfl (by kernel_rfl) (by kernel_rfl) (by kernel_rfl) (fun _ _ _ h=>h) (Or.inr ⟨by rfl,rfl⟩) ?_
      go_simp
      refine wpAny_take (i:=10) (v:=undef) rfl (by kernel_rfl) (by kernel_rfl) (by kernel_rfl) (fun _ _ _ h=>h) (Or.inr ⟨by rfl,rfl⟩) ?_
      go_simp
      refine wpAny_take (i:=11) (v:=.bool false) rfl (by kernel_rfl) (by kernel_rfl) (by kernel_rfl) (fun _ _ _ h=>h) (Or.inl ⟨by rfl,fun w=>by go_simp⟩) ?_
      refine wpAny_done (by kernel_rfl) ?_ _
      go_wp2_with (fail)
      go_meet
      exact⟨rfl,by assumption⟩
     case rest=>
     clear hS hr
     obtain⟨rfl,hS⟩:=hcut
     have hr:=hS.r
     go_wp2_with (fail)
     go_ret
     rw [HM4.out]
     exact⟨rfl,by assumption⟩
theorem Oj (h:St w0 c w p p) (h0:Ws (at_ c.bs p)):
  Calls Tryz.prog 63 #[.pointer (some ⟨c.gl,0,none⟩)] w fun e w' =>e= .returned (.tuple #[.int .u32 20,cut c p (run Ws c.bs p)])∧St w0 c w' (run Ws c.bs p) (run Ws c.bs p):=by
 have hr:=h.r;have b0:=h.dK;have b1:=h.ei;have b2:=h.dS;have b3:=h.ej
 have l2:=h.more (by unfold Ws at h0;omega)
 have rA:Ri Ws c.bs p (p+1) ((c.bs.length:Int) - (p+1)).toNat:=(Ri.start (by omega) (by omega)).step (by omega) h0
 have lt1:p<run Ws c.bs p:=by
  have:=fH (f:=Ws) (bs:=c.bs) (p:=p) (by omega) (by omega) h0
  have:=bL (f:=Ws) (bs:=c.bs) (p:=p+1)
  omega
 unfold Ws at h0
 rcases h0 with h0|h0|h0|h0|h0
 all_goals
  go_enter Tryz.func63,Tryz.ntmps63
  go_wp2_with (first|(go_at_call 80;(with_reducible refine(bE (by assumption)).mono ?_);rintro e w1 ⟨rfl,hS⟩;have hr:=hS.r)|(go_at_call 58;(with_reducible refine(move _ (by assumption) (by omega) (by omega)).mono ?_);rintro e w1 ⟨rfl,hS⟩;have hr:=hS.r))
  clear h0
  go_loopg [] ((c.bs.length:Int) - (p+1)).toNat (fun k w' =>∃q:Int,Ri Ws c.bs p q k∧St w0 c w' q p)
  case atStart=>exact⟨_,rA,by assumption⟩
  case round=>
   clear hS hr
   obtain⟨q,hR,hS⟩:=hrel
   have hr:=hS.r;have b0:=hS.dK;have b1:=hS.ei;have b2:=hS.dS;have b3:=hS.ej
   by_cases hn:Ws (at_ c.bs q)
   ·have hm:=hS.more (by unfold Ws at hn;omega)
    have iV:=hR.step (by omega) hn
    have eh:=hR.lt (by omega)
    go_wp2_with (first|(go_at_call 81;(with_reducible refine(Oc (by assumption) (by assumption)).mono ?_);rintro e w1 ⟨rfl,hS⟩;have hr:=hS.r))
    go_roundg (((c.bs.length:Int) - (q+1)).toNat)
    case measure=>exact eh
    case rel=>exact⟨_,iV,by assumption⟩
   ·have hq:=hR.done hn
    have hlq:p<q:=by omega
    have HQ:=am hq
    clear hq hR lt1
    go_wp2_with (first|(go_at_call 81;(with_reducible refine(TY (by assumption) (by assumption)).mono ?_);rintro e w1 ⟨rfl,hS⟩;have hr:=hS.r)|(go_at_call 82;(with_reducible refine(shift (by assumption) (by omega)).mono ?_);rintro e w1 ⟨rfl,hS⟩;have hr:=hS.r))
    go_ret2
    rw [←HQ.out]
    exact⟨rfl,by assumption⟩
theorem Df (h:St w0 c w p p) (h0:at_ c.bs p=58):
  Calls Tryz.prog 63 #[.pointer (some ⟨c.gl,0,none⟩)] w fun e w' =>e= .returned (.tuple #[.int .u32 23,cut c p (p+1)])∧St w0 c w' (p+1) (p+1):=by
 have hr:=h.r;have b0:=h.dK;have b1:=h.ei;have b2:=h.dS;have b3:=h.ej
 have l2:=h.more (by omega)
 go_enter Tryz.func63,Tryz.ntmps63
 go_wp2_with (first|(go_at_call 80;(with_reducible refine(bE (by assumption)).mono ?_);rintro e w1 ⟨rfl,hS⟩;have hr:=hS.r)|(go_at_call 58;(with_reducible refine(move _ (by assumption) (by omega) (by omega)).mono ?_);rintro e w1 ⟨rfl,hS⟩;have hr:=hS.r)|(go_at_call 82;(with_reducible refine(shift (by assumption) (by omega)).mono ?_);rintro e w1 ⟨rfl,hS⟩;have hr:=hS.r))
 go_ret2
 exact⟨rfl,by assumption⟩
theorem GY (h:St w0 c w p p) (h0:at_ c.bs p=59):
  Calls Tryz.prog 63 #[.pointer (some ⟨c.gl,0,none⟩)] w fun e w' =>e= .returned (.tuple #[.int .u32 24,cut c p (p+1)])∧St w0 c w' (p+1) (p+1):=by
 have hr:=h.r;have b0:=h.dK;have b1:=h.ei;have b2:=h.dS;have b3:=h.ej
 have l2:=h.more (by omega)
 go_enter Tryz.func63,Tryz.ntmps63
 go_wp2_with (first|(go_at_call 80;(with_reducible refine(bE (by assumption)).mono ?_);rintro e w1 ⟨rfl,hS⟩;have hr:=hS.r)|(go_at_call 58;(with_reducible refine(move _ (by assumption) (by omega) (by omega)).mono ?_);rintro e w1 ⟨rfl,hS⟩;have hr:=hS.r)|(go_at_call 82;(with_reducible refine(shift (by assumption) (by omega)).mono ?_);rintro e w1 ⟨rfl,hS⟩;have hr:=hS.r))
 go_ret2
 exact⟨rfl,by assumption⟩
theorem Dh (h:St w0 c w p p) (h0:at_ c.bs p=44):
  Calls Tryz.prog 63 #[.pointer (some ⟨c.gl,0,none⟩)] w fun e w' =>e= .returned (.tuple #[.int .u32 25,cut c p (p+1)])∧St w0 c w' (p+1) (p+1):=by
 have hr:=h.r;have b0:=h.dK;have b1:=h.ei;have b2:=h.dS;have b3:=h.ej
 have l2:=h.more (by omega)
 go_enter Tryz.func63,Tryz.ntmps63
 go_wp2_with (first|(go_at_call 80;(with_reducible refine(bE (by assumption)).mono ?_);rintro e w1 ⟨rfl,hS⟩;have hr:=hS.r)|(go_at_call 58;(with_reducible refine(move _ (by assumption) (by omega) (by omega)).mono ?_);rintro e w1 ⟨rfl,hS⟩;have hr:=hS.r)|(go_at_call 82;(with_reducible refine(shift (by assumption) (by omega)).mono ?_);rintro e w1 ⟨rfl,hS⟩;have hr:=hS.r))
 go_ret2
 exact⟨rfl,by assumption⟩
theorem xK (h:St w0 c w p p) (t:Int) (h0:Bk (at_ c.bs p) t):
  Calls Tryz.prog 63 #[.pointer (some ⟨c.gl,0,none⟩)] w fun e w' =>e= .returned (.tuple #[.int .u32 t,cut c p (p+1)])∧St w0 c w' (p+1) (p+1):=by
 have hr:=h.r;have b0:=h.dK;have b1:=h.ei;have b2:=h.dS;have b3:=h.ej
 have hb:=h0
 unfold Bk at hb
 rcases hb with ⟨hb,rfl⟩|⟨hb,rfl⟩|⟨hb,rfl⟩|⟨hb,rfl⟩|⟨hb,rfl⟩|⟨hb,rfl⟩
 all_goals
  have H0:=am h0
  clear h0
  go_enter Tryz.func63,Tryz.ntmps63
  go_wp2_with (first|(go_at_call 80;(with_reducible refine(bE (by assumption)).mono ?_);rintro e w1 ⟨rfl,hS⟩;have hr:=hS.r)|(go_at_call 83;(with_reducible refine(bracket (by assumption) _ H0.out).mono ?_);rintro e w1 ⟨rfl,hS⟩;have hr:=hS.r)|(go_at_call 82;(with_reducible refine(shift (by assumption) (by omega)).mono ?_);rintro e w1 ⟨rfl,hS⟩;have hr:=hS.r))
  go_ret2
  exact⟨rfl,by assumption⟩
theorem GZ (h:St w0 c w p p) (h0:at_ c.bs p=35) (h1:Nm (at_ c.bs (p+1))):
  Calls Tryz.prog 63 #[.pointer (some ⟨c.gl,0,none⟩)] w fun e w' =>e= .returned (.tuple #[.int .u32 4,cut c p (run Nm c.bs (p+1))])∧St w0 c w' (run Nm c.bs (p+1)) (run Nm c.bs (p+1)):=by
 have hr:=h.r;have b0:=h.dK;have b1:=h.ei;have b2:=h.dS;have b3:=h.ej
 have lg:=bL (f:=Nm) (bs:=c.bs) (p:=p+1)
 go_enter Tryz.func63,Tryz.ntmps63
 go_wp2_with (first|(go_at_call 80;(with_reducible refine(bE (by assumption)).mono ?_);rintro e w1 ⟨rfl,hS⟩;have hr:=hS.r)|(go_at_call 58;(with_reducible refine(move _ (by assumption) (by omega) (by omega)).mono ?_);rintro e w1 ⟨rfl,hS⟩;have hr:=hS.r)|(go_at_call 82;(with_reducible refine(shift (by assumption) (by omega)).mono ?_);rintro e w1 ⟨rfl,hS⟩;have hr:=hS.r)|(go_at_call 84;(with_reducible refine(hash (by assumption) (by assumption) (by assumption)).mono ?_);rintro e w1 ⟨rfl,hS⟩;have hr:=hS.r))
 go_ret2
 exact⟨rfl,by assumption⟩
theorem AG (h:St w0 c w p p) {r:Int} (h0:at_ c.bs p=34∨at_ c.bs p=39) (h1:p+1≤r) (h2:r+1<c.bs.length) (ha:∀i,p+1≤i→i<r→Sc (at_ c.bs p) (at_ c.bs i)) (h3:at_ c.bs r=at_ c.bs p):
  Calls Tryz.prog 63 #[.pointer (some ⟨c.gl,0,none⟩)] w fun e w' =>e= .returned (.tuple #[.int .u32 5,cut c p (r+1)])∧St w0 c w' (r+1) (r+1):=by
 have hr:=h.r;have b0:=h.dK;have b1:=h.ei;have b2:=h.dS;have b3:=h.ej
 have HS:=fun (w1:World) (k:St w0 c w1 p p)=>Kg k h0 h1 h2 ha h3
 have HS:=am HS
 clear ha h3
 rcases h0 with h0|h0
 all_goals
  go_enter Tryz.func63,Tryz.ntmps63
  go_wp2_with (first|(go_at_call 80;(with_reducible refine(bE (by assumption)).mono ?_);rintro e w1 ⟨rfl,hS⟩;have hr:=hS.r)|(go_at_call 85;(with_reducible refine(HS.out _ (by assumption)).mono ?_);rintro e w1 ⟨rfl,hS⟩;have hr:=hS.r)|(go_at_call 82;(with_reducible refine(shift (by assumption) (by omega)).mono ?_);rintro e w1 ⟨rfl,hS⟩;have hr:=hS.r))
  go_ret2
  exact⟨rfl,by assumption⟩
theorem Ok (h:St w0 c w p p) (h0:at_ c.bs p=64) (h1:lr c.bs (p+1)):
  Calls Tryz.prog 63 #[.pointer (some ⟨c.gl,0,none⟩)] w fun e w' =>e= .returned (.tuple #[.int .u32 3,cut c p (run Nm c.bs (p+1))])∧St w0 c w' (run Nm c.bs (p+1)) (run Nm c.bs (p+1)):=by
 have hr:=h.r;have b0:=h.dK;have b1:=h.ei;have b2:=h.dS;have b3:=h.ej
 have lg:=bL (f:=Nm) (bs:=c.bs) (p:=p+1)
 go_enter Tryz.func63,Tryz.ntmps63
 go_wp2_with (first|(go_at_call 80;(with_reducible refine(bE (by assumption)).mono ?_);rintro e w1 ⟨rfl,hS⟩;have hr:=hS.r)|(go_at_call 58;(with_reducible refine(move _ (by assumption) (by omega) (by omega)).mono ?_);rintro e w1 ⟨rfl,hS⟩;have hr:=hS.r)|(go_at_call 82;(with_reducible refine(shift (by assumption) (by omega)).mono ?_);rintro e w1 ⟨rfl,hS⟩;have hr:=hS.r)|(go_at_call 90;(with_reducible refine(T1 (by assumption) (by assumption) (by assumption)).mono ?_);rintro e w1 ⟨rfl,hS⟩;have hr:=hS.r))
 go_ret2
 exact⟨rfl,by assumption⟩
theorem Di (h:St w0 c w p p) (t:Int) (h0:Mt (at_ c.bs p) t) (h1:at_ c.bs (p+1)=61):
  Calls Tryz.prog 63 #[.pointer (some ⟨c.gl,0,none⟩)] w fun e w' =>e= .returned (.tuple #[.int .u32 t,cut c p (p+2)])∧St w0 c w' (p+2) (p+2):=by
 have hr:=h.r;have b0:=h.dK;have b1:=h.ei;have b2:=h.dS;have b3:=h.ej
 have hb:=h0
 unfold Mt at hb
 have H1:=am h1
 clear h1
 rcases hb with ⟨hb,rfl⟩|⟨hb,rfl⟩|⟨hb,rfl⟩|⟨hb,rfl⟩|⟨hb,rfl⟩
 all_goals
  have H0:=am h0
  clear h0
  go_enter Tryz.func63,Tryz.ntmps63
  go_wp2_with (first|(go_at_call 80;(with_reducible refine(bE (by assumption)).mono ?_);rintro e w1 ⟨rfl,hS⟩;have hr:=hS.r)|(go_at_call 91;(with_reducible refine(Od (by assumption) _ H0.out H1.out).mono ?_);rintro e w1 ⟨rfl,hS⟩;have hr:=hS.r)|(go_at_call 82;(with_reducible refine(shift (by assumption) (by omega)).mono ?_);rintro e w1 ⟨rfl,hS⟩;have hr:=hS.r))
  go_ret2
  exact⟨rfl,by assumption⟩
theorem G0 (h:St w0 c w p p) (h0:at_ c.bs p=42∨at_ c.bs p=126) (h1:(at_ c.bs (p+1)==61)=false):
  Calls Tryz.prog 63 #[.pointer (some ⟨c.gl,0,none⟩)] w fun e w' =>e= .returned (.tuple #[.int .u32 9,cut c p (p+1)])∧St w0 c w' (p+1) (p+1):=by
 have hr:=h.r;have b0:=h.dK;have b1:=h.ei;have b2:=h.dS;have b3:=h.ej
 have l2:=h.more (by omega)
 have hz:at_ c.bs p≠0:=by omega
 have HZ:=am hz
 clear hz
 rcases h0 with h0|h0
 all_goals
  go_enter Tryz.func63,Tryz.ntmps63
  go_wp2_with (first|(go_at_call 80;(with_reducible refine(bE (by assumption)).mono ?_);rintro e w1 ⟨rfl,hS⟩;have hr:=hS.r)|(go_at_call 91;(with_reducible refine(Oe (by assumption) HZ.out (by assumption)).mono ?_);rintro e w1 ⟨rfl,hS⟩;have hr:=hS.r)|(go_at_call 58;(with_reducible refine(move _ (by assumption) (by omega) (by omega)).mono ?_);rintro e w1 ⟨rfl,hS⟩;have hr:=hS.r)|(go_at_call 82;(with_reducible refine(shift (by assumption) (by omega)).mono ?_);rintro e w1 ⟨rfl,hS⟩;have hr:=hS.r))
  go_ret2
  exact⟨rfl,by assumption⟩
theorem Km (h:St w0 c w p p) (h0:at_ c.bs p=46∨at_ c.bs p=43) (h1:mm c.bs p):
  Calls Tryz.prog 63 #[.pointer (some ⟨c.gl,0,none⟩)] w fun e w' =>e= .returned (.tuple #[.int .u32 9,cut c p (p+1)])∧St w0 c w' (p+1) (p+1):=by
 have hr:=h.r;have b0:=h.dK;have b1:=h.ei;have b2:=h.dS;have b3:=h.ej
 have l2:=h.more (by omega)
 rcases h0 with h0|h0
 all_goals
  go_enter Tryz.func63,Tryz.ntmps63
  go_wp2_with (first|(go_at_call 80;(with_reducible refine(bE (by assumption)).mono ?_);rintro e w1 ⟨rfl,hS⟩;have hr:=hS.r)|(go_at_call 86;(with_reducible refine(kW (by assumption) (by assumption)).mono ?_);rintro e w1 ⟨rfl,hS⟩;have hr:=hS.r)|(go_at_call 58;(with_reducible refine(move _ (by assumption) (by omega) (by omega)).mono ?_);rintro e w1 ⟨rfl,hS⟩;have hr:=hS.r)|(go_at_call 82;(with_reducible refine(shift (by assumption) (by omega)).mono ?_);rintro e w1 ⟨rfl,hS⟩;have hr:=hS.r))
  go_ret2
  exact⟨rfl,by assumption⟩
theorem Ol (h:St w0 c w p p) (h0:at_ c.bs p=62∨at_ c.bs p=61) (h1:mm c.bs p) (h2:fu c.bs p):
  Calls Tryz.prog 63 #[.pointer (some ⟨c.gl,0,none⟩)] w fun e w' =>e= .returned (.tuple #[.int .u32 9,cut c p (p+1)])∧St w0 c w' (p+1) (p+1):=by
 have hr:=h.r;have b0:=h.dK;have b1:=h.ei;have b2:=h.dS;have b3:=h.ej
 have l2:=h.more (by omega)
 rcases h0 with h0|h0
 all_goals
  go_enter Tryz.func63,Tryz.ntmps63
  go_wp2_with (first|(go_at_call 80;(with_reducible refine(bE (by assumption)).mono ?_);rintro e w1 ⟨rfl,hS⟩;have hr:=hS.r)|(go_at_call 86;(with_reducible refine(kW (by assumption) (by assumption)).mono ?_);rintro e w1 ⟨rfl,hS⟩;have hr:=hS.r)|(go_at_call 89;(with_reducible refine(rR (by assumption) (by assumption)).mono ?_);rintro e w1 ⟨rfl,hS⟩;have hr:=hS.r)|(go_at_call 58;(with_reducible refine(move _ (by assumption) (by omega) (by omega)).mono ?_);rintro e w1 ⟨rfl,hS⟩;have hr:=hS.r)|(go_at_call 82;(with_reducible refine(shift (by assumption) (by omega)).mono ?_);rintro e w1 ⟨rfl,hS⟩;have hr:=hS.r))
  go_ret2
  exact⟨rfl,by assumption⟩
def Plain (b:Int):Prop:=(b==32)=false∧(b==9)=false∧(b==10)=false∧(b==13)=false∧(b==12)=false∧(b==58)=false∧(b==59)=false∧(b==44)=false∧(b==40)=false∧(b==41)=false∧(b==91)=false∧(b==93)=false∧(b==123)=false∧(b==125)=false∧(b==35)=false∧(b==34)=false∧(b==39)=false∧(b==46)=false∧(b==43)=false∧(b==45)=false∧(b==64)=false∧(b==36)=false∧(b==42)=false∧(b==94)=false∧(b==126)=false∧(b==47)=false∧(b==60)=false∧(b==92)=false∧(b==117)=false∧(b==85)=false∧(b==124)=false∧(b==0)=false
theorem tr {b:Int} (h:Dg b):Plain b:=by
 unfold Dg at h
 unfold Plain
 refine⟨?_,?_,?_,?_,?_,?_,?_,?_,?_,?_,?_,?_,?_,?_,?_,?_,?_,?_,?_,?_,?_,?_,?_,?_,?_,?_,?_,?_,?_,?_,?_,?_⟩<;>(simp only [beq_eq_false_iff_ne];omega)
theorem tu {b:Int} (h:Sn b) (h1:b≠117) (h2:b≠85):Plain b:=by
 unfold Sn at h
 unfold Plain
 refine⟨?_,?_,?_,?_,?_,?_,?_,?_,?_,?_,?_,?_,?_,?_,?_,?_,?_,?_,?_,?_,?_,?_,?_,?_,?_,?_,?_,?_,?_,?_,?_,?_⟩<;>(simp only [beq_eq_false_iff_ne];omega)
variable {q:Int}
theorem ig (h:pD c.bs p q) (h0:0≤p):p<q:=by
 obtain⟨q0,q1,q2,b,fd,GX,JS,AA,hex⟩:=h
 have c0:p≤q0:=by rcases GX with ⟨_,_,rfl⟩|⟨_,_,rfl⟩|⟨_,_,_,rfl⟩<;>omega
 have c1:q0≤q1∧(fd=true→q0<q1):=by
  rcases JS with ⟨_,hd,rfl⟩|⟨rfl,_,rfl⟩
  ·have hl:q0<c.bs.length:=by
    rcases Int.lt_or_le q0 c.bs.length with hl|hl
    ·exact hl
    ·exfalso
     unfold at_ Dg at hd
     rw [List.getD_eq_getElem?_getD,List.getElem?_eq_none (by omega)] at hd
     simp at hd
   have h1:=fH (f:=Dg) (bs:=c.bs) (p:=q0) (by omega) hl hd
   have h2:=bL (f:=Dg) (bs:=c.bs) (p:=q0+1)
   exact⟨by omega,fun _=>by omega⟩
  ·exact⟨Int.le_refl _,fun h=>by cases h⟩
 obtain⟨eZ,kJ⟩:=c1
 have c2:q1≤q2∧(q1<q2∨fd=true):=by
  rcases AA with ⟨_,_,rfl⟩|⟨_,_,hf,rfl⟩|⟨_,hf,rfl⟩
  ·have h2:=bL (f:=Dg) (bs:=c.bs) (p:=q1+1)
   exact⟨by omega,.inl (by omega)⟩
  ·exact⟨Int.le_refl _,.inr hf⟩
  ·exact⟨Int.le_refl _,.inr hf⟩
 have c3:q2≤q:=by
  rcases hex with ⟨_,_,rfl⟩|⟨_,q3,b2,YR,⟨_,rfl⟩|⟨_,rfl⟩⟩
  ·exact Int.le_refl _
  ·have h2:=bL (f:=Dg) (bs:=c.bs) (p:=q3)
   rcases YR with ⟨_,_,rfl⟩|⟨_,_,rfl⟩|⟨_,_,_,rfl⟩<;>omega
  ·exact Int.le_refl _
 obtain⟨pq,ov⟩:=c2
 rcases ov with ov|ov
 ·omega
 ·have:=kJ ov;omega
theorem Dj (h:St w0 c w p p) (h0:Dg (at_ c.bs p)) (hq:pD c.bs p q) (h1:(at_ c.bs q==37)=true):
  Calls Tryz.prog 63 #[.pointer (some ⟨c.gl,0,none⟩)] w fun e w' =>e= .returned (.tuple #[.int .u32 11,cut c p (q+1)])∧St w0 c w' (q+1) (q+1):=by
 have hr:=h.r;have b0:=h.dK;have b1:=h.ei;have b2:=h.dS;have b3:=h.ej
 have lq:=ig hq (by omega)
 have lg:=bL (f:=Nm) (bs:=c.bs) (p:=q)
 obtain⟨y0,y1,y2,y3,y4,y5,y6,y7,y8,y9,YS,YT,YU,YV,YW,YX,YY,YZ,Y0,Y1,Y2,Y3,Y4,Y5,Y6,Y7,Y8,Y9,Za,Zb,Zc,Zd⟩:=tr h0
 go_enter Tryz.func63,Tryz.ntmps63
 go_wp2_with (first|(go_at_call 80;(with_reducible refine(bE (by assumption)).mono ?_);rintro e w1 ⟨rfl,hS⟩;have hr:=hS.r)|(go_at_call 58;(with_reducible refine(move _ (by assumption) (by omega) (by omega)).mono ?_);rintro e w1 ⟨rfl,hS⟩;have hr:=hS.r)|(go_at_call 82;(with_reducible refine(shift (by assumption) (by omega)).mono ?_);rintro e w1 ⟨rfl,hS⟩;have hr:=hS.r)|(go_at_call 86;(with_reducible refine(nX (by assumption) (by assumption) (by assumption)).mono ?_);rintro e w1 ⟨rfl,hS⟩;have hr:=hS.r))
 go_ret2
 exact⟨rfl,by assumption⟩
theorem Dk (h:St w0 c w p p) (h0:at_ c.bs p=46) (hq:pD c.bs p q) (h1:(at_ c.bs q==37)=true):
  Calls Tryz.prog 63 #[.pointer (some ⟨c.gl,0,none⟩)] w fun e w' =>e= .returned (.tuple #[.int .u32 11,cut c p (q+1)])∧St w0 c w' (q+1) (q+1):=by
 have hr:=h.r;have b0:=h.dK;have b1:=h.ei;have b2:=h.dS;have b3:=h.ej
 have lq:=ig hq (by omega)
 have lg:=bL (f:=Nm) (bs:=c.bs) (p:=q)
 go_enter Tryz.func63,Tryz.ntmps63
 go_wp2_with (first|(go_at_call 80;(with_reducible refine(bE (by assumption)).mono ?_);rintro e w1 ⟨rfl,hS⟩;have hr:=hS.r)|(go_at_call 58;(with_reducible refine(move _ (by assumption) (by omega) (by omega)).mono ?_);rintro e w1 ⟨rfl,hS⟩;have hr:=hS.r)|(go_at_call 82;(with_reducible refine(shift (by assumption) (by omega)).mono ?_);rintro e w1 ⟨rfl,hS⟩;have hr:=hS.r)|(go_at_call 86;(with_reducible refine(nX (by assumption) (by assumption) (by assumption)).mono ?_);rintro e w1 ⟨rfl,hS⟩;have hr:=hS.r))
 go_ret2
 exact⟨rfl,by assumption⟩
theorem AH (h:St w0 c w p p) (h0:at_ c.bs p=43) (hq:pD c.bs p q) (h1:(at_ c.bs q==37)=true):
  Calls Tryz.prog 63 #[.pointer (some ⟨c.gl,0,none⟩)] w fun e w' =>e= .returned (.tuple #[.int .u32 11,cut c p (q+1)])∧St w0 c w' (q+1) (q+1):=by
 have hr:=h.r;have b0:=h.dK;have b1:=h.ei;have b2:=h.dS;have b3:=h.ej
 have lq:=ig hq (by omega)
 have lg:=bL (f:=Nm) (bs:=c.bs) (p:=q)
 go_enter Tryz.func63,Tryz.ntmps63
 go_wp2_with (first|(go_at_call 80;(with_reducible refine(bE (by assumption)).mono ?_);rintro e w1 ⟨rfl,hS⟩;have hr:=hS.r)|(go_at_call 58;(with_reducible refine(move _ (by assumption) (by omega) (by omega)).mono ?_);rintro e w1 ⟨rfl,hS⟩;have hr:=hS.r)|(go_at_call 82;(with_reducible refine(shift (by assumption) (by omega)).mono ?_);rintro e w1 ⟨rfl,hS⟩;have hr:=hS.r)|(go_at_call 86;(with_reducible refine(nX (by assumption) (by assumption) (by assumption)).mono ?_);rintro e w1 ⟨rfl,hS⟩;have hr:=hS.r))
 go_ret2
 exact⟨rfl,by assumption⟩
theorem Dl (h:St w0 c w p p) (h0:at_ c.bs p=45) (hq:pD c.bs p q) (h3:fu c.bs p) (h4:(at_ c.bs (p+1)==45)=false) (h1:(at_ c.bs q==37)=true):
  Calls Tryz.prog 63 #[.pointer (some ⟨c.gl,0,none⟩)] w fun e w' =>e= .returned (.tuple #[.int .u32 11,cut c p (q+1)])∧St w0 c w' (q+1) (q+1):=by
 have hr:=h.r;have b0:=h.dK;have b1:=h.ei;have b2:=h.dS;have b3:=h.ej
 have lq:=ig hq (by omega)
 have lg:=bL (f:=Nm) (bs:=c.bs) (p:=q)
 go_enter Tryz.func63,Tryz.ntmps63
 go_wp2_with (first|(go_at_call 80;(with_reducible refine(bE (by assumption)).mono ?_);rintro e w1 ⟨rfl,hS⟩;have hr:=hS.r)|(go_at_call 58;(with_reducible refine(move _ (by assumption) (by omega) (by omega)).mono ?_);rintro e w1 ⟨rfl,hS⟩;have hr:=hS.r)|(go_at_call 82;(with_reducible refine(shift (by assumption) (by omega)).mono ?_);rintro e w1 ⟨rfl,hS⟩;have hr:=hS.r)|(go_at_call 87;(with_reducible refine(Az (by assumption) (by assumption) (by assumption)).mono ?_);rintro e w1 ⟨rfl,hS⟩;have hr:=hS.r)|(go_at_call 88;(with_reducible refine(nf (by assumption) (by assumption) (by assumption)).mono ?_);rintro e w1 ⟨rfl,hS⟩;have hr:=hS.r)|(go_at_call 89;(with_reducible refine(rR (by assumption) h3).mono ?_);rintro e w1 ⟨rfl,hS⟩;have hr:=hS.r)|(go_at_call 86;(with_reducible refine(nX (by assumption) (by assumption) (by assumption)).mono ?_);rintro e w1 ⟨rfl,hS⟩;have hr:=hS.r))
 go_ret2
 exact⟨rfl,by assumption⟩
theorem Dm (h:St w0 c w p p) (h0:Dg (at_ c.bs p)) (hq:pD c.bs p q) (h1:(at_ c.bs q==37)=false) (h2:lr c.bs q):
  Calls Tryz.prog 63 #[.pointer (some ⟨c.gl,0,none⟩)] w fun e w' =>e= .returned (.tuple #[.int .u32 12,cut c p (run Nm c.bs q)])∧St w0 c w' (run Nm c.bs q) (run Nm c.bs q):=by
 have hr:=h.r;have b0:=h.dK;have b1:=h.ei;have b2:=h.dS;have b3:=h.ej
 have lq:=ig hq (by omega)
 have lg:=bL (f:=Nm) (bs:=c.bs) (p:=q)
 obtain⟨y0,y1,y2,y3,y4,y5,y6,y7,y8,y9,YS,YT,YU,YV,YW,YX,YY,YZ,Y0,Y1,Y2,Y3,Y4,Y5,Y6,Y7,Y8,Y9,Za,Zb,Zc,Zd⟩:=tr h0
 go_enter Tryz.func63,Tryz.ntmps63
 go_wp2_with (first|(go_at_call 80;(with_reducible refine(bE (by assumption)).mono ?_);rintro e w1 ⟨rfl,hS⟩;have hr:=hS.r)|(go_at_call 58;(with_reducible refine(move _ (by assumption) (by omega) (by omega)).mono ?_);rintro e w1 ⟨rfl,hS⟩;have hr:=hS.r)|(go_at_call 82;(with_reducible refine(shift (by assumption) (by omega)).mono ?_);rintro e w1 ⟨rfl,hS⟩;have hr:=hS.r)|(go_at_call 86;(with_reducible refine(nY (by assumption) (by assumption) (by assumption) (by assumption)).mono ?_);rintro e w1 ⟨rfl,hS⟩;have hr:=hS.r))
 go_ret2
 exact⟨rfl,by assumption⟩
theorem Dn (h:St w0 c w p p) (h0:at_ c.bs p=46) (hq:pD c.bs p q) (h1:(at_ c.bs q==37)=false) (h2:lr c.bs q):
  Calls Tryz.prog 63 #[.pointer (some ⟨c.gl,0,none⟩)] w fun e w' =>e= .returned (.tuple #[.int .u32 12,cut c p (run Nm c.bs q)])∧St w0 c w' (run Nm c.bs q) (run Nm c.bs q):=by
 have hr:=h.r;have b0:=h.dK;have b1:=h.ei;have b2:=h.dS;have b3:=h.ej
 have lq:=ig hq (by omega)
 have lg:=bL (f:=Nm) (bs:=c.bs) (p:=q)
 go_enter Tryz.func63,Tryz.ntmps63
 go_wp2_with (first|(go_at_call 80;(with_reducible refine(bE (by assumption)).mono ?_);rintro e w1 ⟨rfl,hS⟩;have hr:=hS.r)|(go_at_call 58;(with_reducible refine(move _ (by assumption) (by omega) (by omega)).mono ?_);rintro e w1 ⟨rfl,hS⟩;have hr:=hS.r)|(go_at_call 82;(with_reducible refine(shift (by assumption) (by omega)).mono ?_);rintro e w1 ⟨rfl,hS⟩;have hr:=hS.r)|(go_at_call 86;(with_reducible refine(nY (by assumption) (by assumption) (by assumption) (by assumption)).mono ?_);rintro e w1 ⟨rfl,hS⟩;have hr:=hS.r))
 go_ret2
 exact⟨rfl,by assumption⟩
theorem AJ (h:St w0 c w p p) (h0:at_ c.bs p=43) (hq:pD c.bs p q) (h1:(at_ c.bs q==37)=false) (h2:lr c.bs q):
  Calls Tryz.prog 63 #[.pointer (some ⟨c.gl,0,none⟩)] w fun e w' =>e= .returned (.tuple #[.int .u32 12,cut c p (run Nm c.bs q)])∧St w0 c w' (run Nm c.bs q) (run Nm c.bs q):=by
 have hr:=h.r;have b0:=h.dK;have b1:=h.ei;have b2:=h.dS;have b3:=h.ej
 have lq:=ig hq (by omega)
 have lg:=bL (f:=Nm) (bs:=c.bs) (p:=q)
 go_enter Tryz.func63,Tryz.ntmps63
 go_wp2_with (first|(go_at_call 80;(with_reducible refine(bE (by assumption)).mono ?_);rintro e w1 ⟨rfl,hS⟩;have hr:=hS.r)|(go_at_call 58;(with_reducible refine(move _ (by assumption) (by omega) (by omega)).mono ?_);rintro e w1 ⟨rfl,hS⟩;have hr:=hS.r)|(go_at_call 82;(with_reducible refine(shift (by assumption) (by omega)).mono ?_);rintro e w1 ⟨rfl,hS⟩;have hr:=hS.r)|(go_at_call 86;(with_reducible refine(nY (by assumption) (by assumption) (by assumption) (by assumption)).mono ?_);rintro e w1 ⟨rfl,hS⟩;have hr:=hS.r))
 go_ret2
 exact⟨rfl,by assumption⟩
theorem Dp (h:St w0 c w p p) (h0:at_ c.bs p=45) (hq:pD c.bs p q) (h3:fu c.bs p) (h4:(at_ c.bs (p+1)==45)=false) (h1:(at_ c.bs q==37)=false) (h2:lr c.bs q):
  Calls Tryz.prog 63 #[.pointer (some ⟨c.gl,0,none⟩)] w fun e w' =>e= .returned (.tuple #[.int .u32 12,cut c p (run Nm c.bs q)])∧St w0 c w' (run Nm c.bs q) (run Nm c.bs q):=by
 have hr:=h.r;have b0:=h.dK;have b1:=h.ei;have b2:=h.dS;have b3:=h.ej
 have lq:=ig hq (by omega)
 have lg:=bL (f:=Nm) (bs:=c.bs) (p:=q)
 go_enter Tryz.func63,Tryz.ntmps63
 go_wp2_with (first|(go_at_call 80;(with_reducible refine(bE (by assumption)).mono ?_);rintro e w1 ⟨rfl,hS⟩;have hr:=hS.r)|(go_at_call 58;(with_reducible refine(move _ (by assumption) (by omega) (by omega)).mono ?_);rintro e w1 ⟨rfl,hS⟩;have hr:=hS.r)|(go_at_call 82;(with_reducible refine(shift (by assumption) (by omega)).mono ?_);rintro e w1 ⟨rfl,hS⟩;have hr:=hS.r)|(go_at_call 87;(with_reducible refine(Az (by assumption) (by assumption) (by assumption)).mono ?_);rintro e w1 ⟨rfl,hS⟩;have hr:=hS.r)|(go_at_call 88;(with_reducible refine(nf (by assumption) (by assumption) (by assumption)).mono ?_);rintro e w1 ⟨rfl,hS⟩;have hr:=hS.r)|(go_at_call 89;(with_reducible refine(rR (by assumption) h3).mono ?_);rintro e w1 ⟨rfl,hS⟩;have hr:=hS.r)|(go_at_call 86;(with_reducible refine(nY (by assumption) (by assumption) (by assumption) (by assumption)).mono ?_);rintro e w1 ⟨rfl,hS⟩;have hr:=hS.r))
 go_ret2
 exact⟨rfl,by assumption⟩
theorem Dq (h:St w0 c w p p) (h0:Dg (at_ c.bs p)) (hq:pD c.bs p q) (h1:(at_ c.bs q==37)=false) (h2:fu c.bs q):
  Calls Tryz.prog 63 #[.pointer (some ⟨c.gl,0,none⟩)] w fun e w' =>e= .returned (.tuple #[.int .u32 10,cut c p q])∧St w0 c w' q q:=by
 have hr:=h.r;have b0:=h.dK;have b1:=h.ei;have b2:=h.dS;have b3:=h.ej
 have lq:=ig hq (by omega)
 have lg:=bL (f:=Nm) (bs:=c.bs) (p:=q)
 obtain⟨y0,y1,y2,y3,y4,y5,y6,y7,y8,y9,YS,YT,YU,YV,YW,YX,YY,YZ,Y0,Y1,Y2,Y3,Y4,Y5,Y6,Y7,Y8,Y9,Za,Zb,Zc,Zd⟩:=tr h0
 go_enter Tryz.func63,Tryz.ntmps63
 go_wp2_with (first|(go_at_call 80;(with_reducible refine(bE (by assumption)).mono ?_);rintro e w1 ⟨rfl,hS⟩;have hr:=hS.r)|(go_at_call 58;(with_reducible refine(move _ (by assumption) (by omega) (by omega)).mono ?_);rintro e w1 ⟨rfl,hS⟩;have hr:=hS.r)|(go_at_call 82;(with_reducible refine(shift (by assumption) (by omega)).mono ?_);rintro e w1 ⟨rfl,hS⟩;have hr:=hS.r)|(go_at_call 86;(with_reducible refine(nZ (by assumption) (by assumption) (by assumption) (by assumption)).mono ?_);rintro e w1 ⟨rfl,hS⟩;have hr:=hS.r))
 go_ret2
 exact⟨rfl,by assumption⟩
theorem Dr (h:St w0 c w p p) (h0:at_ c.bs p=46) (hq:pD c.bs p q) (h1:(at_ c.bs q==37)=false) (h2:fu c.bs q):
  Calls Tryz.prog 63 #[.pointer (some ⟨c.gl,0,none⟩)] w fun e w' =>e= .returned (.tuple #[.int .u32 10,cut c p q])∧St w0 c w' q q:=by
 have hr:=h.r;have b0:=h.dK;have b1:=h.ei;have b2:=h.dS;have b3:=h.ej
 have lq:=ig hq (by omega)
 have lg:=bL (f:=Nm) (bs:=c.bs) (p:=q)
 go_enter Tryz.func63,Tryz.ntmps63
 go_wp2_with (first|(go_at_call 80;(with_reducible refine(bE (by assumption)).mono ?_);rintro e w1 ⟨rfl,hS⟩;have hr:=hS.r)|(go_at_call 58;(with_reducible refine(move _ (by assumption) (by omega) (by omega)).mono ?_);rintro e w1 ⟨rfl,hS⟩;have hr:=hS.r)|(go_at_call 82;(with_reducible refine(shift (by assumption) (by omega)).mono ?_);rintro e w1 ⟨rfl,hS⟩;have hr:=hS.r)|(go_at_call 86;(with_reducible refine(nZ (by assumption) (by assumption) (by assumption) (by assumption)).mono ?_);rintro e w1 ⟨rfl,hS⟩;have hr:=hS.r))
 go_ret2
 exact⟨rfl,by assumption⟩
theorem AK (h:St w0 c w p p) (h0:at_ c.bs p=43) (hq:pD c.bs p q) (h1:(at_ c.bs q==37)=false) (h2:fu c.bs q):
  Calls Tryz.prog 63 #[.pointer (some ⟨c.gl,0,none⟩)] w fun e w' =>e= .returned (.tuple #[.int .u32 10,cut c p q])∧St w0 c w' q q:=by
 have hr:=h.r;have b0:=h.dK;have b1:=h.ei;have b2:=h.dS;have b3:=h.ej
 have lq:=ig hq (by omega)
 have lg:=bL (f:=Nm) (bs:=c.bs) (p:=q)
 go_enter Tryz.func63,Tryz.ntmps63
 go_wp2_with (first|(go_at_call 80;(with_reducible refine(bE (by assumption)).mono ?_);rintro e w1 ⟨rfl,hS⟩;have hr:=hS.r)|(go_at_call 58;(with_reducible refine(move _ (by assumption) (by omega) (by omega)).mono ?_);rintro e w1 ⟨rfl,hS⟩;have hr:=hS.r)|(go_at_call 82;(with_reducible refine(shift (by assumption) (by omega)).mono ?_);rintro e w1 ⟨rfl,hS⟩;have hr:=hS.r)|(go_at_call 86;(with_reducible refine(nZ (by assumption) (by assumption) (by assumption) (by assumption)).mono ?_);rintro e w1 ⟨rfl,hS⟩;have hr:=hS.r))
 go_ret2
 exact⟨rfl,by assumption⟩
theorem Ds (h:St w0 c w p p) (h0:at_ c.bs p=45) (hq:pD c.bs p q) (h3:fu c.bs p) (h4:(at_ c.bs (p+1)==45)=false) (h1:(at_ c.bs q==37)=false) (h2:fu c.bs q):
  Calls Tryz.prog 63 #[.pointer (some ⟨c.gl,0,none⟩)] w fun e w' =>e= .returned (.tuple #[.int .u32 10,cut c p q])∧St w0 c w' q q:=by
 have hr:=h.r;have b0:=h.dK;have b1:=h.ei;have b2:=h.dS;have b3:=h.ej
 have lq:=ig hq (by omega)
 have lg:=bL (f:=Nm) (bs:=c.bs) (p:=q)
 go_enter Tryz.func63,Tryz.ntmps63
 go_wp2_with (first|(go_at_call 80;(with_reducible refine(bE (by assumption)).mono ?_);rintro e w1 ⟨rfl,hS⟩;have hr:=hS.r)|(go_at_call 58;(with_reducible refine(move _ (by assumption) (by omega) (by omega)).mono ?_);rintro e w1 ⟨rfl,hS⟩;have hr:=hS.r)|(go_at_call 82;(with_reducible refine(shift (by assumption) (by omega)).mono ?_);rintro e w1 ⟨rfl,hS⟩;have hr:=hS.r)|(go_at_call 87;(with_reducible refine(Az (by assumption) (by assumption) (by assumption)).mono ?_);rintro e w1 ⟨rfl,hS⟩;have hr:=hS.r)|(go_at_call 88;(with_reducible refine(nf (by assumption) (by assumption) (by assumption)).mono ?_);rintro e w1 ⟨rfl,hS⟩;have hr:=hS.r)|(go_at_call 89;(with_reducible refine(rR (by assumption) h3).mono ?_);rintro e w1 ⟨rfl,hS⟩;have hr:=hS.r)|(go_at_call 86;(with_reducible refine(nZ (by assumption) (by assumption) (by assumption) (by assumption)).mono ?_);rintro e w1 ⟨rfl,hS⟩;have hr:=hS.r))
 go_ret2
 exact⟨rfl,by assumption⟩
end Go.Proofs.YtlglijnaeaonpaaGreatDoor.Lx
end
section
set_option maxHeartbeats 8000000
set_option maxRecDepth 100000
set_option linter.unusedVariables false
set_option linter.unusedSimpArgs false
namespace Go.Proofs.YtlglijnaeaonpaaGreatDoor.Lx
open Go.RowKit Go.Proofs.YtlglijnaeaonpaaGreatDoorW.aC
variable {w0 w:World} {c:lQ} {p s:Int}
variable {q:Int}
theorem Dt (h:St w0 c w p p) (hI:lr c.bs p) (h0:Sn (at_ c.bs p)) (Ij:at_ c.bs p≠117) (Fs:at_ c.bs p≠85) (h1:(at_ c.bs (run Nm c.bs p)==40)=false):
  Calls Tryz.prog 63 #[.pointer (some ⟨c.gl,0,none⟩)] w fun e w' =>e= .returned (.tuple #[.int .u32 1,cut c p (run Nm c.bs p)])∧St w0 c w' (run Nm c.bs p) (run Nm c.bs p):=by
 have hr:=h.r;have b0:=h.dK;have b1:=h.ei;have b2:=h.dS;have b3:=h.ej
 have lq:=(kk h hI).1
 have H0:=am hI
 clear hI
 have Ze:mm c.bs p:=⟨p,false,.inr (.inr ⟨rfl,by unfold Sn at h0;simp;omega,by unfold Sn at h0;simp;omega,rfl⟩),by unfold Sn at h0;unfold Dg;omega,.inl (by unfold Sn at h0;simp;omega)⟩
 obtain⟨y0,y1,y2,y3,y4,y5,y6,y7,y8,y9,YS,YT,YU,YV,YW,YX,YY,YZ,Y0,Y1,Y2,Y3,Y4,Y5,Y6,Y7,Y8,Y9,Za,Zb,Zc,Zd⟩:=tu h0 Ij Fs
 clear Ij Fs
 go_enter Tryz.func63,Tryz.ntmps63
 go_wp2_with (first|(go_at_call 80;(with_reducible refine(bE (by assumption)).mono ?_);rintro e w1 ⟨rfl,hS⟩;have hr:=hS.r)|(go_at_call 58;(with_reducible refine(move _ (by assumption) (by omega) (by omega)).mono ?_);rintro e w1 ⟨rfl,hS⟩;have hr:=hS.r)|(go_at_call 82;(with_reducible refine(shift (by assumption) (by omega)).mono ?_);rintro e w1 ⟨rfl,hS⟩;have hr:=hS.r)|(go_at_call 86;(with_reducible refine(kW (by assumption) Ze).mono ?_);rintro e w1 ⟨rfl,hS⟩;have hr:=hS.r)|(go_at_call 89;(with_reducible refine(xI (by assumption) H0.out (by assumption)).mono ?_);rintro e w1 ⟨rfl,hS⟩;have hr:=hS.r))
 go_ret2
 exact⟨rfl,by assumption⟩
theorem G2 (h:St w0 c w p p) (hI:lr c.bs p) (h0:at_ c.bs p=117∨at_ c.bs p=85) (h3:at_ c.bs (p+1)=43→¬Hx (at_ c.bs (p+2))∧at_ c.bs (p+2)≠63) (h1:(at_ c.bs (run Nm c.bs p)==40)=false):
  Calls Tryz.prog 63 #[.pointer (some ⟨c.gl,0,none⟩)] w fun e w' =>e= .returned (.tuple #[.int .u32 1,cut c p (run Nm c.bs p)])∧St w0 c w' (run Nm c.bs p) (run Nm c.bs p):=by
 have hr:=h.r;have b0:=h.dK;have b1:=h.ei;have b2:=h.dS;have b3:=h.ej
 have lq:=(kk h hI).1
 have H0:=am hI
 have HU:=am h0
 have HR:=am h3
 clear hI h3
 rcases h0 with h0|h0
 all_goals
  go_enter Tryz.func63,Tryz.ntmps63
  go_wp2_with (first|(go_at_call 80;(with_reducible refine(bE (by assumption)).mono ?_);rintro e w1 ⟨rfl,hS⟩;have hr:=hS.r)|(go_at_call 58;(with_reducible refine(move _ (by assumption) (by omega) (by omega)).mono ?_);rintro e w1 ⟨rfl,hS⟩;have hr:=hS.r)|(go_at_call 82;(with_reducible refine(shift (by assumption) (by omega)).mono ?_);rintro e w1 ⟨rfl,hS⟩;have hr:=hS.r)|(go_at_call 94;(with_reducible refine(xH (by assumption) HU.out HR.out).mono ?_);rintro e w1 ⟨rfl,hS⟩;have hr:=hS.r)|(go_at_call 89;(with_reducible refine(xI (by assumption) H0.out (by assumption)).mono ?_);rintro e w1 ⟨rfl,hS⟩;have hr:=hS.r))
  go_ret2
  exact⟨rfl,by assumption⟩
theorem Du (h:St w0 c w p p) (hI:lr c.bs p) (h0:at_ c.bs p=45) (h4:(at_ c.bs (p+1)==45)=false) (h1:(at_ c.bs (run Nm c.bs p)==40)=false):
  Calls Tryz.prog 63 #[.pointer (some ⟨c.gl,0,none⟩)] w fun e w' =>e= .returned (.tuple #[.int .u32 1,cut c p (run Nm c.bs p)])∧St w0 c w' (run Nm c.bs p) (run Nm c.bs p):=by
 have hr:=h.r;have b0:=h.dK;have b1:=h.ei;have b2:=h.dS;have b3:=h.ej
 have lq:=(kk h hI).1
 have H0:=am hI
 clear hI
 go_enter Tryz.func63,Tryz.ntmps63
 go_wp2_with (first|(go_at_call 80;(with_reducible refine(bE (by assumption)).mono ?_);rintro e w1 ⟨rfl,hS⟩;have hr:=hS.r)|(go_at_call 58;(with_reducible refine(move _ (by assumption) (by omega) (by omega)).mono ?_);rintro e w1 ⟨rfl,hS⟩;have hr:=hS.r)|(go_at_call 82;(with_reducible refine(shift (by assumption) (by omega)).mono ?_);rintro e w1 ⟨rfl,hS⟩;have hr:=hS.r)|(go_at_call 87;(with_reducible refine(Az (by assumption) (by assumption) (by assumption)).mono ?_);rintro e w1 ⟨rfl,hS⟩;have hr:=hS.r)|(go_at_call 88;(with_reducible refine(nf (by assumption) (by assumption) (by assumption)).mono ?_);rintro e w1 ⟨rfl,hS⟩;have hr:=hS.r)|(go_at_call 89;(with_reducible refine(xI (by assumption) H0.out (by assumption)).mono ?_);rintro e w1 ⟨rfl,hS⟩;have hr:=hS.r))
 go_ret2
 exact⟨rfl,by assumption⟩
theorem Dv (h:St w0 c w p p) (hI:lr c.bs p) (h0:Sn (at_ c.bs p)) (Ij:at_ c.bs p≠117) (Fs:at_ c.bs p≠85) (h1:at_ c.bs (run Nm c.bs p)=40) (h2:¬gC (oM c.bs p (run Nm c.bs p))):
  Calls Tryz.prog 63 #[.pointer (some ⟨c.gl,0,none⟩)] w fun e w' =>e= .returned (.tuple #[.int .u32 2,cut c p (run Nm c.bs p+1)])∧St w0 c w' (run Nm c.bs p+1) (run Nm c.bs p+1):=by
 have hr:=h.r;have b0:=h.dK;have b1:=h.ei;have b2:=h.dS;have b3:=h.ej
 have lq:=(kk h hI).1
 have H0:=am hI
 have H1:=am h1
 have H2:=am h2
 clear h1 h2
 clear hI
 have Ze:mm c.bs p:=⟨p,false,.inr (.inr ⟨rfl,by unfold Sn at h0;simp;omega,by unfold Sn at h0;simp;omega,rfl⟩),by unfold Sn at h0;unfold Dg;omega,.inl (by unfold Sn at h0;simp;omega)⟩
 obtain⟨y0,y1,y2,y3,y4,y5,y6,y7,y8,y9,YS,YT,YU,YV,YW,YX,YY,YZ,Y0,Y1,Y2,Y3,Y4,Y5,Y6,Y7,Y8,Y9,Za,Zb,Zc,Zd⟩:=tu h0 Ij Fs
 clear Ij Fs
 go_enter Tryz.func63,Tryz.ntmps63
 go_wp2_with (first|(go_at_call 80;(with_reducible refine(bE (by assumption)).mono ?_);rintro e w1 ⟨rfl,hS⟩;have hr:=hS.r)|(go_at_call 58;(with_reducible refine(move _ (by assumption) (by omega) (by omega)).mono ?_);rintro e w1 ⟨rfl,hS⟩;have hr:=hS.r)|(go_at_call 82;(with_reducible refine(shift (by assumption) (by omega)).mono ?_);rintro e w1 ⟨rfl,hS⟩;have hr:=hS.r)|(go_at_call 86;(with_reducible refine(kW (by assumption) Ze).mono ?_);rintro e w1 ⟨rfl,hS⟩;have hr:=hS.r)|(go_at_call 89;(with_reducible refine(xJ (by assumption) H0.out H1.out H2.out).mono ?_);rintro e w1 ⟨rfl,hS⟩;have hr:=hS.r))
 go_ret2
 exact⟨rfl,by assumption⟩
theorem G3 (h:St w0 c w p p) (hI:lr c.bs p) (h0:at_ c.bs p=117∨at_ c.bs p=85) (h3:at_ c.bs (p+1)=43→¬Hx (at_ c.bs (p+2))∧at_ c.bs (p+2)≠63) (h1:at_ c.bs (run Nm c.bs p)=40) (h2:¬gC (oM c.bs p (run Nm c.bs p))):
  Calls Tryz.prog 63 #[.pointer (some ⟨c.gl,0,none⟩)] w fun e w' =>e= .returned (.tuple #[.int .u32 2,cut c p (run Nm c.bs p+1)])∧St w0 c w' (run Nm c.bs p+1) (run Nm c.bs p+1):=by
 have hr:=h.r;have b0:=h.dK;have b1:=h.ei;have b2:=h.dS;have b3:=h.ej
 have lq:=(kk h hI).1
 have H0:=am hI
 have H1:=am h1
 have H2:=am h2
 clear h1 h2
 have HU:=am h0
 have HR:=am h3
 clear hI h3
 rcases h0 with h0|h0
 all_goals
  go_enter Tryz.func63,Tryz.ntmps63
  go_wp2_with (first|(go_at_call 80;(with_reducible refine(bE (by assumption)).mono ?_);rintro e w1 ⟨rfl,hS⟩;have hr:=hS.r)|(go_at_call 58;(with_reducible refine(move _ (by assumption) (by omega) (by omega)).mono ?_);rintro e w1 ⟨rfl,hS⟩;have hr:=hS.r)|(go_at_call 82;(with_reducible refine(shift (by assumption) (by omega)).mono ?_);rintro e w1 ⟨rfl,hS⟩;have hr:=hS.r)|(go_at_call 94;(with_reducible refine(xH (by assumption) HU.out HR.out).mono ?_);rintro e w1 ⟨rfl,hS⟩;have hr:=hS.r)|(go_at_call 89;(with_reducible refine(xJ (by assumption) H0.out H1.out H2.out).mono ?_);rintro e w1 ⟨rfl,hS⟩;have hr:=hS.r))
  go_ret2
  exact⟨rfl,by assumption⟩
theorem Dw (h:St w0 c w p p) (hI:lr c.bs p) (h0:at_ c.bs p=45) (h4:(at_ c.bs (p+1)==45)=false) (h1:at_ c.bs (run Nm c.bs p)=40) (h2:¬gC (oM c.bs p (run Nm c.bs p))):
  Calls Tryz.prog 63 #[.pointer (some ⟨c.gl,0,none⟩)] w fun e w' =>e= .returned (.tuple #[.int .u32 2,cut c p (run Nm c.bs p+1)])∧St w0 c w' (run Nm c.bs p+1) (run Nm c.bs p+1):=by
 have hr:=h.r;have b0:=h.dK;have b1:=h.ei;have b2:=h.dS;have b3:=h.ej
 have lq:=(kk h hI).1
 have H0:=am hI
 have H1:=am h1
 have H2:=am h2
 clear h1 h2
 clear hI
 go_enter Tryz.func63,Tryz.ntmps63
 go_wp2_with (first|(go_at_call 80;(with_reducible refine(bE (by assumption)).mono ?_);rintro e w1 ⟨rfl,hS⟩;have hr:=hS.r)|(go_at_call 58;(with_reducible refine(move _ (by assumption) (by omega) (by omega)).mono ?_);rintro e w1 ⟨rfl,hS⟩;have hr:=hS.r)|(go_at_call 82;(with_reducible refine(shift (by assumption) (by omega)).mono ?_);rintro e w1 ⟨rfl,hS⟩;have hr:=hS.r)|(go_at_call 87;(with_reducible refine(Az (by assumption) (by assumption) (by assumption)).mono ?_);rintro e w1 ⟨rfl,hS⟩;have hr:=hS.r)|(go_at_call 88;(with_reducible refine(nf (by assumption) (by assumption) (by assumption)).mono ?_);rintro e w1 ⟨rfl,hS⟩;have hr:=hS.r)|(go_at_call 89;(with_reducible refine(xJ (by assumption) H0.out H1.out H2.out).mono ?_);rintro e w1 ⟨rfl,hS⟩;have hr:=hS.r))
 go_ret2
 exact⟨rfl,by assumption⟩
theorem AL (h:St w0 c w p p) (hI:lr c.bs p) (h0:Sn (at_ c.bs p)) (Ij:at_ c.bs p≠117) (Fs:at_ c.bs p≠85) {e:Int} (he:p<e) (h1:at_ c.bs (run Nm c.bs p)=40) (h2:gC (oM c.bs p (run Nm c.bs p))) (hu:xA c.bs (run Nm c.bs p+1) e):
  Calls Tryz.prog 63 #[.pointer (some ⟨c.gl,0,none⟩)] w fun en w' =>en= .returned (.tuple #[.int .u32 7,cut c p e])∧St w0 c w' e e:=by
 have hr:=h.r;have b0:=h.dK;have b1:=h.ei;have b2:=h.dS;have b3:=h.ej
 have lq:=(kk h hI).1
 have H0:=am hI
 have H1:=am h1
 have H2:=am h2
 have H3:=am hu
 clear h1 h2 hu
 clear hI
 have Ze:mm c.bs p:=⟨p,false,.inr (.inr ⟨rfl,by unfold Sn at h0;simp;omega,by unfold Sn at h0;simp;omega,rfl⟩),by unfold Sn at h0;unfold Dg;omega,.inl (by unfold Sn at h0;simp;omega)⟩
 obtain⟨y0,y1,y2,y3,y4,y5,y6,y7,y8,y9,YS,YT,YU,YV,YW,YX,YY,YZ,Y0,Y1,Y2,Y3,Y4,Y5,Y6,Y7,Y8,Y9,Za,Zb,Zc,Zd⟩:=tu h0 Ij Fs
 clear Ij Fs
 go_enter Tryz.func63,Tryz.ntmps63
 go_wp2_with (first|(go_at_call 80;(with_reducible refine(bE (by assumption)).mono ?_);rintro e w1 ⟨rfl,hS⟩;have hr:=hS.r)|(go_at_call 58;(with_reducible refine(move _ (by assumption) (by omega) (by omega)).mono ?_);rintro e w1 ⟨rfl,hS⟩;have hr:=hS.r)|(go_at_call 82;(with_reducible refine(shift (by assumption) (by omega)).mono ?_);rintro e w1 ⟨rfl,hS⟩;have hr:=hS.r)|(go_at_call 86;(with_reducible refine(kW (by assumption) Ze).mono ?_);rintro e w1 ⟨rfl,hS⟩;have hr:=hS.r)|(go_at_call 89;(with_reducible refine(AF (by assumption) H0.out H1.out H2.out H3.out).mono ?_);rintro e w1 ⟨rfl,hS⟩;have hr:=hS.r))
 go_ret2
 exact⟨rfl,by assumption⟩
theorem Dx (h:St w0 c w p p) (hI:lr c.bs p) (h0:at_ c.bs p=117∨at_ c.bs p=85) (h3:at_ c.bs (p+1)=43→¬Hx (at_ c.bs (p+2))∧at_ c.bs (p+2)≠63) {e:Int} (he:p<e) (h1:at_ c.bs (run Nm c.bs p)=40) (h2:gC (oM c.bs p (run Nm c.bs p))) (hu:xA c.bs (run Nm c.bs p+1) e):
  Calls Tryz.prog 63 #[.pointer (some ⟨c.gl,0,none⟩)] w fun en w' =>en= .returned (.tuple #[.int .u32 7,cut c p e])∧St w0 c w' e e:=by
 have hr:=h.r;have b0:=h.dK;have b1:=h.ei;have b2:=h.dS;have b3:=h.ej
 have lq:=(kk h hI).1
 have H0:=am hI
 have H1:=am h1
 have H2:=am h2
 have H3:=am hu
 clear h1 h2 hu
 have HU:=am h0
 have HR:=am h3
 clear hI h3
 rcases h0 with h0|h0
 all_goals
  go_enter Tryz.func63,Tryz.ntmps63
  go_wp2_with (first|(go_at_call 80;(with_reducible refine(bE (by assumption)).mono ?_);rintro e w1 ⟨rfl,hS⟩;have hr:=hS.r)|(go_at_call 58;(with_reducible refine(move _ (by assumption) (by omega) (by omega)).mono ?_);rintro e w1 ⟨rfl,hS⟩;have hr:=hS.r)|(go_at_call 82;(with_reducible refine(shift (by assumption) (by omega)).mono ?_);rintro e w1 ⟨rfl,hS⟩;have hr:=hS.r)|(go_at_call 94;(with_reducible refine(xH (by assumption) HU.out HR.out).mono ?_);rintro e w1 ⟨rfl,hS⟩;have hr:=hS.r)|(go_at_call 89;(with_reducible refine(AF (by assumption) H0.out H1.out H2.out H3.out).mono ?_);rintro e w1 ⟨rfl,hS⟩;have hr:=hS.r))
  go_ret2
  exact⟨rfl,by assumption⟩
end Go.Proofs.YtlglijnaeaonpaaGreatDoor.Lx
end
section
set_option maxHeartbeats 8000000
set_option maxRecDepth 100000
set_option linter.unusedVariables false
set_option linter.unusedSimpArgs false
namespace Go.Proofs.YtlglijnaeaonpaaGreatDoor.Lx
open Go.RowKit Go.Proofs.YtlglijnaeaonpaaGreatDoorW.aC
variable {w0 w:World} {c:lQ} {p s:Int}
theorem Om (h:St w0 c w p s) (he:p+1=c.bs.length):
  Calls Tryz.prog 102 #[.pointer (some ⟨c.gi,0,none⟩),.int .i64 0] w fun e w' =>e= .returned c.eof∧St w0 c w' p s:=by
 have a0:=h.c0
 have a1:=h.c1
 have a3:=h.c3
 have ae:=h.eof
 have b0:=h.dK
 have b1:=h.ei
 have b2:=h.dS
 have b3:=h.ej
 have hd:decide ((c.bs.length:Int) - 1≤p)=true:=by simp;omega
 clear he
 go_enter Tryz.func102,Tryz.ntmps102
 go_wp2
 go_quiet (fail)
 go_wp2
 go_ret
 exact⟨rfl,h.drewN _⟩
theorem Zf (h:St w0 c w p s) (he:p+1=c.bs.length):
  Calls Tryz.prog 65 #[.pointer (some ⟨c.gi,0,none⟩)] w fun e w' =>e= .returned c.eof∧St w0 c w' p s:=by
 have HE:=am he
 clear he
 go_enter Tryz.func65,Tryz.ntmps65
 go_wp2_with (first|(go_at_call 102;(with_reducible refine(Om (by assumption) HE.out).mono ?_);rintro e w1 ⟨rfl,hS⟩;have hr:=hS.r))
 go_ret
 exact⟨rfl,by assumption⟩
theorem aeM (h:St w0 c w p s) (he:p+1=c.bs.length):
  Calls Tryz.prog 48 #[.pointer (some ⟨c.gl,0,none⟩)] w fun e w' =>e= .returned c.eof∧St w0 c w' p s:=by
 have hr:=h.r;have b0:=h.dK;have b1:=h.ei;have b2:=h.dS;have b3:=h.ej
 have HE:=am he
 clear he
 go_enter Tryz.func48,Tryz.ntmps48
 go_wp2_with (first|(go_at_call 65;(with_reducible refine(Zf (by assumption) HE.out).mono ?_);rintro e w1 ⟨rfl,hS⟩;have hr:=hS.r))
 go_ret
 exact⟨rfl,by assumption⟩
theorem Kn (h:St w0 c w p p) (he:p+1=c.bs.length):
  Calls Tryz.prog 63 #[.pointer (some ⟨c.gl,0,none⟩)] w fun e w' =>e= .returned (.tuple #[.int .u32 0,.slice none 0 0])∧St w0 c w' p p:=by
 have hr:=h.r;have b0:=h.dK;have b1:=h.ei;have b2:=h.dS;have b3:=h.ej
 have hz:at_ c.bs p=0:=by
  have:=h.ok.last
  unfold at_
  rwa [show p.toNat=c.bs.length - 1 by omega]
 have HE:=am he
 clear he
 go_enter Tryz.func63,Tryz.ntmps63
 go_wp2_with (first|(go_at_call 80;(with_reducible refine(bE (by assumption)).mono ?_);rintro e w1 ⟨rfl,hS⟩;have hr:=hS.r)|(go_at_call 65;(with_reducible refine(Zf (by assumption) HE.out).mono ?_);rintro e w1 ⟨rfl,hS⟩;have hr:=hS.r))
 go_ret2
 exact⟨rfl,by assumption⟩
theorem next (h:St w0 c w p p) {k q:Int} (ht:Tok c.bs p k q):
  Calls Tryz.prog 63 #[.pointer (some ⟨c.gl,0,none⟩)] w fun e w' =>e= .returned (.tuple #[.int .u32 k,cut c p q])∧St w0 c w' q q:=by
 cases ht with
 | ws h0=>exact Oj h h0
 | colon h0=>exact Df h h0
 | sV h0=>exact GY h h0
 | comma h0=>exact Dh h h0
 | bracket t h0=>exact xK h _ h0
 | hash h0 h1=>exact GZ h h0 h1
 | string r h0 h1 h2 ha h3=>exact AG h h0 h1 h2 ha h3
 | TH h0 h1=>exact Ok h h0 h1
 | JG t h0 h1=>exact Di h _ h0 h1
 | star h0 h1=>exact G0 h h0 h1
 | dot h0 h1=>exact Km h h0 h1
 | gt h0=>
  refine Ol h h0 ⟨p,false,.inr (.inr ⟨rfl,?_,?_,rfl⟩),?_,.inl ?_⟩ (.inl ⟨?_,?_⟩)
  ·rcases h0 with h0|h0<;>rw [h0]<;>rfl
  ·rcases h0 with h0|h0<;>rw [h0]<;>rfl
  ·rcases h0 with h0|h0<;>rw [h0]<;>decide
  ·rcases h0 with h0|h0<;>rw [h0]<;>rfl
  ·rcases h0 with h0|h0<;>rw [h0]<;>decide
  ·rcases h0 with h0|h0<;>rw [h0]<;>decide
 | num q' k' e' hn hu hf=>
  rcases hu with ⟨h1,rfl,rfl⟩|⟨h1,h2,rfl,rfl⟩|⟨h1,h2,rfl,rfl⟩
  ·rcases hf with hf|hf|hf|⟨hf,h3,h4⟩
   ·exact Dj h hf hn h1
   ·exact Dk h hf hn h1
   ·exact AH h hf hn h1
   ·exact Dl h hf hn h3 h4 h1
  ·rcases hf with hf|hf|hf|⟨hf,h3,h4⟩
   ·exact Dm h hf hn h1 h2
   ·exact Dn h hf hn h1 h2
   ·exact AJ h hf hn h1 h2
   ·exact Dp h hf hn h3 h4 h1 h2
  ·rcases hf with hf|hf|hf|⟨hf,h3,h4⟩
   ·exact Dq h hf hn h1 h2
   ·exact Dr h hf hn h1 h2
   ·exact AK h hf hn h1 h2
   ·exact Ds h hf hn h3 h4 h1 h2
 | uO k' e' hI hl hf hm=>
  by_cases hu:at_ c.bs p=117∨at_ c.bs p=85
  ·rcases hl with ⟨h1,rfl,rfl⟩|⟨h1,h2,rfl,rfl⟩|⟨h1,h2,h3,h4,h5,rfl⟩
   ·exact G2 h hI hu (hf hu) h1
   ·exact G3 h hI hu (hf hu) h1 h2
   ·exact Dx h hI hu (hf hu) h4 h1 h2 h3
  ·by_cases hy:at_ c.bs p=45
   ·rcases hl with ⟨h1,rfl,rfl⟩|⟨h1,h2,rfl,rfl⟩|⟨h1,h2,h3,h4,h5,rfl⟩
    ·exact Du h hI hy (hm hy) h1
    ·exact Dw h hI hy (hm hy) h1 h2
    ·exact absurd hy h5
   ·have hs:Sn (at_ c.bs p):=by
     rcases hI with hI|⟨hI,_⟩
     ·exact hI
     ·exact absurd hI hy
    rcases hl with ⟨h1,rfl,rfl⟩|⟨h1,h2,rfl,rfl⟩|⟨h1,h2,h3,h4,h5,rfl⟩
    ·exact Dt h hI hs (fun e=>hu (.inl e)) (fun e=>hu (.inr e)) h1
    ·exact Dv h hI hs (fun e=>hu (.inl e)) (fun e=>hu (.inr e)) h1 h2
    ·exact AL h hI hs (fun e=>hu (.inl e)) (fun e=>hu (.inr e)) h4 h1 h2 h3
end Go.Proofs.YtlglijnaeaonpaaGreatDoor.Lx
end
