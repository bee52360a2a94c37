/- FnRules: a part of the proof (Rk). -/
import Derived.Test.YtlglijnaeaonpaaGreatDoorRj
import Derived.WalkKit
import Derived.WalkSpells
import Derived.WalkLawsBesides
import Derived.KernelRfl
import Derived.Deep.QuietTactic
import Derived.BigQuiet
import Derived.Lib.SlBytesConst
import Derived.Lib.SmallJoins
import Derived.Deep.LoopGhost
import Derived.Deep.DeepCutAuto
section
set_option maxHeartbeats 8000000
set_option maxRecDepth 100000
set_option linter.unusedVariables false
set_option linter.unusedSimpArgs false
namespace Go.Proofs.YtlglijnaeaonpaaGreatDoor.Lx
open Go.RowKit Go.Proofs.YtlglijnaeaonpaaGreatDoorW.aC Go.Proofs.YtlglijnaeaonpaaGreatDoor.bG
structure Rs (w0 ws:World) (g:Nat) (xs:List Int) (w:World) (i:Int) (o:Bool):Prop where
 is:aD w0 w g xs i o
 be:Below w0.heap.size w0 w
 ke:aw ws w g none
section
variable {w0 ws w w' :World} {g:Nat} {xs:List Int} {i i' n:Int} {o o' :Bool}
theorem Rs.next (h:Rs w0 ws g xs w i o) (hi:aD w0 w' g xs i' o') (hb:Below w0.heap.size w0 w') (hk:aw w w' g none):Rs w0 ws g xs w' i' o':=⟨hi,hb,h.ke.trans hk (.inl rfl)⟩
theorem Rs.drewN (h:Rs w0 ws g xs w i o) (n:Nat):Rs w0 ws g xs (w.drewN n) i o:=⟨h.is.drewN n,bn h.be n,Cf h.ke n⟩
theorem eP (h:Rs w0 ws g xs w i o) (hx:Tx xs) (h0:0≤i+n) (h1:i+n≤4611686018427387904):
  Calls Tryz.prog 104 #[.pointer (some ⟨g,0,none⟩),.int .i64 n] w fun e w' =>e= .returned (.int .u8 (at_ xs (i+n)))∧Rs w0 ws g xs w' i o:=
 (aa.calls g xs i o n _ _ _ w0 w h.is h.be (cN hx h0 h1)).mono fun e w' ⟨he,hi,hb,hk⟩=>⟨he,h.next hi hb hk⟩
theorem iN (h:Rs w0 ws g xs w i o) (hx:Tx xs) (h0:0≤i) (h1:i≤xs.length):
  Calls Tryz.prog 104 #[.pointer (some ⟨g,0,none⟩),.int .i64 0] w fun e w' =>e= .returned (.int .u8 (at_ xs i))∧Rs w0 ws g xs w' i o:=
 (aa.calls g xs i o 0 _ _ _ w0 w h.is h.be (bj hx h0 h1)).mono fun e w' ⟨he,hi,hb,hk⟩=>⟨he,h.next hi hb hk⟩
theorem xF (h:Rs w0 ws g xs w i o):
  Calls Tryz.prog 67 #[.pointer (some ⟨g,0,none⟩)] w fun e w' =>e= .returned (.bool (decide (i≥(xs.length:Int))))∧Rs w0 ws g xs w' i o:=
 (aV.calls g xs i o _ _ _ w0 w h.is h.be dw).mono fun e w' ⟨he,hi,hb,hk⟩=>⟨he,h.next hi hb hk⟩
theorem GR (h:Rs w0 ws g xs w i o) (hx:Tx xs) (h0:0≤i) (h1:i≤xs.length):
  Calls Tryz.prog 106 #[.pointer (some ⟨g,0,none⟩)] w fun e w' =>e= .returned (.tuple #[])∧Rs w0 ws g xs w' (run Ws xs i) o:=
 (aH.calls (xs.length+1) g xs i o _ _ w0 w h.is h.be (pG hx h0 h1 (Nat.le_refl _))).mono fun e w' ⟨he,hi,hb,hk⟩=>⟨he,h.next hi hb hk⟩
structure C4 (f:FuncId) (ar:List Value) (xs:List Int) (i:Int) (o:Bool) (P:ByteArray→Int→Bool→Prop) (r:ByteArray×Int×Bool):Prop where
 ge:i≤r.2.1
 le:r.2.1≤xs.length
 op:o=true→r.2.2=true
 sz:r.1.size≤16
 pr:P r.1 r.2.1 r.2.2
 run:∀(w0 ws w:World) (g:Nat),Rs w0 ws g xs w i o→Calls Tryz.prog f (.pointer (some ⟨g,0,none⟩)::ar).toArray w fun e w' =>e= .returned (.string r.1)∧Rs w0 ws g xs w' r.2.1 r.2.2
theorem GS (o:Bool) (hx:Tx xs) (h0:0≤i) (h1:i<xs.length):∃r,C4 107 [] xs i o (fun kind i' o' =>i<i' ∧(Nb xs→N0 xs→o' =false→kind=zU∧∃r,i' =r+1∧i+1≤r∧r<xs.length∧at_ xs r=at_ xs i∧∀m,i+1≤m→m<r→Sc (at_ xs i) (at_ xs m))) r:=by
 obtain⟨kind,i',o',a1,a2,a3,a4,a5⟩:=JM (o:=o) hx h0 h1
 exact⟨(kind,i',o'),by show i≤i';omega,a3,a4,C3 _ _ _ _ _ (a1 _ (Nat.le_refl _)),⟨a2,a5⟩,fun w0 ws w g h=>(aq.calls _ g xs i o _ _ _ w0 w h.is h.be (a1 _ (Nat.le_refl _))).mono fun e w' ⟨he,hi,hb,hk⟩=>⟨he,h.next hi hb hk⟩⟩
theorem C5 (o:Bool) (hx:Tx xs) (h0:0≤i) (h1:i+2≤xs.length):∃r,C4 108 [] xs i o (fun kind i' o' =>i<i' ∧kind=CW) r:=by
 obtain⟨i',o',a1,a2,a3,a4⟩:=GL (o:=o) hx h0 h1
 exact⟨(CW,i',o'),by show i≤i';omega,a3,a4,(by decide:CW.size≤16),⟨a2,rfl⟩,fun w0 ws w g h=>(aJ.calls _ g xs i o _ _ _ w0 w h.is h.be (a1 _ (Nat.le_refl _))).mono fun e w' ⟨he,hi,hb,hk⟩=>⟨he,h.next hi hb hk⟩⟩
theorem JZ (o:Bool) (hx:Tx xs) (h0:0≤i) (h1:i+2≤xs.length):∃r,C4 112 [] xs i o (fun kind i' o' =>i<i' ∧kind=xB) r:=by
 obtain⟨i',o',a1,a2,a3,a4⟩:=NZ (o:=o) hx h0 h1
 exact⟨(xB,i',o'),by show i≤i';omega,a3,a4,(by decide:xB.size≤16),⟨a2,rfl⟩,fun w0 ws w g h=>(af.calls _ g xs i o _ _ _ w0 w h.is h.be (a1 _ (Nat.le_refl _))).mono fun e w' ⟨he,hi,hb,hk⟩=>⟨he,h.next hi hb hk⟩⟩
theorem C6 (o:Bool) (hx:Tx xs) (h0:0≤i) (h1:i≤xs.length):∃r,C4 110 [] xs i o (fun kind i' o' =>(gN xs i→i<i')∧(Nb xs→gN xs i→o' =false→∃q,pD xs i q∧vM xs q kind i')) r:=by
 obtain⟨kind,i',o',a1,a2,a3,a4,a5,a6⟩:=GN (o:=o) hx h0 h1
 exact⟨(kind,i',o'),a2,a3,a4,Ar _ _ _ _ _ (a1 _ (Nat.le_refl _)),⟨a5,a6⟩,fun w0 ws w g h=>(ab.calls _ g xs i o _ _ _ w0 w h.is h.be (a1 _ (Nat.le_refl _))).mono fun e w' ⟨he,hi,hb,hk⟩=>⟨he,h.next hi hb hk⟩⟩
theorem C7 (o:Bool) (hx:Tx xs) (h0:0≤i) (h1:i≤xs.length):∃r,C4 141 [] xs i o (fun kind i' o' =>(Nb xs→o' =false→kind=uQ∧xA (xs++ [0]) i i')) r:=by
 obtain⟨kind,i',o',a1,a2,a3,a4,a5⟩:=GP (o:=o) hx h0 h1
 exact⟨(kind,i',o'),a2,a3,a4,Ag _ _ _ _ _ (a1 _ (Nat.le_refl _)),a5,fun w0 ws w g h=>(an.calls _ g xs i o _ _ _ w0 w h.is h.be (a1 _ (Nat.le_refl _))).mono fun e w' ⟨he,hi,hb,hk⟩=>⟨he,h.next hi hb hk⟩⟩
theorem N8 (o:Bool) (hx:Tx xs) (h0:0≤i) (h1:i<xs.length):∃r,C4 115 [.int .u8 (at_ xs i),.int .u8 (at_ xs (i+1))] xs i o (fun kind i' o' =>i<i' ∧(Nb xs→¬gN xs i→o' =false→GQ xs i kind i')) r:=by
 obtain⟨kind,i',o',a1,a2,a3,a4,a5⟩:=TO (o:=o) hx h0 h1
 exact⟨(kind,i',o'),by show i≤i';omega,a3,a4,JY _ _ _ _ _ _ _ (a1 _ (Nat.le_refl _)),⟨a2,a5⟩,fun w0 ws w g h=>(ag.calls _ g xs i o _ _ _ _ _ w0 w h.is h.be (a1 _ (Nat.le_refl _))).mono fun e w' ⟨he,hi,hb,hk⟩=>⟨he,h.next hi hb hk⟩⟩
theorem td (b:Bool) (h:Rs w0 ws g xs w i o) (hx:Tx xs) (h0:0≤i) (h1:i≤xs.length) (hb:b=true↔gN xs i):
  Calls Tryz.prog 109 #[.pointer (some ⟨g,0,none⟩)] w fun e w' =>e= .returned (.bool b)∧Rs w0 ws g xs w' i o:=by
 obtain⟨b',a1,a2⟩:=GM (o:=o) hx h0 h1
 have:b=b':=by rw [Bool.eq_iff_iff,hb,a2]
 subst this
 exact(aE.calls _ g xs i o _ _ _ w0 w h.is h.be (a1 _ (Nat.le_refl _))).mono fun e w' ⟨he,hi,hb,hk⟩=>⟨he,h.next hi hb hk⟩
theorem oA {k:Nat} {b:Bool} (hf:aA.f k xs i o n=some (b,i,o')) (h:Rs w0 ws g xs w i o):
  Calls Tryz.prog 113 #[.pointer (some ⟨g,0,none⟩),.int .i64 n] w fun e w' =>e= .returned (.bool b)∧Rs w0 ws g xs w' i o' :=
 (aA.calls _ g xs i o n _ _ _ w0 w h.is h.be hf).mono fun e w' ⟨he,hi,hb,hk⟩=>⟨he,h.next hi hb hk⟩
theorem rO {k:Nat} (hf:az.f k xs i o=some (i',o')) (h:Rs w0 ws g xs w i o):
  Calls Tryz.prog 139 #[.pointer (some ⟨g,0,none⟩)] w fun e w' =>e= .returned (.tuple #[])∧Rs w0 ws g xs w' i' o' :=
 (az.calls _ g xs i o _ _ w0 w h.is h.be hf).mono fun e w' ⟨he,hi,hb,hk⟩=>⟨he,h.next hi hb hk⟩
theorem pK (b:Bool) {c:Int} (hb:b=true↔Ws c) (h:Rs w0 ws g xs w i o):
  Calls Tryz.prog 105 #[.int .u8 c] w fun e w' =>e= .returned (.bool b)∧Rs w0 ws g xs w' i o:=
 (bJ.calls c b w (by rw [fO];congr 1;rw [Bool.eq_iff_iff,hb];simp)).mono fun e w' ⟨he,n,hn⟩=>⟨he,hn▸h.drewN n⟩
theorem qy (v:Int) {c:Int} (hv:∀k,1≤k→ax.f k c=some v) (h:Rs w0 ws g xs w i o):
  Calls Tryz.prog 111 #[.int .u8 c] w fun e w' =>e= .returned (.int .i64 v)∧Rs w0 ws g xs w' i o:=
 (ax.calls 1 c v w (hv 1 (Nat.le_refl _))).mono fun e w' ⟨he,n,hn⟩=>⟨he,hn▸h.drewN n⟩
end
section
variable {w0 ws w w' :World} {g:Nat} {xs:List Int} {i i' n:Int} {o o' :Bool}
theorem Rs.alloc (h:Rs w0 ws g xs w i o) (ob:Obj):Rs w0 ws g xs (w.alloc ob) i o:=⟨h.is.alloc ob,au h.be ob,sf h.ke ob⟩
theorem Rs.N9 (h:Rs w0 ws g xs w i o) (x:Int):Rs w0 ws g xs (w.setCell ⟨g,1,none⟩ (.int .i64 x)) x o:=⟨h.is.Qd x,fj h.be h.is.ge,h.ke.gG 1 _⟩
theorem Rs.aeJ (h:Rs w0 ws g xs w i o) (x:Bool):Rs w0 ws g xs (w.setCell ⟨g,2,none⟩ (.bool x)) i x:=⟨h.is.Qe x,fj h.be h.is.ge,h.ke.gG 2 _⟩
structure RsC (w0 w:World) (g:Nat) (xs:List Int) (i:Int) (o:Bool) (A:Option Addr) (c:Nat):Prop where
 c0:w.cell? ⟨g,0,none⟩=some (.slice A xs.length c)
 c1:w.cell? ⟨g,1,none⟩=some (.int .i64 i)
 c2:w.cell? ⟨g,2,none⟩=some (.bool o)
 f1:w.frozen? ⟨g,1,none⟩=false
 f2:w.frozen? ⟨g,2,none⟩=false
 cap:xs.length≤c
 rd:Kd.C (Kd.int .u8) w0 A xs.length xs
theorem Rs.cells (h:Rs w0 ws g xs w i o):∃A c,RsC w0 w g xs i o A c:=by
 obtain⟨A,c,hh,hg,hr⟩:=h.is
 exact⟨A,c,aK hh,aM hh,aN hh,ai hh 1,ai hh 2,hr.1,hr.2⟩
def mid (xs:List Int) (lo hi:Int):List Int:=(xs.take hi.toNat).drop lo.toNat
theorem lP {lo hi:Int} (h0:0≤lo) (h1:lo≤hi) (h2:hi≤xs.length):(mid xs lo hi).length=(hi - lo).toNat:=by unfold mid;simp;omega
theorem pL {lo hi:Int} (h0:0≤lo) (h1:lo≤hi) (h2:hi≤xs.length):mid xs lo hi=oM (xs++ [0]) lo hi:=by
 unfold mid oM
 rw [List.drop_take,show hi.toNat - lo.toNat=(hi - lo).toNat by omega,List.drop_append_of_le_length (by omega),List.take_append_of_le_length (by simp;omega)]
theorem J0 (xs:List Int) (lo hi:Int) (j:Nat):(mid xs lo hi).getD j 0=xs.getD (lo.toNat+j) 0∨(mid xs lo hi).getD j 0=0:=by
 unfold mid
 rw [List.getD_eq_getElem?_getD,List.getElem?_drop,List.getElem?_take]
 split
 ·exact .inl (by rw [List.getD_eq_getElem?_getD])
 ·exact .inr rfl
theorem rP {A:Option Addr} {c:Nat} {lo hi:Int} (hC:Kd.C (Kd.int .u8) w A xs.length xs) (hc:xs.length≤c) (h0:0≤lo) (h1:lo≤hi) (h2:hi≤xs.length):
  ∃A1 c1,(∀W:World,(Instr.slice 24 (.slice A xs.length c) (some (.int .i64 lo)) (some (.int .i64 hi)) none).run Tryz.prog W= .ok (.slice A1 (mid xs lo hi).length c1) W)∧(mid xs lo hi).length≤c1∧Kd.C (Kd.int .u8) w A1 (mid xs lo hi).length (mid xs lo hi):=by
 obtain⟨i0,TP,ku⟩:=Option.map_eq_some_iff.1 cF
 simp only [Prod.mk.injEq] at ku
 have hm:=lP (xs:=xs) h0 h1 h2
 refine⟨_,c - lo.toNat,fun W=> ?_,?_,Kd.Wz (c:=c) (lo:=lo.toNat) (hi:=hi.toNat) hC (by omega) (by omega) hc⟩
 ·rw [MV 24 5 .i64 .i64 Tryz.underlying24 TP 1 ku.2.1 A xs.length c lo hi h0 h1 h2 hc W,hm,show hi.toNat - lo.toNat=(hi - lo).toNat by omega]
  rfl
 ·omega
theorem TQ {gb:Nat} {A1:Option Addr} {c1:Nat} {ys:List Int} {k:Nat} {b:Bool} {W:World} (MC:gb=W.heap.size) (hC:Kd.C (Kd.int .u8) W A1 ys.length ys) (hc:ys.length≤c1) (hf:bx.f k ys [117,114,108]=some b):
  Calls Tryz.prog 140 #[.slice A1 ys.length c1,.slice (some ⟨gb,0,none⟩) 3 3] (W.alloc (.cells #[.int .u8 117,.int .u8 114,.int .u8 108] 5 (3,4))) fun e w' =>e= .returned (.bool b)∧cS (W.alloc (.cells #[.int .u8 117,.int .u8 114,.int .u8 108] 5 (3,4))) w':=by
 subst MC
 refine bx.calls k A1 c1 ys _ 3 [117,114,108] b _ (Kd.D9 hC _) hc ?_ (Nat.le_refl _) hf
 refine⟨rfl,by decide,fun _=>⟨_,rfl,fun j p hj=>⟨[.int .u8 p],rfl,rfl,fun i u hi=> ?_⟩⟩⟩
 obtain rfl:i=0:=by
  cases i with
  | zero=>rfl
  | succ i=>simp at hi
 simp only [List.getElem?_cons_zero,Option.some.injEq] at hi
 subst hi
 rw [show (Kd.int .u8).sz=1 from rfl,add_plain,Nat.mul_one,Nat.add_zero]
 unfold World.cell?
 rw [heap_alloc_new W _]
 show (_:Array Value)[j]? =_
 have eh:j<3:=(List.getElem?_eq_some_iff.1 hj).1
 rcases j with _|_|_|j
 all_goals first|(simp at hj;subst hj;rfl)|omega
theorem qz {gb:Nat} {A1:Option Addr} {c1:Nat} {ys:List Int} {k:Nat} {b:Bool} (h:Rs w0 ws g xs w i o) (MC:gb=w.heap.size) (hC:Kd.C (Kd.int .u8) w0 A1 ys.length ys) (hc:ys.length≤c1) (hf:bx.f k ys [117,114,108]=some b):
  Calls Tryz.prog 140 #[.slice A1 ys.length c1,.slice (some ⟨gb,0,none⟩) 3 3] (w.alloc (.cells #[.int .u8 117,.int .u8 114,.int .u8 108] 5 (3,4))) fun e w' =>e= .returned (.bool b)∧Rs w0 ws g xs w' i o:=
 (TQ MC (Kd.cG hC h.be) hc hf).mono fun e w' ⟨he,n,hn⟩=>⟨he,hn▸(h.alloc _).drewN n⟩
theorem J1 {A1:Option Addr} {c1:Nat} {ys:List Int} {k:Nat} {c:Int} {b:Bool} (h:Rs w0 ws g xs w i o) (hC:Kd.C (Kd.int .u8) w0 A1 ys.length ys) (hc:ys.length≤c1) (hf:cD.f k ys c=some b):
  Calls Tryz.prog 53 #[.slice A1 ys.length c1,.int .u8 c] w fun e w' =>e= .returned (.bool b)∧Rs w0 ws g xs w' i o:=
 (cD.calls _ _ _ _ c b _ (Kd.cG hC h.be) hc hf).mono fun e w' ⟨he,n,hn⟩=>⟨he,hn▸h.drewN n⟩
def QF (xs:List Int) (i:Int) (kind:ByteArray) (i' :Int) (o' :Bool):Prop:=i<i' ∧(Nb xs→o' =false→(kind=ta∧sU (xs++ [0]) i 1 i')∨(kind=MB∧sU (xs++ [0]) i 2 i')∨(kind=uQ∧sU (xs++ [0]) i 7 i'))
theorem xG (o:Bool) (hx:Tx xs) (h0:0≤i) (h1:i≤xs.length) {k:Nat} {i1:Int} {o1:Bool} (hf:az.f k xs i o=some (i1,o1)) (hi1:i<i1) (pM:i1≤xs.length) (NY:o=true→o1=true) (hn:Nb xs→i1=run Nm xs i∧o1=o):
  ∃r,C4 114 [] xs i o (QF xs i) r:=by
 have hl:=hx.len
 have bZ:Nb xs→run Nm (xs++ [0]) i=i1:=fun h=>by rw [jB (by decide) h0 h1,(hn h).1]
 have HF:=am hf
 have HN:=am (And.intro hn (And.intro bZ NY))
 have HX:=am hx
 clear hf hn bZ NY
 by_cases J2:at_ xs i1=40
 ·have TR:i1+1≤xs.length:=fa (by omega) (by omega)
  have e40:(at_ xs i1 !=40)=false:=by simp [J2]
  obtain⟨bu,Yy,Yz⟩:=N6 (mid xs i i1) (fun j=>by rcases J0 xs i i1 j with h|h<;>rw [h];exact hx.byte _;omega) (by rw [lP h0 (by omega) pM];omega)
  obtain⟨bh,YA,As⟩:=vO (mid xs i i1) 92 (by rw [lP h0 (by omega) pM];omega)
  have YB:=am (And.intro Yy Yz)
  have HBH:=am (And.intro YA As)
  have H40:=am J2
  clear Yy Yz YA As J2
  cases bu with
  | true=>
   obtain⟨r,hr⟩:=C7 o1 hx (i:=i1+1) (by omega) TR
   have HA:=am hr
   refine⟨r,by have:=hr.ge;omega,hr.le,fun h=>hr.op (HN.out.2.2 h),hr.sz,⟨by have:=hr.ge;omega,fun hn oN => .inr (.inr ?_)⟩,fun w0 ws w g h=> ?_⟩
   ·obtain⟨e1,e2⟩:=hr.pr hn oN
    have e3:=HN.out.2.1 hn
    have hu:=YB.out.2.1 (by simp)
    rw [pL h0 (by omega) pM] at hu
    refine⟨e1,.inr (.inr ⟨by rw [e3,aY];exact H40.out,by rw [e3];exact hu,by rw [e3];exact e2,by have:=hr.ge;omega,?_,rfl⟩)⟩
    have wi:(1:Int)≤i1 - i:=by have:=hu.1;rw [ic h0 (by omega) (by simp;omega)] at this;omega
    have hu0:=hu.2.1
    rw [nc h0 0 (by omega)] at hu0
    rw [show i+((0:Nat):Int)=i by omega] at hu0
    unfold Fa at hu0
    intro h
    rw [h] at hu0
    omega
   ·obtain⟨A0,c0,hc⟩:=h.cells
    have c1:=hc.c1
    have HH:=am h
    clear h hc hr
    go_enter Tryz.func114,Tryz.ntmps114
    go_wp2_with (first
     | (go_at_call 139;(with_reducible refine(rO HF.out HH.out).mono ?_);rintro e w1 ⟨rfl,iV⟩;have qu:=am iV;clear iV)
     | (go_at_call 104;(with_reducible refine(iN qu.out HX.out (by omega) (by omega)).mono ?_);rintro e w2 ⟨rfl,qX⟩;obtain⟨Ab,cb,vQ⟩:=qX.cells;have uR:=am qX;clear qX))
    obtain⟨A1,V7,hcut,yO,hC⟩:=rP (lo:=i) (hi:=i1) vQ.rd vQ.cap h0 (by omega) pM
    have b0:=vQ.c0
    have b1:=vQ.c1
    have bf:=vQ.f1
    have HC:=am (And.intro yO hC)
    clear yO hC vQ c1
    go_quiet (fail)
    rename_i nq
    have C8:=am ((uR.out.drewN nq).N9 (i1+1))
    have kc:=fun (C:Array Value) (n c:Nat)=>Go.Joins.run_convert_bytes_const_at (P:=Tryz.prog) ((w2.drewN nq).setCell ⟨g,1,none⟩ (.int .i64 (i1+1))) 24 5 C n c w2.heap.size (by simp) Tryz.underlying24 Tryz.underlying5
    clear hcut
    go_wp2_with (first
     | (go_at_call 140;(with_reducible refine(qz C8.out (by simp) HC.out.2 HC.out.1 (YB.out.1 _ (Nat.le_refl _))).mono ?_);rintro e w3 ⟨rfl,qY⟩;have yE:=am qY;clear qY)
     | (go_at_call 141;(with_reducible refine(HA.out.run _ _ _ _ yE.out).mono ?_);rintro e w4 ⟨rfl,C9⟩;have Ax:=am C9;clear C9))
    go_ret
    exact⟨rfl,Ax.out⟩
  | false=>
   have J3:Nb xs→(MB=ta∧sU (xs++ [0]) i 1 (i1+1))∨(MB=MB∧sU (xs++ [0]) i 2 (i1+1))∨(MB=uQ∧sU (xs++ [0]) i 7 (i1+1)):=by
    intro hn
    have e3:=HN.out.2.1 hn
    refine .inr (.inl ⟨rfl,.inr (.inl ⟨by rw [e3,aY];exact H40.out,?_,rfl,by rw [e3]⟩)⟩)
    rw [e3,←pL h0 (by omega) pM]
    intro hu
    have:=YB.out.2.2 hu
    cases this
   cases bh with
   | true=>
    refine⟨(MB,i1+1,true),by show i≤i1+1;omega,TR,fun _=>rfl,(by decide:MB.size≤16),⟨by show i<i1+1;omega,fun hn oN =>by cases oN⟩,fun w0 ws w g h=> ?_⟩
    obtain⟨A0,c0,hc⟩:=h.cells
    have c1:=hc.c1
    have HH:=am h
    clear h hc J3
    go_enter Tryz.func114,Tryz.ntmps114
    go_wp2_with (first
     | (go_at_call 139;(with_reducible refine(rO HF.out HH.out).mono ?_);rintro e w1 ⟨rfl,iV⟩;have qu:=am iV;clear iV)
     | (go_at_call 104;(with_reducible refine(iN qu.out HX.out (by omega) (by omega)).mono ?_);rintro e w2 ⟨rfl,qX⟩;obtain⟨Ab,cb,vQ⟩:=qX.cells;have uR:=am qX;clear qX))
    obtain⟨A1,V7,hcut,yO,hC⟩:=rP (lo:=i) (hi:=i1) vQ.rd vQ.cap h0 (by omega) pM
    have b0:=vQ.c0
    have b1:=vQ.c1
    have bf:=vQ.f1
    have HC:=am (And.intro yO hC)
    clear yO hC vQ c1
    go_quiet (fail)
    rename_i nq
    have C8:=am ((uR.out.drewN nq).N9 (i1+1))
    have kc:=fun (C:Array Value) (n c:Nat)=>Go.Joins.run_convert_bytes_const_at (P:=Tryz.prog) ((w2.drewN nq).setCell ⟨g,1,none⟩ (.int .i64 (i1+1))) 24 5 C n c w2.heap.size (by simp) Tryz.underlying24 Tryz.underlying5
    clear hcut
    go_wp2_with (first
     | (go_at_call 140;(with_reducible refine(qz C8.out (by simp) HC.out.2 HC.out.1 (YB.out.1 _ (Nat.le_refl _))).mono ?_);rintro e w3 ⟨rfl,qY⟩;have yE:=am qY;clear qY)
     | (go_at_call 53;(with_reducible refine(J1 yE.out HC.out.2 HC.out.1 (HBH.out.1 _ (Nat.le_refl _))).mono ?_);rintro e w5 ⟨rfl,C9⟩;obtain⟨A5,c5,Fo⟩:=C9.cells;have g2:=Fo.c2;have gf:=Fo.f2;clear Fo;have Ax:=am (C9.aeJ true);clear C9))
    go_ret
    exact⟨rfl,Ax.out⟩
   | false=>
    refine⟨(MB,i1+1,o1),by show i≤i1+1;omega,TR,HN.out.2.2,(by decide:MB.size≤16),⟨by show i<i1+1;omega,fun hn oN =>J3 hn⟩,fun w0 ws w g h=> ?_⟩
    obtain⟨A0,c0,hc⟩:=h.cells
    have c1:=hc.c1
    have HH:=am h
    clear h hc J3
    go_enter Tryz.func114,Tryz.ntmps114
    go_wp2_with (first
     | (go_at_call 139;(with_reducible refine(rO HF.out HH.out).mono ?_);rintro e w1 ⟨rfl,iV⟩;have qu:=am iV;clear iV)
     | (go_at_call 104;(with_reducible refine(iN qu.out HX.out (by omega) (by omega)).mono ?_);rintro e w2 ⟨rfl,qX⟩;obtain⟨Ab,cb,vQ⟩:=qX.cells;have uR:=am qX;clear qX))
    obtain⟨A1,V7,hcut,yO,hC⟩:=rP (lo:=i) (hi:=i1) vQ.rd vQ.cap h0 (by omega) pM
    have b0:=vQ.c0
    have b1:=vQ.c1
    have bf:=vQ.f1
    have HC:=am (And.intro yO hC)
    clear yO hC vQ c1
    go_quiet (fail)
    rename_i nq
    have C8:=am ((uR.out.drewN nq).N9 (i1+1))
    have kc:=fun (C:Array Value) (n c:Nat)=>Go.Joins.run_convert_bytes_const_at (P:=Tryz.prog) ((w2.drewN nq).setCell ⟨g,1,none⟩ (.int .i64 (i1+1))) 24 5 C n c w2.heap.size (by simp) Tryz.underlying24 Tryz.underlying5
    clear hcut
    go_wp2_with (first
     | (go_at_call 140;(with_reducible refine(qz C8.out (by simp) HC.out.2 HC.out.1 (YB.out.1 _ (Nat.le_refl _))).mono ?_);rintro e w3 ⟨rfl,qY⟩;have yE:=am qY;clear qY)
     | (go_at_call 53;(with_reducible refine(J1 yE.out HC.out.2 HC.out.1 (HBH.out.1 _ (Nat.le_refl _))).mono ?_);rintro e w5 ⟨rfl,C9⟩;have Ax:=am C9;clear C9))
    go_ret
    exact⟨rfl,Ax.out⟩
 ·have e40:(at_ xs i1 !=40)=true:=by simp [J2]
  refine⟨(ta,i1,o1),by show i≤i1;omega,pM,HN.out.2.2,(by decide:ta.size≤16),⟨hi1,fun hn oN => .inl ⟨rfl,.inl ?_⟩⟩,fun w0 ws w g h=> ?_⟩
  ·have e3:=HN.out.2.1 hn
   rw [e3,aY]
   exact⟨by simpa using J2,rfl,rfl⟩
  ·obtain⟨A0,c0,hc⟩:=h.cells
   have c1:=hc.c1
   have HH:=am h
   clear h hc J2
   go_enter Tryz.func114,Tryz.ntmps114
   go_wp2_with (first
    | (go_at_call 139;(with_reducible refine(rO HF.out HH.out).mono ?_);rintro e w1 ⟨rfl,iV⟩;have qu:=am iV;clear iV)
    | (go_at_call 104;(with_reducible refine(iN qu.out HX.out (by omega) (by omega)).mono ?_);rintro e w2 ⟨rfl,qX⟩;have uR:=am qX;clear qX))
   go_ret
   exact⟨rfl,uR.out⟩
end
section
variable {w0 ws w w' :World} {g:Nat} {xs:List Int} {i i' n:Int} {o o' :Bool}
def GU (xs:List Int) (i:Int) (kind:ByteArray) (i' :Int) (o' :Bool):Prop:=i<i' ∧(Nb xs→N0 xs→o' =false→GQ xs i kind i')
theorem jQ {f:Int→Prop} [DecidablePred f] {p:Int} (hf:¬f 0) (h0:0≤p) (h:f (at_ xs p)):run f (xs++ [0]) p=run f xs p:=by
 have h1:p<xs.length:=sW (fun e=>hf (e▸h))
 exact jB hf h0 (by omega)
theorem Fi.snoc {q:Int} {b:Bool} (h:Fi xs i q b):Fi (xs++ [0]) i q b:=by unfold Fi at*;rw [aY];exact h
theorem Fi.ge {q:Int} {b:Bool} (h:Fi xs i q b):i≤q:=by rcases h with ⟨_,_,rfl⟩|⟨_,_,rfl⟩|⟨_,_,_,rfl⟩<;>omega
theorem dg0:¬Dg 0:=by decide
theorem xz.snoc {q:Int} (h0:0≤i) (h:xz xs i q):xz (xs++ [0]) i q:=by
 rcases h with ⟨h1,h2,h3⟩|⟨h1,q3,b,h2,h3⟩
 ·exact .inl ⟨by rw [aY];exact h1,by rw [aY];exact h2,h3⟩
 ·refine .inr ⟨by rw [aY];exact h1,q3,b,h2.snoc,?_⟩
  have:=h2.ge
  rcases h3 with ⟨h3,h4⟩|⟨h3,h4⟩
  ·exact .inl ⟨by rw [aY];exact h3,by rw [jQ dg0 (by omega) h3];exact h4⟩
  ·exact .inr ⟨by rw [aY];exact h3,h4⟩
theorem pD.snoc {q:Int} (h0:0≤i) (h:pD xs i q):pD (xs++ [0]) i q:=by
 obtain⟨q0,q1,q2,b,fd,h2,h3,h4,h5⟩:=h
 have h6:=h2.ge
 have h7:q0≤q1:=by
  rcases h3 with ⟨_,_,rfl⟩|⟨_,_,rfl⟩
  ·exact bL
  ·omega
 have h8:q1≤q2:=by
  rcases h4 with ⟨_,_,rfl⟩|⟨_,_,_,rfl⟩|⟨_,_,rfl⟩
  ·have:=bL (f:=Dg) (bs:=xs) (p:=q1+1);omega
  ·omega
  ·omega
 refine⟨q0,q1,q2,b,fd,h2.snoc,?_,?_,h5.snoc (by omega)⟩
 ·rcases h3 with ⟨a,b,c⟩|⟨a,b,c⟩
  ·exact .inl ⟨a,by rw [aY];exact b,by rw [jQ dg0 (by omega) b];exact c⟩
  ·exact .inr ⟨a,by rw [aY];exact b,c⟩
 ·rw [aY,aY]
  rcases h4 with ⟨a,b,c⟩|h4|h4
  ·exact .inl ⟨a,b,by rw [jQ dg0 (by omega) b];exact c⟩
  ·exact .inr (.inl h4)
  ·exact .inr (.inr h4)
theorem lr.snoc {q:Int} (h:lr xs q):lr (xs++ [0]) q:=by unfold lr at*;rw [aY,aY];exact h
theorem fu.snoc {q:Int} (h:fu xs q):fu (xs++ [0]) q:=by unfold fu at*;rw [aY,aY];exact h
theorem Oa {q:Int} {kind:ByteArray} (h0:0≤i) (hN:gN xs i) (hn:pD xs i q) (hq0:0≤q) (hu:vM xs q kind i'):GQ xs i kind i':=by
 have hf:Dg (at_ (xs++ [0]) i)∨at_ (xs++ [0]) i=46∨at_ (xs++ [0]) i=43∨(at_ (xs++ [0]) i=45∧fu (xs++ [0]) i∧(at_ (xs++ [0]) (i+1)==45)=false):=by
  rw [aY,aY]
  unfold gN sg at hN
  by_cases h1:at_ xs i=43
  ·exact .inr (.inr (.inl h1))
  ·by_cases h2:at_ xs i=45
   ·rw [if_pos (.inr h2)] at hN
    have h3:¬Sn (at_ xs (i+1))∧at_ xs (i+1)≠45:=by
     unfold Sn
     rcases hN with hN|hN
     ·unfold Dg at hN;omega
     ·omega
    exact .inr (.inr (.inr ⟨h2,(fu.snoc (.inr ⟨h2,h3⟩)),by simpa using h3.2⟩))
   ·rw [if_neg (by omega),Int.add_zero] at hN
    rcases hN with hN|hN
    ·exact .inl hN
    ·exact .inr (.inl hN.1)
 rcases hu with ⟨rfl,h1,rfl⟩|⟨rfl,h1,rfl⟩|⟨rfl,h1,h2,rfl⟩
 ·refine .inl ⟨12,.dim,.num q _ _ (hn.snoc h0) (.inr (.inl ⟨?_,h1.snoc,rfl,?_⟩)) hf⟩
  ·rw [aY]
   unfold lr Sn at h1
   simp;omega
  ·rw [jQ (by decide) hq0]
   unfold lr at h1
   rcases h1 with h1|⟨h1,_⟩
   ·exact h1.nm
   ·rw [h1];decide
 ·exact .inl ⟨11,.pct,.num q _ _ (hn.snoc h0) (.inl ⟨by rw [aY];simpa using h1,rfl,rfl⟩) hf⟩
 ·exact .inl ⟨10,.num,.num _ _ _ (hn.snoc h0) (.inr (.inr ⟨by rw [aY];simpa using h1,h2.snoc,rfl,rfl⟩)) hf⟩
theorem pD.ge {q:Int} (h:pD xs i q):i≤q:=by
 obtain⟨q0,q1,q2,b,fd,h2,h3,h4,h5⟩:=h
 have h6:=h2.ge
 have h7:q0≤q1:=by
  rcases h3 with ⟨_,_,rfl⟩|⟨_,_,rfl⟩
  ·exact bL
  ·omega
 have h8:q1≤q2:=by
  rcases h4 with ⟨_,_,rfl⟩|⟨_,_,_,rfl⟩|⟨_,_,rfl⟩
  ·have:=bL (f:=Dg) (bs:=xs) (p:=q1+1);omega
  ·omega
  ·omega
 rcases h5 with ⟨_,_,rfl⟩|⟨_,q3,b,h9,dG⟩
 ·omega
 ·have:=h9.ge
  rcases dG with ⟨_,rfl⟩|⟨_,rfl⟩
  ·have:=bL (f:=Dg) (bs:=xs) (p:=q3);omega
  ·omega
def Tk5 (xs:List Int) (i:Int) (o:Bool) (r:ByteArray×Int×Bool):Prop:=i≤r.2.1∧r.2.1≤xs.length∧(o=true→r.2.2=true)∧r.1.size≤16∧GU xs i r.1 r.2.1 r.2.2
theorem C4.GV {f:FuncId} {ar:List Value} {P:ByteArray→Int→Bool→Prop} {r:ByteArray×Int×Bool} {o1:Bool} (h:C4 f ar xs i o1 P r) (ho:o=true→o1=true) (hp:P r.1 r.2.1 r.2.2→GU xs i r.1 r.2.1 r.2.2):Tk5 xs i o r:=⟨h.ge,h.le,fun e=>h.op (ho e),h.sz,hp h.pr⟩
abbrev TS:ByteArray:=⟨#[45,45,62]⟩
theorem J4 (o:Bool) (hx:Tx xs) (h0:0≤i) (h1:i<xs.length):∃r,C4 68 [] xs i o (GU xs i) r:=by
 classical
 have hl:=hx.len
 obtain⟨rq,hq⟩:=GS o hx h0 h1
 obtain⟨rn,hn⟩:=C6 o hx h0 (by omega:i≤xs.length)
 obtain⟨b,o1,a1,a2,a3,a4,a5⟩:=lO (o:=o) (n:=0) hx h0 (by omega:i≤xs.length) (by omega) (by omega)
 rw [Int.add_zero] at a3 a4 a5
 obtain⟨rs,hs⟩:=N8 o1 hx h0 h1
 obtain⟨rc,hc⟩:∃r,(at_ xs i=47∧at_ xs (i+1)=42)→C4 108 [] xs i o (fun kind i' o' =>i<i' ∧kind=CW) r:=by
  by_cases h:at_ xs i=47∧at_ xs (i+1)=42
  ·have:=fa (xs:=xs) (i:=i+1) (by omega) (by omega)
   obtain⟨r,hr⟩:=C5 o hx h0 (by omega:i+2≤xs.length)
   exact⟨r,fun _=>hr⟩
  ·exact⟨default,fun h' =>absurd h' h⟩
 obtain⟨rr,hr⟩:∃r,((at_ xs i=117∨at_ xs i=85)∧at_ xs (i+1)=43∧(Hx (at_ xs (i+2))∨at_ xs (i+2)=63))→C4 112 [] xs i o (fun kind i' o' =>i<i' ∧kind=xB) r:=by
  by_cases h:(at_ xs i=117∨at_ xs i=85)∧at_ xs (i+1)=43∧(Hx (at_ xs (i+2))∨at_ xs (i+2)=63)
  ·have:=fa (xs:=xs) (i:=i+1) (by omega) (by omega)
   obtain⟨r,hr⟩:=JZ o hx h0 (by omega:i+2≤xs.length)
   exact⟨r,fun _=>hr⟩
  ·exact⟨default,fun h' =>absurd h' h⟩
 obtain⟨ri,hi⟩:∃r,b=true→C4 114 [] xs i o1 (QF xs i) r:=by
  cases b with
  | false=>exact⟨default,fun h=>by cases h⟩
  | true=>
   obtain⟨k1,i1,o2,n1,n2,n3,n4,n5⟩:∃(k:Nat) (i' :Int) (o' :Bool),az.f k xs i o1=some (i',o')∧i<i' ∧i' ≤xs.length∧(o1=true→o' =true)∧(Nb xs→i' =run Nm xs i∧o' =o1):=by
    rcases a3 rfl with hs|hs
    ·obtain⟨i',o',b1,b2,b3,b4,b5,b6⟩:=qx (o:=o1) hx h0 (by omega)
     exact⟨_,i',o',b1 _ (Nat.le_refl _),b5 hs,b3,b4,b6⟩
    ·obtain⟨i',o',b1,b2,b3,b4⟩:=JK (b:=true) (o:=o1) hx h0 (by omega) (hs rfl)
     obtain⟨i2,o3,d1,d2,d3,d4,d5,d6⟩:=qx (o:=o1) hx h0 (by omega)
     have e:=b1 _ (Nat.le_refl _)
     rw [d1 _ (by omega)] at e
     injection e with e
     injection e with e1 e2
     subst e1;subst e2
     exact⟨_,i2,o3,d1 _ (Nat.le_refl _),b2,d3,d4,d6⟩
   obtain⟨r,hr⟩:=xG o1 hx h0 (by omega) n1 n2 n3 n4 n5
   exact⟨r,fun _=>hr⟩
 obtain⟨r,e1,e2,e3,e4,e5,e6,e7,e8⟩:∃r:ByteArray×Int×Bool,
   (Ws (at_ xs i)→r=(xC,run Ws xs i,o))∧
   (¬Ws (at_ xs i)→(at_ xs i=34∨at_ xs i=39)→r=rq)∧
   (¬Ws (at_ xs i)→¬(at_ xs i=34∨at_ xs i=39)→(at_ xs i=47∧at_ xs (i+1)=42)→r=rc)∧
   (¬Ws (at_ xs i)→¬(at_ xs i=34∨at_ xs i=39)→¬(at_ xs i=47∧at_ xs (i+1)=42)→gN xs i→r=rn)∧
   (¬Ws (at_ xs i)→¬(at_ xs i=34∨at_ xs i=39)→¬(at_ xs i=47∧at_ xs (i+1)=42)→¬gN xs i→((at_ xs i=117∨at_ xs i=85)∧at_ xs (i+1)=43∧(Hx (at_ xs (i+2))∨at_ xs (i+2)=63))→r=rr)∧
   (¬Ws (at_ xs i)→¬(at_ xs i=34∨at_ xs i=39)→¬(at_ xs i=47∧at_ xs (i+1)=42)→¬gN xs i→¬((at_ xs i=117∨at_ xs i=85)∧at_ xs (i+1)=43∧(Hx (at_ xs (i+2))∨at_ xs (i+2)=63))→(at_ xs i=45∧at_ xs (i+1)=45∧at_ xs (i+2)=62)→r=(TS,i+3,o))∧
   (¬Ws (at_ xs i)→¬(at_ xs i=34∨at_ xs i=39)→¬(at_ xs i=47∧at_ xs (i+1)=42)→¬gN xs i→¬((at_ xs i=117∨at_ xs i=85)∧at_ xs (i+1)=43∧(Hx (at_ xs (i+2))∨at_ xs (i+2)=63))→¬(at_ xs i=45∧at_ xs (i+1)=45∧at_ xs (i+2)=62)→b=true→r=ri)∧
   (¬Ws (at_ xs i)→¬(at_ xs i=34∨at_ xs i=39)→¬(at_ xs i=47∧at_ xs (i+1)=42)→¬gN xs i→¬((at_ xs i=117∨at_ xs i=85)∧at_ xs (i+1)=43∧(Hx (at_ xs (i+2))∨at_ xs (i+2)=63))→¬(at_ xs i=45∧at_ xs (i+1)=45∧at_ xs (i+2)=62)→¬b=true→r=rs):=by
  refine⟨if Ws (at_ xs i) then (xC,run Ws xs i,o) else if (at_ xs i=34∨at_ xs i=39) then rq else if (at_ xs i=47∧at_ xs (i+1)=42) then rc else if gN xs i then rn else if ((at_ xs i=117∨at_ xs i=85)∧at_ xs (i+1)=43∧(Hx (at_ xs (i+2))∨at_ xs (i+2)=63)) then rr else if (at_ xs i=45∧at_ xs (i+1)=45∧at_ xs (i+2)=62) then (TS,i+3,o) else if b=true then ri else rs,?_,?_,?_,?_,?_,?_,?_,?_⟩
  ·intro h;rw [if_pos h]
  ·intro h1 h2;rw [if_neg h1,if_pos h2]
  ·intro h1 h2 h3;rw [if_neg h1,if_neg h2,if_pos h3]
  ·intro h1 h2 h3 h4;rw [if_neg h1,if_neg h2,if_neg h3,if_pos h4]
  ·intro h1 h2 h3 h4 h5;rw [if_neg h1,if_neg h2,if_neg h3,if_neg h4,if_pos h5]
  ·intro h1 h2 h3 h4 h5 h6;rw [if_neg h1,if_neg h2,if_neg h3,if_neg h4,if_neg h5,if_pos h6]
  ·intro h1 h2 h3 h4 h5 h6 h7;rw [if_neg h1,if_neg h2,if_neg h3,if_neg h4,if_neg h5,if_neg h6,if_pos h7]
  ·intro h1 h2 h3 h4 h5 h6 h7;rw [if_neg h1,if_neg h2,if_neg h3,if_neg h4,if_neg h5,if_neg h6,if_neg h7]
 have p5:Tk5 xs i o r:=by
  by_cases k1:Ws (at_ xs i)
  ·rw [e1 k1]
   have hr:=bL (f:=Ws) (bs:=xs) (p:=i+1)
   rw [←fH h0 h1 k1] at hr
   exact⟨by show i≤run Ws xs i;omega,ib (f:=Ws) (bs:=xs) h0 (by omega),id,(by decide:xC.size≤16),by show i<run Ws xs i;omega,fun _ _ _=> .inr (.inl .blank)⟩
  by_cases k2:at_ xs i=34∨at_ xs i=39
  ·rw [e2 k1 k2]
   refine hq.GV id fun ⟨p1,p2⟩=>⟨p1,fun hn hz ho=> ?_⟩
   obtain⟨ek,r,er,r1,r2,r3,r4⟩:=p2 hn hz ho
   rw [ek,er]
   exact .inl ⟨5,.str,.string r (by rw [aY];exact k2) r1 (by simp;omega) (fun m a b=>by rw [aY,aY];exact r4 m a b) (by rw [aY,aY];exact r3)⟩
  by_cases k3:at_ xs i=47∧at_ xs (i+1)=42
  ·rw [e3 k1 k2 k3]
   exact(hc k3).GV id fun ⟨p1,p2⟩=>⟨p1,fun _ _ _=> .inr (.inl (p2▸ .com))⟩
  by_cases k4:gN xs i
  ·rw [e4 k1 k2 k3 k4]
   refine hn.GV id fun ⟨p1,p2⟩=>⟨p1 k4,fun Ii _ ho=> ?_⟩
   obtain⟨q,q1,q2⟩:=p2 Ii k4 ho
   exact Oa h0 k4 q1 (by have:=q1.ge;omega) q2
  by_cases k5:(at_ xs i=117∨at_ xs i=85)∧at_ xs (i+1)=43∧(Hx (at_ xs (i+2))∨at_ xs (i+2)=63)
  ·rw [e5 k1 k2 k3 k4 k5]
   exact(hr k5).GV id fun ⟨p1,p2⟩=>⟨p1,fun _ _ _=> .inr (.inl (p2▸ .ran))⟩
  by_cases k6:at_ xs i=45∧at_ xs (i+1)=45∧at_ xs (i+2)=62
  ·rw [e6 k1 k2 k3 k4 k5 k6]
   have:=fa (xs:=xs) (i:=i+2) (by omega) (by omega)
   exact⟨by show i≤i+3;omega,by show i+3≤_;omega,id,(by decide:TS.size≤16),by show i<i+3;omega,fun _ _ _=> .inr (.inl .cdc)⟩
  by_cases k7:b=true
  ·rw [e7 k1 k2 k3 k4 k5 k6 k7]
   refine(hi k7).GV a2 fun ⟨p1,p2⟩=>⟨p1,fun hn _ ho=> ?_⟩
   have NY:o1=false:=by
    cases h:o1 with
    | true=>rw [(hi k7).op h] at ho;cases ho
    | false=>rfl
   have TT:=(a5 hn).1.1 k7
   have MD:=(a5 hn).2 NY
   have hf:(at_ (xs++ [0]) i=117∨at_ (xs++ [0]) i=85)→nU (xs++ [0]) i:=by
    rw [aY]
    intro hu V8
    rw [aY] at V8
    rw [aY]
    exact⟨fun h=>k5 ⟨hu,V8,.inl h⟩,fun h=>k5 ⟨hu,V8,.inr h⟩⟩
   have hm:at_ (xs++ [0]) i=45→(at_ (xs++ [0]) (i+1)==45)=false:=by
    rw [aY,aY]
    intro h
    simp
    exact fun h' =>MD ⟨h,h'⟩
   rcases p2 hn ho with ⟨ek,p⟩|⟨ek,p⟩|⟨ek,p⟩
   ·rw [ek];exact .inl ⟨1,.ident,.uO _ _ TT.snoc p hf hm⟩
   ·rw [ek];exact .inl ⟨2,.fn,.uO _ _ TT.snoc p hf hm⟩
   ·rw [ek];exact .inl ⟨7,.url,.uO _ _ TT.snoc p hf hm⟩
  ·rw [e8 k1 k2 k3 k4 k5 k6 k7]
   exact hs.GV a2 fun ⟨p1,p2⟩=>⟨p1,fun hn _ ho=>p2 hn k4 ho⟩
 refine⟨r,p5.1,p5.2.1,p5.2.2.1,p5.2.2.2.1,p5.2.2.2.2,fun w0 ws w g h=> ?_⟩
 have HH:=am h
 have HX:=am hx
 have E:=am (And.intro e1 (And.intro e2 (And.intro e3 (And.intro e4 (And.intro e5 (And.intro e6 (And.intro e7 e8)))))))
 have HS:=am (And.intro hq (And.intro hc (And.intro hn (And.intro hr (And.intro hi hs)))))
 have HI:=am a1
 clear h e1 e2 e3 e4 e5 e6 e7 e8 hq hc hn hr hi hs a1 a2 a3 a4 a5 p5
 by_cases J5:Ws (at_ xs i)
 ·have HW:=am J5
  have hr:=bL (f:=Ws) (bs:=xs) (p:=i+1)
  have te:=ib (f:=Ws) (bs:=xs) (p:=i) h0 (by omega)
  rw [←fH h0 h1 J5] at hr
  clear J5 hx
  go_enter Tryz.func68,Tryz.ntmps68
  go_wp2_with (first
   | (go_at_call 104;(with_reducible refine(iN HH.out HX.out (by omega) (by omega)).mono ?_);rintro e w1 ⟨rfl,iV⟩;have qu:=am iV;clear iV)
   | (go_at_call 104;(with_reducible refine(eP qu.out HX.out (by omega) (by omega)).mono ?_);rintro e w2 ⟨rfl,qX⟩;have uR:=am qX;clear qX)
   | (go_at_call 105;(with_reducible refine(pK true (by simp [HW.out]) uR.out).mono ?_);rintro e w3 ⟨rfl,J6⟩;have C8:=am J6;clear J6)
   | (go_at_call 106;(with_reducible refine(GR C8.out HX.out (by omega) (by omega)).mono ?_);rintro e w4 ⟨rfl,qY⟩;have yE:=am qY;clear qY))
  go_ret
  rw [E.out.1 HW.out]
  exact⟨rfl,yE.out⟩
 by_cases hq:at_ xs i=34∨at_ xs i=39
 ·have HW:=am J5
  have HQ:=am hq
  clear J5 hx
  have YC:=E.out.2.1 HW.out HQ.out
  have HRE:=am YC
  clear YC
  rcases hq with hq|hq
  ·have t1:(at_ xs i==34)=true:=by simp [hq]
   clear hq
   go_enter Tryz.func68,Tryz.ntmps68
   go_wp2_with (first
    | (go_at_call 104;(with_reducible refine(iN HH.out HX.out (by omega) (by omega)).mono ?_);rintro e w1 ⟨rfl,iV⟩;have qu:=am iV;clear iV)
    | (go_at_call 104;(with_reducible refine(eP qu.out HX.out (by omega) (by omega)).mono ?_);rintro e w2 ⟨rfl,qX⟩;have uR:=am qX;clear qX)
    | (go_at_call 105;(with_reducible refine(pK false (by simp [HW.out]) uR.out).mono ?_);rintro e w3 ⟨rfl,J6⟩;have C8:=am J6;clear J6)
    | (go_at_call 107;(with_reducible refine(HS.out.1.run _ _ _ _ C8.out).mono ?_);rintro e w4 ⟨rfl,hT⟩;have HT:=am hT;clear hT))
   go_ret
   rw [HRE.out]
   exact⟨rfl,HT.out⟩
  ·have t1:(at_ xs i==34)=false:=by simp [hq]
   have t2:(at_ xs i==39)=true:=by simp [hq]
   clear hq
   go_enter Tryz.func68,Tryz.ntmps68
   go_wp2_with (first
    | (go_at_call 104;(with_reducible refine(iN HH.out HX.out (by omega) (by omega)).mono ?_);rintro e w1 ⟨rfl,iV⟩;have qu:=am iV;clear iV)
    | (go_at_call 104;(with_reducible refine(eP qu.out HX.out (by omega) (by omega)).mono ?_);rintro e w2 ⟨rfl,qX⟩;have uR:=am qX;clear qX)
    | (go_at_call 105;(with_reducible refine(pK false (by simp [HW.out]) uR.out).mono ?_);rintro e w3 ⟨rfl,J6⟩;have C8:=am J6;clear J6)
    | (go_at_call 107;(with_reducible refine(HS.out.1.run _ _ _ _ C8.out).mono ?_);rintro e w4 ⟨rfl,hT⟩;have HT:=am hT;clear hT))
   go_ret
   rw [HRE.out]
   exact⟨rfl,HT.out⟩
 have agW:=J5
 have t1:(at_ xs i==34)=false:=by simp;omega
 have t2:(at_ xs i==39)=false:=by simp;omega
 have dc:=hx.at_ (i+2)
 obtain⟨v,hv,sY⟩:=fe dc.1 dc.2
 have HW:=am J5
 have HQ:=am hq
 have HV:=am (And.intro hv sY)
 clear J5 hq hx hv sY dc
 go_enter Tryz.func68,Tryz.ntmps68
 go_upto_region 7 with (first
  | (go_at_call 104;(with_reducible refine(iN HH.out HX.out (by omega) (by omega)).mono ?_);rintro e w1 ⟨rfl,iV⟩;have qu:=am iV;clear iV)
  | (go_at_call 104;(with_reducible refine(eP qu.out HX.out (by omega) (by omega)).mono ?_);rintro e w2 ⟨rfl,qX⟩;have uR:=am qX;clear qX)
  | (go_at_call 105;(with_reducible refine(pK false (by simp [HW.out]) uR.out).mono ?_);rintro e w3 ⟨rfl,J6⟩;have C8:=am J6;clear J6))
 by_cases yS:at_ xs i=47∧at_ xs (i+1)=42
 ·have t3:(at_ xs i==47)=true:=by simp [yS.1]
  have t4:(at_ xs (i+1)==42)=true:=by simp [yS.2]
  have pM:i+1+1≤xs.length:=fa (by omega) (by omega)
  have QG:=am yS
  clear yS
  go_wp2_with (first
   | (go_at_call 108;(with_reducible refine((HS.out.2.1 QG.out).run _ _ _ _ C8.out).mono ?_);rintro e w4 ⟨rfl,hT⟩;have HT:=am hT;clear hT))
  go_ret
  rw [E.out.2.2.1 HW.out HQ.out QG.out]
  exact⟨rfl,HT.out⟩
 go_cut [23] (fun s23 wx=>s23= .bool false∧Rs w0 ws g xs wx i o)
 case first=>
  by_cases YD:at_ xs i=47
  ·have t3:(at_ xs i==47)=true:=by simp [YD]
   have t4:(at_ xs (i+1)==42)=false:=by simp;exact fun h=>yS ⟨YD,h⟩
   clear yS YD
   go_wp2_with fail
   go_meet
   exact⟨rfl,C8.out⟩
  ·have t3:(at_ xs i==47)=false:=by simp [YD]
   clear yS YD
   go_wp2_with fail
   go_meet
   exact⟨rfl,C8.out⟩
 case rest=>
  obtain⟨rfl,qY⟩:=hcut
  have yE:=am qY
  have QG:=am yS
  clear qY yS
  by_cases hN:gN xs i
  ·have HN:=am hN
   clear hN
   go_wp2_with (first
    | (go_at_call 109;(with_reducible refine(td true yE.out HX.out (by omega) (by omega) (by simp [HN.out])).mono ?_);rintro e w5 ⟨rfl,C9⟩;have Ax:=am C9;clear C9)
    | (go_at_call 110;(with_reducible refine(HS.out.2.2.1.run _ _ _ _ Ax.out).mono ?_);rintro e w6 ⟨rfl,hT⟩;have HT:=am hT;clear hT))
   go_ret
   rw [E.out.2.2.2.1 HW.out HQ.out QG.out HN.out]
   exact⟨rfl,HT.out⟩
  ·have HN:=am hN
   clear hN
   go_upto_region 11 with (first
    | (go_at_call 109;(with_reducible refine(td false yE.out HX.out (by omega) (by omega) (by simp [HN.out])).mono ?_);rintro e w5 ⟨rfl,C9⟩;have Ax:=am C9;clear C9))
   by_cases uS:(at_ xs i=117∨at_ xs i=85)∧at_ xs (i+1)=43∧(Hx (at_ xs (i+2))∨at_ xs (i+2)=63)
   ·have pM:i+1+1≤xs.length:=fa (by omega) (by omega)
    go_cut [37] (fun s37 wx=>s37= .bool true∧Rs w0 ws g xs wx i o)
    case first=>
     obtain⟨x1,x2,x3⟩:=uS
     have t4:(at_ xs (i+1)==43)=true:=by simp [x2]
     by_cases x4:Hx (at_ xs (i+2))
     ·have t5:0≤v:=HV.out.2.2 x4
      clear x3 x4 x2
      rcases x1 with x1|x1
      ·have t3:(at_ xs i==117)=true:=by simp [x1]
       clear x1
       go_wp2_with (first
        | (go_at_call 104;(with_reducible refine(eP Ax.out HX.out (by omega) (by omega)).mono ?_);rintro e w6 ⟨rfl,rQ⟩;have Da:=am rQ;clear rQ)
        | (go_at_call 111;(with_reducible refine(qy v HV.out.1 Da.out).mono ?_);rintro e w7 ⟨rfl,Ay⟩;have J7:=am Ay;clear Ay))
       go_meet
       exact⟨rfl,J7.out⟩
      ·have t3:(at_ xs i==117)=false:=by simp [x1]
       have t6:(at_ xs i==85)=true:=by simp [x1]
       clear x1
       go_wp2_with (first
        | (go_at_call 104;(with_reducible refine(eP Ax.out HX.out (by omega) (by omega)).mono ?_);rintro e w6 ⟨rfl,rQ⟩;have Da:=am rQ;clear rQ)
        | (go_at_call 111;(with_reducible refine(qy v HV.out.1 Da.out).mono ?_);rintro e w7 ⟨rfl,Ay⟩;have J7:=am Ay;clear Ay))
       go_meet
       exact⟨rfl,J7.out⟩
     ·have t5:¬0≤v:=fun h=>x4 (HV.out.2.1 h)
      have t7:(at_ xs (i+2)==63)=true:=by simp;exact x3.resolve_left x4
      clear x3 x4 x2
      rcases x1 with x1|x1
      ·have t3:(at_ xs i==117)=true:=by simp [x1]
       clear x1
       go_wp2_with (first
        | (go_at_call 104;(with_reducible refine(eP Ax.out HX.out (by omega) (by omega)).mono ?_);rintro e w6 ⟨rfl,rQ⟩;have Da:=am rQ;clear rQ)
        | (go_at_call 111;(with_reducible refine(qy v HV.out.1 Da.out).mono ?_);rintro e w7 ⟨rfl,Ay⟩;have J7:=am Ay;clear Ay)
        | (go_at_call 104;(with_reducible refine(eP J7.out HX.out (by omega) (by omega)).mono ?_);rintro e w8 ⟨rfl,J8⟩;have TU:=am J8;clear J8))
       go_meet
       exact⟨rfl,TU.out⟩
      ·have t3:(at_ xs i==117)=false:=by simp [x1]
       have t6:(at_ xs i==85)=true:=by simp [x1]
       clear x1
       go_wp2_with (first
        | (go_at_call 104;(with_reducible refine(eP Ax.out HX.out (by omega) (by omega)).mono ?_);rintro e w6 ⟨rfl,rQ⟩;have Da:=am rQ;clear rQ)
        | (go_at_call 111;(with_reducible refine(qy v HV.out.1 Da.out).mono ?_);rintro e w7 ⟨rfl,Ay⟩;have J7:=am Ay;clear Ay)
        | (go_at_call 104;(with_reducible refine(eP J7.out HX.out (by omega) (by omega)).mono ?_);rintro e w8 ⟨rfl,J8⟩;have TU:=am J8;clear J8))
       go_meet
       exact⟨rfl,TU.out⟩
    case rest=>
     obtain⟨rfl,YE⟩:=hcut
     have V9:=am YE
     have GW:=am uS
     clear YE uS
     go_wp2_with (first
      | (go_at_call 112;(with_reducible refine((HS.out.2.2.2.1 GW.out).run _ _ _ _ V9.out).mono ?_);rintro e Qg ⟨rfl,hT⟩;have HT:=am hT;clear hT))
     go_ret
     rw [E.out.2.2.2.2.1 HW.out HQ.out QG.out HN.out GW.out]
     exact⟨rfl,HT.out⟩
   ·go_cut [37] (fun s37 wx=>s37= .bool false∧Rs w0 ws g xs wx i o)
    case first=>
     by_cases x1:at_ xs i=117∨at_ xs i=85
     ·by_cases x2:at_ xs (i+1)=43
      ·have x3:¬Hx (at_ xs (i+2))∧at_ xs (i+2)≠63:=⟨fun h=>uS ⟨x1,x2,.inl h⟩,fun h=>uS ⟨x1,x2,.inr h⟩⟩
       have t4:(at_ xs (i+1)==43)=true:=by simp [x2]
       have t5:decide (0≤v)=false:=decide_eq_false (fun h=>x3.1 (HV.out.2.1 h))
       have t7:(at_ xs (i+2)==63)=false:=by simpa using x3.2
       clear x2 x3 uS
       rcases x1 with x1|x1
       ·have t3:(at_ xs i==117)=true:=by simp [x1]
        clear x1
        go_wp2_with (first
         | (go_at_call 104;(with_reducible refine(eP Ax.out HX.out (by omega) (by omega)).mono ?_);rintro e w6 ⟨rfl,rQ⟩;have Da:=am rQ;clear rQ)
         | (go_at_call 111;(with_reducible refine(qy v HV.out.1 Da.out).mono ?_);rintro e w7 ⟨rfl,Ay⟩;have J7:=am Ay;clear Ay)
         | (go_at_call 104;(with_reducible refine(eP J7.out HX.out (by omega) (by omega)).mono ?_);rintro e w8 ⟨rfl,J8⟩;have TU:=am J8;clear J8))
        go_meet
        exact⟨rfl,TU.out⟩
       ·have t3:(at_ xs i==117)=false:=by simp [x1]
        have t6:(at_ xs i==85)=true:=by simp [x1]
        clear x1
        go_wp2_with (first
         | (go_at_call 104;(with_reducible refine(eP Ax.out HX.out (by omega) (by omega)).mono ?_);rintro e w6 ⟨rfl,rQ⟩;have Da:=am rQ;clear rQ)
         | (go_at_call 111;(with_reducible refine(qy v HV.out.1 Da.out).mono ?_);rintro e w7 ⟨rfl,Ay⟩;have J7:=am Ay;clear Ay)
         | (go_at_call 104;(with_reducible refine(eP J7.out HX.out (by omega) (by omega)).mono ?_);rintro e w8 ⟨rfl,J8⟩;have TU:=am J8;clear J8))
        go_meet
        exact⟨rfl,TU.out⟩
      ·have t4:(at_ xs (i+1)==43)=false:=by simpa using x2
       clear x2 uS
       rcases x1 with x1|x1
       ·have t3:(at_ xs i==117)=true:=by simp [x1]
        clear x1
        go_wp2_with fail
        go_meet
        exact⟨rfl,Ax.out⟩
       ·have t3:(at_ xs i==117)=false:=by simp [x1]
        have t6:(at_ xs i==85)=true:=by simp [x1]
        clear x1
        go_wp2_with fail
        go_meet
        exact⟨rfl,Ax.out⟩
     ·have t3:(at_ xs i==117)=false:=by simp;omega
      have t6:(at_ xs i==85)=false:=by simp;omega
      clear x1 uS
      go_wp2_with fail
      go_meet
      exact⟨rfl,Ax.out⟩
    case rest=>
     obtain⟨rfl,YE⟩:=hcut
     have V9:=am YE
     have GW:=am uS
     clear YE uS
     go_upto_region 13 with (fail)
     by_cases tf:at_ xs i=45∧at_ xs (i+1)=45∧at_ xs (i+2)=62
     ·have TR:i+2+1≤xs.length:=fa (by omega) (by omega)
      have t3:(at_ xs i==45)=true:=by simp [tf.1]
      have t4:(at_ xs (i+1)==45)=true:=by simp [tf.2.1]
      have t5:(at_ xs (i+2)==62)=true:=by simp [tf.2.2]
      have Ob:=am tf
      clear tf
      go_wp2_with (first
       | (go_at_call 104;(with_reducible refine(eP V9.out HX.out (by omega) (by omega)).mono ?_);rintro e w6 ⟨rfl,rQ⟩;obtain⟨A6,c6,Wa⟩:=rQ.cells;have g1:=Wa.c1;have gf:=Wa.f1;clear Wa;have Da:=am (rQ.N9 (i+3));clear rQ))
      go_ret
      rw [E.out.2.2.2.2.2.1 HW.out HQ.out QG.out HN.out GW.out Ob.out]
      exact⟨rfl,Da.out⟩
     ·go_cut [61] (fun s61 wx=>s61= .bool false∧Rs w0 ws g xs wx i o)
      case first=>
       by_cases x1:at_ xs i=45
       ·have t3:(at_ xs i==45)=true:=by simp [x1]
        by_cases x2:at_ xs (i+1)=45
        ·have t4:(at_ xs (i+1)==45)=true:=by simp [x2]
         have t5:(at_ xs (i+2)==62)=false:=by simp;exact fun h=>tf ⟨x1,x2,h⟩
         clear x1 x2 tf
         go_wp2_with (first|(go_at_call 104;(with_reducible refine(eP V9.out HX.out (by omega) (by omega)).mono ?_);rintro e w6 ⟨rfl,rQ⟩;have Da:=am rQ;clear rQ))
         go_meet
         exact⟨rfl,Da.out⟩
        ·have t4:(at_ xs (i+1)==45)=false:=by simpa using x2
         clear x1 x2 tf
         go_wp2_with fail
         go_meet
         exact⟨rfl,V9.out⟩
       ·have t3:(at_ xs i==45)=false:=by simpa using x1
        clear x1 tf
        go_wp2_with fail
        go_meet
        exact⟨rfl,V9.out⟩
      case rest=>
       obtain⟨rfl,YF⟩:=hcut
       have YG:=am YF
       have Ob:=am tf
       clear YF tf
       cases b with
       | true=>
        go_wp2_with (first
         | (go_at_call 113;(with_reducible refine(oA (HI.out 1 (Nat.le_refl _)) YG.out).mono ?_);rintro e VT ⟨rfl,J9⟩;have TV:=am J9;clear J9)
         | (go_at_call 114;(with_reducible refine((HS.out.2.2.2.2.1 (by simp)).run _ _ _ _ TV.out).mono ?_);rintro e VS ⟨rfl,hT⟩;have HT:=am hT;clear hT))
        go_ret
        rw [E.out.2.2.2.2.2.2.1 HW.out HQ.out QG.out HN.out GW.out Ob.out (by simp)]
        exact⟨rfl,HT.out⟩
       | false=>
        go_wp2_with (first
         | (go_at_call 113;(with_reducible refine(oA (HI.out 1 (Nat.le_refl _)) YG.out).mono ?_);rintro e VT ⟨rfl,J9⟩;have TV:=am J9;clear J9)
         | (go_at_call 115;(with_reducible refine(HS.out.2.2.2.2.2.run _ _ _ _ TV.out).mono ?_);rintro e VS ⟨rfl,hT⟩;have HT:=am hT;clear hT))
        go_ret
        rw [E.out.2.2.2.2.2.2.2 HW.out HQ.out QG.out HN.out GW.out Ob.out (by simp)]
        exact⟨rfl,HT.out⟩
end
end Go.Proofs.YtlglijnaeaonpaaGreatDoor.Lx
end
