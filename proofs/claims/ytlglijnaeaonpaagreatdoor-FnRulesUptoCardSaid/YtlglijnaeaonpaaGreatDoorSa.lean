/- FnRules: a part of the proof (Sa). -/
import Derived.Test.YtlglijnaeaonpaaGreatDoorRy
import Derived.Test.YtlglijnaeaonpaaGreatDoorRz
section
set_option maxHeartbeats 8000000
set_option maxRecDepth 100000
set_option linter.unusedVariables false
set_option linter.unusedSimpArgs false
namespace Go.Proofs.YtlglijnaeaonpaaGreatDoor.Lx
open Go.RowKit Go.Proofs.YtlglijnaeaonpaaGreatDoorW.aC Go.Proofs.YtlglijnaeaonpaaGreatDoor.bG
theorem BI {ws:List (List Int)} {j:Nat} {x:List Int} (h:ws[j]? =some x):aX (ws.take (j+1))=aX (ws.take j)++ [32]++x:=by
 unfold aX
 rw [List.take_add_one,h,List.flatMap_append]
 simp
theorem tZ {ws:List (List Int)} (j:Nat):(aX (ws.take j)).length≤(aX ws).length:=by
 have:aX ws=aX (ws.take j)++aX (ws.drop j):=by
  unfold aX
  rw [←List.flatMap_append,List.take_append_drop]
 rw [this,List.length_append]
 omega
theorem we {w:World} {A:Option Addr} {c:Nat} {ws:List (List Int)} (h:VL w A c ws) (hb:(aX ws).length≤1000000000) (hl:ws.length≤1000000):
  Calls Tryz.prog 17 #[.slice A ws.length c] w (OL w (aX ws)):=by
 have HV:=am (And.intro h hb)
 clear h hb
 have qf:DT w (w.alloc (.cells #[] 5)) (.slice (some ⟨w.heap.size,0,none⟩) 0 0) (aX (ws.take 0)) 1000000000:=by
  refine⟨⟨rfl,.inr ⟨w.heap.size,0,#[],rfl,Nat.le_refl _,?_,by simp [aX],by simp [maxLen,aX],by simp,by simp [aX,bp]⟩⟩,au (Below.refl _ _) _,by simp [aX]⟩
  simpa using heap_alloc_new w (.cells #[] 5)
 have rV:=am qf
 clear qf
 go_enter Tryz.func17,Tryz.ntmps17
 go_wp2
 go_loopg [3,9] (ws.length+1) (fun gk v3 v9 wr=>∃j:Int,v9= .int .i64 j∧0≤j∧j≤ws.length∧ak (DT w wr v3 (aX (ws.take j.toNat)) 1000000000)∧gk=((ws.length:Int) - j).toNat+1)
 case atStart=>exact⟨0,rfl,by omega,by omega,rV,by omega⟩
 case round=>
  clear rV
  obtain⟨j,rfl,h0,h1,HR,rfl⟩:=hrel
  obtain⟨A3,n3,c3,rfl⟩:=HR.out.slice
  by_cases hj:j<ws.length
  ·obtain⟨ad,A0,c0,x,rfl,hx,x0,iR⟩:=HV.out.1.get h0 hj
   replace x0:=al HR.out.be x0
   have B7:=eq_true h0
   have qZ:=BI hx
   have HX:=am (And.intro iR qZ)
   have hlen:(aX (ws.take j.toNat)++ [32]++x).length≤1000000000:=by
    rw [←qZ]
    have:=tZ (ws:=ws) (j.toNat+1)
    have:=HV.out.2
    omega
   have Wj:(aX (ws.take j.toNat)).length+1+x.length≤1000000000:=by
    simp [List.length_append] at hlen
    omega
   have HL:=am Wj
   clear hx iR qZ hlen Wj
   go_wp2_with (first
    | (at_builtin;refine cz (w0:=w) w.heap.size rfl (.tmp 13) (.tmp 14) 24 5 .u8 1 (by rfl) Tryz.underlying24 cF (by decide) (.slice A3 n3 c3) _ 32 (by rfl) (by first|rfl|simp [Act.eval]) HR.out.own HR.out.be HR.out.be.size (by have:=HL.out;omega) ?_;intro v4 w4 bl hB hg dz;have kp:=am (And.intro bl hB);clear bl hB hg dz)
    | (at_builtin;refine cA (w0:=w) w.heap.size rfl (.tmp 15) (.tmp 16) 24 5 .u8 1 (by rfl) Tryz.underlying24 cF (by decide) v4 _ _ A0 x.length c0 (by rfl) (by rfl) kp.out.1 (dO (Kd.cG HX.out.1.rd kp.out.2)) kp.out.2 kp.out.2.size (by have:=HL.out;rw [List.length_append];simp;omega) ?_;intro v5 w5 bl hB hg dz;have nn:=am (And.intro bl hB);clear bl hB hg dz))
   go_roundg (((ws.length:Int) - (j+1)).toNat+1)
   case measure=>omega
   case rel=>
    refine⟨j+1,rfl,by omega,by omega,⟨?_⟩,rfl⟩
    rw [show (j+1).toNat=j.toNat+1 by omega,HX.out.2]
    exact⟨nn.out.1,nn.out.2,by have:=HL.out;simp [List.length_append];omega⟩
  ·have rC:j=ws.length:=by omega
   subst rC
   go_wp2
   go_ret
   have h7:=HR.out
   rw [show ((ws.length:Nat):Int).toNat=ws.length by omega,List.take_length] at h7
   exact⟨_,rfl,h7.own,h7.be⟩
noncomputable def d6:Code:=(Tryz.f6.body.bind dT).getD .skip
theorem cV (l:List Value) (hl:l.length=91):∃f:Nat→Value,(∀i,l.getD i default=f i)∧l=f 0::f 1::f 2::f 3::f 4::f 5::f 6::f 7::f 8::f 9::f 10::f 11::f 12::f 13::f 14::f 15::f 16::f 17::f 18::f 19::f 20::f 21::f 22::f 23::f 24::f 25::f 26::f 27::f 28::f 29::f 30::f 31::f 32::f 33::f 34::f 35::f 36::f 37::f 38::f 39::f 40::f 41::f 42::f 43::f 44::f 45::f 46::f 47::f 48::f 49::f 50::f 51::f 52::f 53::f 54::f 55::f 56::f 57::f 58::f 59::f 60::f 61::f 62::f 63::f 64::f 65::f 66::f 67::f 68::f 69::f 70::f 71::f 72::f 73::f 74::f 75::f 76::f 77::f 78::f 79::f 80::f 81::f 82::f 83::f 84::f 85::f 86::f 87::f 88::f 89::f 90:: []:=by
 refine⟨fun i=>l.getD i default,fun _=>rfl,?_⟩
 conv=>lhs;rw [iP l,hl]
 kernel_rfl
theorem D2 {l:List Value} {i:Nat} {v:Value} (h:l.getD i default=v) (hl:l.length=91) (hi:i<91):(⟨l.toArray,[]⟩:Act).eval (.tmp i)=v:=qa h (by omega)
def SH (A:Option Addr) (n c:Nat) (st j:Int) (l:List Value):Prop:=l.length=91∧l.getD 1 default= .int .i64 st∧l.getD 9 default= .slice A n c∧l.getD 10 default= .int .i64 n∧l.getD 11 default= .int .i64 j
def OT (w W:World) (v:Value) (xs:List Int):Prop:=W.ownsRow w.heap.size 5 1 v xs.length (bp .u8 xs)∧Below w.heap.size w W
theorem OT.below {w W W' :World} {v:Value} {xs:List Int} (h:OT w W v xs) (hb:Below W.heap.size W W'):OT w W' v xs:=⟨cX h.1 hb,h.2.trans (hb.mono h.2.size)⟩
theorem OT.drew {w W:World} {v:Value} {xs:List Int} (h:OT w W v xs):OT w W.drew v xs:=⟨h.1,bn h.2 1⟩
theorem wg {D:Nat→Bool} {L i:Nat} (hf:D L=true→∀k,k<L→D k=true) (hi:i<L) (gq:D i=false):D L=false:=by
 cases h:D L with
 | false=>rfl
 | true=>exact absurd ((hf h i hi).symm.trans gq) (by decide)
def Src (W:World) (row:Option Nat) (v:Value) (ys:List Int):Prop:=∃A c,v= .slice A ys.length c∧dU W .u8 A ys.length ys∧∀ad,A=some ad→some ad.block≠row∧ad.block<W.heap.size
theorem Src.below {W W' :World} {row:Option Nat} {v:Value} {ys:List Int} (h:Src W row v ys) (hb:Below W.heap.size W W'):Src W' row v ys:=by
 obtain⟨A,c,e,hr,hn⟩:=h
 exact⟨A,c,e,hr.below hb,fun ad ha=>⟨(hn ad ha).1,by have:=(hn ad ha).2;have:=hb.size;omega⟩⟩
theorem Src.grown {W W' :World} {row Vs :Option Nat} {v:Value} {ys:List Int} (h:Src W row v ys) (hg:W.grownBy W' row) (Wp :Vs =row∨Vs =some W.heap.size):Src W' Vs v ys:=by
 obtain⟨A,c,e,hr,hn⟩:=h
 refine⟨A,c,e,⟨hr.1,hr.2.1,fun hp=> ?_⟩,fun ad ha=>⟨?_,?_⟩⟩
 ·obtain⟨ad,ha,hc⟩:=hr.2.2 hp
  obtain⟨n1,n2⟩:=hn ad ha
  have hb:=hg.block ad.block n2 n1
  refine⟨ad,ha,fun j hj=> ?_⟩
  rw [←hc j hj]
  exact World.cell?_of_block (by rw [rW];exact hb)
 ·obtain⟨n1,n2⟩:=hn ad ha
  rcases Wp with rfl|rfl
  ·exact n1
  ·intro hh
   injection hh with hh
   omega
 ·have:=(hn ad ha).2
  have:=hg.size
  omega
theorem Src.new {W:World} {B n:Nat} {v:Value} {cs:List Value} {y:Int} (h:W.ownsRow B 5 1 v n cs):Src (W.alloc (.cells #[.int .u8 y] 5)) v.ownBlock (.slice (some ⟨W.heap.size,0,none⟩) 1 1) [y]:=by
 have xM:=heap_alloc_new W (.cells #[.int .u8 y] 5)
 refine⟨some ⟨W.heap.size,0,none⟩,1,rfl,⟨rfl,by simp,fun _=>⟨_,rfl,fun j hj=> ?_⟩⟩,fun ad ha=> ?_⟩
 ·have pb:j=0:=by simp at hj;omega
  subst pb
  show (W.alloc (.cells #[.int .u8 y] 5)).cell? ⟨W.heap.size,0,none⟩=_
  rw [ao xM]
  rfl
 ·injection ha with ha
  subst ha
  exact⟨Cg h 0,by simp⟩
theorem Src.own {W W' :World} {B n:Nat} {v v' :Value} {cs:List Value} {ys:List Int} (h:W.ownsRow B 5 1 v n cs) (hy:W'.ownsRow W.heap.size 5 1 v' ys.length (bp .u8 ys)):Src W' v.ownBlock v' ys:=by
 obtain⟨A1,c1,rfl,oT⟩:=qj hy
 refine⟨A1,c1,rfl,oT,fun ad ha=> ?_⟩
 subst ha
 have h1:=fg hy ad.block rfl
 refine⟨fun hh=> ?_,?_⟩
 ·rcases h.2 with ⟨rfl,_⟩|⟨g,cap,cur,rfl,_,hh2,_⟩
  ·cases hh
  ·have hg:ad.block=g:=by simpa [Value.ownBlock] using hh
   have:=cT hh2
   omega
 ·rcases hy.2 with ⟨e,_⟩|⟨g,cap,cur,e,_,hh2,_⟩
  ·cases e
  ·injection e with e
   injection e with e
   subst e
   exact cT hh2
structure Rg where
 F:List (Nat×Nat×Value)
 B:List (Nat×Value)
 P:List (List Int)
 A:List (Nat×Nat)
 S:List (Nat×Nat×Nat×List Int)
 n:Nat
def Rg.T (r:Rg) (xs:List Int) (s:Nat):List Int:=xs++(r.P.take s).flatten
structure Rl (r:Rg) (w:World) (o:Value) (xs:List Int) (g:Nat) (b:Array Value) (D:Nat→Bool) (l:List Value) (W:World):Prop where
 len:l.length=91
 fr:∀x∈r.B,l.getD x.1 default=x.2
 eC:W.heap[g]? =some (.cells b 38 (0,0))
 s5:D r.n=false→l.getD 5 default=o
 fin:D r.n=true→∀k,k<r.n→D k=true
 f:∀x∈r.F,D x.1=true→l.getD x.2.1 default=x.2.2
 cur:∃cur s,(D r.n=true→l.getD 5 default=cur)∧(∀x∈r.S,D x.1=true→D x.2.2.1=false→Src W cur.ownBlock (l.getD x.2.1 default) x.2.2.2)∧
  (∀k a,r.A[k]? =some a→D a.1=decide (k<s)∧(s=k+1→l.getD a.2 default=cur))∧(s=0→cur=o)∧s≤r.A.length∧OT w W cur (r.T xs s)
def Rg.chk (r:Rg) (i d:Nat):Bool:=decide (i<r.n∧d<91∧d≠5)&&r.B.all (fun x=>decide (x.1≠d))&&r.F.all (fun x=>decide (x.1=i↔x.2.1=d))&&r.A.all (fun x=>decide (x.1≠i∧x.2≠d))&&r.S.all (fun x=>decide ((x.1=i↔x.2.1=d)∧x.2.2.1≠i))
def Rg.abp (r:Rg) (t i d:Nat):Bool:=decide (i<r.n∧d<91∧d≠5)&&r.B.all (fun x=>decide (x.1≠d))&&r.F.all (fun x=>decide (x.1≠i∧x.2.1≠d))&&r.S.all (fun x=>decide (x.1≠i∧x.2.1≠d))&&
 (List.range r.A.length).all (fun k=>((r.A[k]?).map fun a=>decide (a.1=i↔k=t)&&decide (k=t→a.2=d)).getD true)
variable {r:Rg} {w W W' :World} {o:Value} {xs:List Int} {g:Nat} {b:Array Value} {D:Nat→Bool} {l:List Value} {i d:Nat} {v:Value}
theorem Rl.start (hl:l.length=91) (hB:∀x∈r.B,l.getD x.1 default=x.2) (dd:W.heap[g]? =some (.cells b 38 (0,0))) (h5:l.getD 5 default=o) (hO:OT w W o xs):Rl r w o xs g b (fun _=>false) l W.drew:=
 ⟨hl,hB,dd,fun _=>h5,(fun h=>by cases h),(fun x hx h=>by cases h),o,0,(fun h=>by cases h),(fun x hx h=>by cases h),(fun k a h=>⟨by simp,fun h=>by cases h⟩),fun _=>rfl,Nat.zero_le _,by simpa [Rg.T] using hO.drew⟩
theorem Rl.own (h:Rl r w o xs g b D l W):∃cur T,OT w W cur T:=by
 obtain⟨cur,s,-,-,-,-,-,hO⟩:=h.cur
 exact⟨cur,_,hO⟩
theorem Rl.be (h:Rl r w o xs g b D l W):Below w.heap.size w W:=by
 obtain⟨cur,T,hO⟩:=h.own
 exact hO.2
theorem Rl.sh {A:Option Addr} {n c:Nat} {st j:Int} {q:List (Nat×Value)} (h:Rl r w o xs g b D l W) (hB:r.B=(1,.int .i64 st)::(9,.slice A n c)::(10,.int .i64 n)::(11,.int .i64 j)::q):SH A n c st j l:=by
 have hf:=h.fr
 rw [hB] at hf
 exact⟨h.len,hf _ (.head _),hf _ (.tail _ (.head _)),hf _ (.tail _ (.tail _ (.head _))),hf _ (.tail _ (.tail _ (.tail _ (.head _))))⟩
theorem Rl.o5 (h:Rl r w o xs g b D l W) (hi:D i=false) (hn:i<r.n):l.getD 5 default=o:=h.s5 (wg h.fin hn hi)
theorem Rl.step (h:Rl r w o xs g b D l W) (hi:D i=false) (hc:r.chk i d=true) (hb:Below W.heap.size W W') (hv:∀x∈r.F,x.1=i→x.2.2=v)
  (hs:∀x∈r.S,x.1=i→∀(cur:Value) (cs:List Value) (m:Nat),W.ownsRow w.heap.size 5 1 cur m cs→Src W' cur.ownBlock v x.2.2.2):Rl r w o xs g b (fun j=>if j=i then true else D j) (l.set d v) W':=by
 unfold Rg.chk at hc
 simp only [Bool.and_eq_true,List.all_eq_true,decide_eq_true_eq] at hc
 obtain⟨⟨⟨⟨⟨c1,cl,c2⟩,c3⟩,c4⟩,c5⟩,c6⟩:=hc
 have hn:r.n≠i:=by omega
 have hl:d<l.length:=by rw [h.len];exact cl
 refine⟨by rw [List.length_set];exact h.len,fun x hx=>(bQ (fun e=>c3 x hx e.symm)).trans (h.fr x hx),bP h.eC hb,fun hD=>(bQ c2).trans (h.s5 (by simpa [hn] using hD)),fun hD k hk=> ?_,fun x hx hD=> ?_,?_⟩
 ·by_cases hki:k=i
  ·simp [hki]
  ·simp [hki,h.fin (by simpa [hn] using hD) k hk]
 ·by_cases Ge:x.1=i
  ·rw [(c4 x hx).1 Ge,hv x hx Ge]
   exact gT hl
  ·exact(bQ (fun e=>Ge ((c4 x hx).2 e.symm))).trans (h.f x hx (by simpa [Ge] using hD))
 ·obtain⟨cur,s,h1,h2,h3,h4,h5,hO⟩:=h.cur
  refine⟨cur,s,fun hD=>(bQ c2).trans (h1 (by simpa [hn] using hD)),fun x hx hD Ww=> ?_,fun k a ha=>⟨?_,fun Pr =>(bQ (fun e=>(c5 a (List.mem_of_getElem? ha)).2 e.symm)).trans ((h3 k a ha).2 Pr)⟩,h4,h5,hO.below hb⟩
  ·have DB:=(c6 x hx).2
   by_cases Ge:x.1=i
   ·rw [(c6 x hx).1.1 Ge,gT hl]
    exact hs x hx Ge cur _ _ hO.1
   ·rw [bQ (fun e=>Ge ((c6 x hx).1.2 e.symm))]
    exact(h2 x hx (by simpa [Ge] using hD) (by simpa [DB] using Ww)).below hb
  ·have:=(c5 a (List.mem_of_getElem? ha)).1
   simp [this,(h3 k a ha).1]
theorem Rl.app {t:Nat} {ys:List Int} (h:Rl r w o xs g b D l W) (hi:D i=false) (hc:r.abp t i d=true) (hA:r.A[t]? =some (i,d)) (hp:∀a,t≠0→r.A[t - 1]? =some a→D a.1=true) (hP:r.P[t]? =some ys):
  ∃cur,(t=0→cur=o)∧(∀a,t≠0→r.A[t - 1]? =some a→l.getD a.2 default=cur)∧OT w W cur (r.T xs t)∧(∀x∈r.S,D x.1=true→D x.2.2.1=false→Src W cur.ownBlock (l.getD x.2.1 default) x.2.2.2)∧
   ∀v1 w1,w1.ownsRow w.heap.size 5 1 v1 (r.T xs t++ys).length (bp .u8 (r.T xs t++ys))→W.grownBy w1 cur.ownBlock→(v1.ownBlock=cur.ownBlock∨v1.ownBlock=some W.heap.size)→Rl r w o xs g b (fun j=>if j=i then true else D j) (l.set d v1) w1:=by
 unfold Rg.abp at hc
 simp only [Bool.and_eq_true,List.all_eq_true,decide_eq_true_eq] at hc
 obtain⟨⟨⟨⟨⟨c1,cl,c2⟩,c3⟩,c4⟩,c5⟩,c6⟩:=hc
 have hn:r.n≠i:=by omega
 have hl:d<l.length:=by rw [h.len];exact cl
 have c6' :∀k a,r.A[k]? =some a→(a.1=i↔k=t):=fun k a ha=>by
  have:=c6 k (List.mem_range.2 (List.getElem?_eq_some_iff.1 ha).1)
  rw [ha] at this
  simp only [Option.map_some,Option.getD_some,Bool.and_eq_true,decide_eq_true_eq] at this
  exact this.1
 obtain⟨cur,s,h1,h2,h3,h4,h5,hO⟩:=h.cur
 have fT:s=t:=by
  have e1:=(h3 t _ hA).1
  rw [hi] at e1
  have e2:¬t<s:=of_decide_eq_false e1.symm
  rcases Nat.eq_zero_or_pos t with h0|h0
  ·omega
  ·obtain⟨a,ha⟩:∃a,r.A[t - 1]? =some a:=⟨_,List.getElem?_eq_getElem (by have:=(List.getElem?_eq_some_iff.1 hA).1;omega)⟩
   have e3:=(h3 (t - 1) a ha).1
   rw [hp a (by omega) ha] at e3
   have:=of_decide_eq_true e3.symm
   omega
 subst fT
 refine⟨cur,h4,fun a h0 ha=>(h3 _ a ha).2 (by omega),hO,h2,fun v1 w1 ho hg dz=> ?_⟩
 refine⟨by rw [List.length_set];exact h.len,fun x hx=>(bQ (fun e=>c3 x hx e.symm)).trans (h.fr x hx),cE h.eC hg (dJ hO.1 h.eC (by decide)),fun hD=>(bQ c2).trans (h.s5 (by simpa [hn] using hD)),fun hD k hk=> ?_,fun x hx hD=> ?_,?_⟩
 ·by_cases hki:k=i
  ·simp [hki]
  ·simp [hki,h.fin (by simpa [hn] using hD) k hk]
 ·exact(bQ (fun e=>(c4 x hx).2 e.symm)).trans (h.f x hx (by simpa [(c4 x hx).1] using hD))
 ·refine⟨v1,s+1,fun hD=>absurd ((wg h.fin c1 hi).symm.trans (by simpa [hn] using hD)) (by decide),fun x hx hD Ww=> ?_,fun k a ha=>⟨?_,fun hk=> ?_⟩,(fun e=>by omega),(List.getElem?_eq_some_iff.1 hA).1,?_⟩
  ·have hx5:=c5 x hx
   rw [bQ (fun e=>hx5.2 e.symm)]
   have hx6:x.2.2.1≠i:=fun e=>by simp [e] at Ww
   exact(h2 x hx (by simpa [hx5.1] using hD) (by simpa [hx6] using Ww)).grown hg dz
  ·by_cases hk:k=s
   ·simp [(c6' k a ha).2 hk,hk]
   ·have:a.1≠i:=fun e=>hk ((c6' k a ha).1 e)
    simp only [this,if_false,(h3 k a ha).1]
    have e:(k<s+1)↔(k<s):=by omega
    simp [e]
  ·obtain rfl:k=s:=by omega
   rw [hA] at ha
   injection ha with ha
   subst ha
   exact gT hl
  ·have e:r.T xs (s+1)=r.T xs s++ys:=by
    unfold Rg.T
    rw [List.take_add_one,hP]
    simp
   rw [e]
   exact⟨ho,hO.2.grown hg hO.2.size (fg hO.1)⟩
theorem Rl.last {m:Nat} {a:Nat×Nat} (h:Rl r w o xs g b D l W) (fi:∀k,k<r.n→D k=true) (hm:r.A.length=m+1) (hA:r.A[m]? =some a) (ha:a.1<r.n) (hB:r.B.all (fun x=>decide (x.1≠5))=true) (hF:r.F.all (fun x=>decide (x.2.1≠5∧x.1≠r.n))=true) (hA5:r.A.all (fun x=>decide (x.2≠5∧x.1≠r.n))=true) (hS:r.S.all (fun x=>decide (x.2.2.1<r.n))=true):
  ∃cur,l.getD a.2 default=cur∧Rl r w o xs g b (fun j=>if j=r.n then true else D j) (l.set 5 cur) W:=by
 simp only [List.all_eq_true,decide_eq_true_eq] at hB hF hA5 hS
 obtain⟨cur,s,h1,h2,h3,h4,h5,hO⟩:=h.cur
 have hs:s=m+1:=by
  have e:=(h3 m a hA).1
  rw [fi a.1 ha] at e
  have:=of_decide_eq_true e.symm
  omega
 have hl:5<l.length:=by rw [h.len];decide
 refine⟨cur,(h3 m a hA).2 hs,⟨by rw [List.length_set];exact h.len,fun x hx=>(bQ (fun e=>hB x hx e.symm)).trans (h.fr x hx),h.eC,(fun hD=>by simp at hD),fun hD k hk=> ?_,fun x hx hD=> ?_,cur,s,fun _=>gT hl,fun x hx hD Ww=> ?_,fun k a' ha' =>⟨?_,fun e=> ?_⟩,h4,h5,hO⟩⟩
 ·simp [fi k hk]
 ·exact(bQ (fun e=>(hF x hx).1 e.symm)).trans (h.f x hx (by simpa [(hF x hx).2] using hD))
 ·have:=fi _ (hS x hx)
  simp [this] at Ww
 ·have:=(hA5 a' (List.mem_of_getElem? ha')).2
  simp [this,(h3 k a' ha').1]
 ·exact(bQ (fun e=>(hA5 a' (List.mem_of_getElem? ha')).1 e.symm)).trans ((h3 k a' ha').2 e)
theorem Rl.done {m:Nat} {a:Nat×Nat} (h:Rl r w o xs g b D l W) (fi:∀k,k≤r.n→D k=true) (hm:r.A.length=m+1) (hA:r.A[m]? =some a) (ha:a.1<r.n):∃cur,l.getD 5 default=cur∧OT w W cur (r.T xs (m+1)):=by
 obtain⟨cur,s,h1,h2,h3,h4,h5,hO⟩:=h.cur
 have hs:s=m+1:=by
  have e:=(h3 m a hA).1
  rw [fi a.1 (by omega)] at e
  have:=of_decide_eq_true e.symm
  omega
 subst hs
 exact⟨cur,h1 (fi _ (Nat.le_refl _)),hO⟩
end Go.Proofs.YtlglijnaeaonpaaGreatDoor.Lx
end
section
set_option maxHeartbeats 8000000
set_option maxRecDepth 100000
set_option linter.unusedVariables false
set_option linter.unusedSimpArgs false
namespace Go.Proofs.YtlglijnaeaonpaaGreatDoor.Lx
open Go.RowKit Go.Proofs.YtlglijnaeaonpaaGreatDoorW.aC Go.Proofs.YtlglijnaeaonpaaGreatDoor.bG
variable {w wr:World} {A:Option Addr} {n c:Nat} {st j:Int} {g:Nat} {kb:ByteArray} {A1:Option Addr} {c1:Nat} {A2:Option Addr} {n2 c2:Nat} {v3:Value} {A4:Option Addr} {n4 c4:Nat} {o:Value} {xs nm wl:List Int} {l:List Value} {K:Act→World→Prop} {Q:Exit→Act→World→Prop}
theorem PU {words:List (List Int)} (jN:SH A n c st j l) (h5:l.getD 5 default=o) (h7:l.getD 7 default= .pointer (some ⟨g,0,none⟩)) (dd:wr.heap[g]? =some (.cells #[.string kb,.slice A1 nm.length c1,.slice A2 n2 c2,v3,.slice A4 n4 c4] 38 (0,0)))
  (hD:OT w wr o xs) (k1:Kd.C (Kd.int .u8) w A1 nm.length nm) (k2:VL w A2 c2 words) (JR:n2=words.length) (FT:wl=aX words) (hwn:words.length≤1000000) (gV:0≤st) (gW:st≤2) (hx:xs.length≤1000000000) (qM:nm.length≤1000000000) (hw:wl.length≤1000000000)
  (hK:∀l' W o',SH A n c st j l' →l'.getD 5 default=o' →OT w W o' (xs++ [64]++nm++wl++ [59])→l'.getD 7 default= .pointer (some ⟨g,0,none⟩)→W.heap[g]? =some (.cells #[.string kb,.slice A1 nm.length c1,.slice A2 n2 c2,v3,.slice A4 n4 c4] 38 (0,0))→K ⟨l'.toArray,[]⟩ W):
  Code.wp Tryz.prog (bI [1,1,0,0,1,0,1,0,1,1,1,0] d6) (Exit.then K Q) ⟨l.toArray,[]⟩ wr:=by
 have Oo:=eQ st
 have hgs:=gQ st
 have MC:=eV (st:=st)
 conv=>arg 2;whnf
 refine ix (by kernel_rfl) (by kernel_rfl) (fun D a W=>∃l,a=⟨l.toArray,[]⟩∧Rl ⟨[(0,73,o),(3,76,.pointer (some ⟨g,1,none⟩)),(4,77,.slice A1 nm.length c1),(6,79,.pointer (some ⟨g,2,none⟩)),(7,80,.slice A2 n2 c2)],[(1,.int .i64 st),(9,.slice A n c),(10,.int .i64 n),(11,.int .i64 j),(7,.pointer (some ⟨g,0,none⟩))],[[64],nm,wl,[59]],[(2,75),(5,78),(9,82),(11,84)],[(1,74,2,[64]),(8,81,9,wl),(10,83,11,[59])],12⟩ w o xs g #[.string kb,.slice A1 nm.length c1,.slice A2 n2 c2,v3,.slice A4 n4 c4] D l W) ?_ ?_ ?_
 ·exact⟨l,rfl,Rl.start jN.1 (fun x hx=>by simp at hx;rcases hx with rfl|rfl|rfl|rfl|rfl<;>first|exact jN.2.1|exact jN.2.2.1|exact jN.2.2.2.1|exact jN.2.2.2.2|exact h7) dd h5 hD⟩
 ·rintro D a W ⟨l,rfl,hr⟩ i op ho gq bo
  have hl:=hr.len
  have hi:i<13:=(Array.getElem?_eq_some_iff.1 ho).1
  have pM:i=0∨i=1∨i=2∨i=3∨i=4∨i=5∨i=6∨i=7∨i=8∨i=9∨i=10∨i=11∨i=12:=by omega
  rcases pM with rfl|rfl|rfl|rfl|rfl|rfl|rfl|rfl|rfl|rfl|rfl|rfl|rfl
  ·cases ho
   refine cy rfl rfl rfl (v:=o) (W':=W) ?_ ⟨_,rfl,hr.step gq (by kernel_rfl) (Below.refl _ _) (by simp) (by simp)⟩
   have h:=hr.o5 gq (by decide:0<12)
   clear hr bo
   obtain⟨f,hf,rfl⟩:=cV l hl
   rw [hf] at h
   rw [h]
   go_simp
  ·cases ho
   refine cy rfl rfl rfl (v:=.slice (some ⟨W.heap.size,0,none⟩) 1 1) (W':=W.alloc (.cells #[.int .u8 64] 5)) ?_ ⟨_,rfl,hr.step gq (by kernel_rfl) (au (Below.refl _ W) _) (by simp) (fun x hx e cur cs m h=>by simp at hx;rcases hx with rfl|rfl|rfl<;>first|exact Src.new h|(simp at e;done))⟩
   clear hr bo
   obtain⟨f,hf,rfl⟩:=cV l hl
   go_simp
  ·cases ho
   have e0:D 0=true:=bo ⟨0,.data⟩ (by simp) (by rfl)
   have e1:D 1=true:=bo ⟨1,.data⟩ (by simp) (by rfl)
   obtain⟨cur,gh,oe,hO,hS,dL⟩:=hr.app (t:=0) gq (by kernel_rfl) rfl (fun a h0=>absurd rfl h0) rfl
   obtain⟨A5,c5,ev,hR,-⟩:=hS (1,74,2,[64]) (by simp) e1 gq
   obtain⟨v1,w1,bZ,h2,h3,h4⟩:=iy w.heap.size 24 24 5 .u8 1 Tryz.underlying24 cF (by decide) cur _ [64] A5 _ c5 hO.1 hR hO.2.size (by simp [Rg.T];omega)
   exact iq rfl rfl rfl rfl ((hr.f (0,73,o) (by simp) e0).trans (gh rfl).symm) (by omega) ev (by omega) bZ ⟨_,rfl,dL _ _ h2 h3 h4⟩
  ·cases ho
   refine cy rfl rfl rfl (v:=.pointer (some ⟨g,1,none⟩)) (W':=W) ?_ ⟨_,rfl,hr.step gq (by kernel_rfl) (Below.refl _ _) (by simp) (by simp)⟩
   have h:l.getD 7 default= .pointer (some ⟨g,0,none⟩):=hr.fr (7,.pointer (some ⟨g,0,none⟩)) (by simp)
   clear hr bo
   obtain⟨f,hf,rfl⟩:=cV l hl
   rw [hf] at h
   rw [h]
   go_simp
  ·cases ho
   have e3:D 3=true:=bo ⟨3,.data⟩ (by simp) (by rfl)
   refine cy rfl rfl rfl (v:=.slice A1 nm.length c1) (W':=W) ?_ ⟨_,rfl,hr.step gq (by kernel_rfl) (Below.refl _ _) (by simp) (by simp)⟩
   have h:l.getD 76 default= .pointer (some ⟨g,1,none⟩):=hr.f (3,76,.pointer (some ⟨g,1,none⟩)) (by simp) e3
   have kx:W.cell? ⟨g,1,none⟩=some (.slice A1 nm.length c1):=by rw [ao hr.eC];rfl
   clear hr bo
   obtain⟨f,hf,rfl⟩:=cV l hl
   rw [hf] at h
   rw [h]
   go_simp
  ·cases ho
   have e2:D 2=true:=bo ⟨2,.data⟩ (by simp) (by rfl)
   have e4:D 4=true:=bo ⟨4,.data⟩ (by simp) (by rfl)
   obtain⟨cur,gh,oe,hO,hS,dL⟩:=hr.app (t:=1) gq (by kernel_rfl) rfl (fun a h0 ha=>by cases ha;exact e2) rfl
   have ev:=hr.f (4,77,.slice A1 nm.length c1) (by simp) e4
   obtain⟨v1,w1,bZ,h2,h3,h4⟩:=iy w.heap.size 24 24 5 .u8 1 Tryz.underlying24 cF (by decide) cur _ nm A1 _ c1 hO.1 (dO (Kd.cG k1 hO.2)) hO.2.size (by simp [Rg.T];omega)
   exact iq rfl rfl rfl rfl (oe _ (by decide) rfl) (by omega) ev (by omega) bZ ⟨_,rfl,dL _ _ h2 h3 h4⟩
  ·cases ho
   refine cy rfl rfl rfl (v:=.pointer (some ⟨g,2,none⟩)) (W':=W) ?_ ⟨_,rfl,hr.step gq (by kernel_rfl) (Below.refl _ _) (by simp) (by simp)⟩
   have h:l.getD 7 default= .pointer (some ⟨g,0,none⟩):=hr.fr (7,.pointer (some ⟨g,0,none⟩)) (by simp)
   clear hr bo
   obtain⟨f,hf,rfl⟩:=cV l hl
   rw [hf] at h
   rw [h]
   go_simp
  ·cases ho
   have e6:D 6=true:=bo ⟨6,.data⟩ (by simp) (by rfl)
   refine cy rfl rfl rfl (v:=.slice A2 n2 c2) (W':=W) ?_ ⟨_,rfl,hr.step gq (by kernel_rfl) (Below.refl _ _) (by simp) (by simp)⟩
   have h:l.getD 79 default= .pointer (some ⟨g,2,none⟩):=hr.f (6,79,.pointer (some ⟨g,2,none⟩)) (by simp) e6
   have kx:W.cell? ⟨g,2,none⟩=some (.slice A2 n2 c2):=by rw [ao hr.eC];rfl
   clear hr bo
   obtain⟨f,hf,rfl⟩:=cV l hl
   rw [hf] at h
   rw [h]
   go_simp
  ·cases ho
   have e7:D 7=true:=bo ⟨7,.data⟩ (by simp) (by rfl)
   refine jU rfl rfl rfl (f:=17) (vs:=#[.slice A2 n2 c2]) ?_ (Calls.mono (JR▸we (k2.below hr.be) (FT▸by omega) hwn:Calls Tryz.prog 17 #[.slice A2 n2 c2] W (OL W (aX words))) ?_)
   ·have h:l.getD 80 default= .slice A2 n2 c2:=hr.f (7,80,.slice A2 n2 c2) (by simp) e7
    clear hr bo
    obtain⟨f,hf,rfl⟩:=cV l hl
    rw [hf] at h
    rw [h]
    go_simp
   ·rintro e w1 ⟨v8,rfl,bl,hb⟩
    rw [←FT] at bl
    exact⟨_,rfl,_,rfl,hr.step gq (by kernel_rfl) hb (by simp) (fun x hx e cur cs m h=>by simp at hx;rcases hx with rfl|rfl|rfl<;>first|exact Src.own h bl|(simp at e;done))⟩
  ·cases ho
   have e5:D 5=true:=bo ⟨5,.data⟩ (by simp) (by rfl)
   have e8:D 8=true:=bo ⟨8,.data⟩ (by simp) (by rfl)
   obtain⟨cur,gh,oe,hO,hS,dL⟩:=hr.app (t:=2) gq (by kernel_rfl) rfl (fun a h0 ha=>by cases ha;exact e5) rfl
   obtain⟨A5,c5,ev,hR,-⟩:=hS (8,81,9,wl) (by simp) e8 gq
   obtain⟨v1,w1,bZ,h2,h3,h4⟩:=iy w.heap.size 24 24 5 .u8 1 Tryz.underlying24 cF (by decide) cur _ wl A5 _ c5 hO.1 hR hO.2.size (by simp [Rg.T];omega)
   exact iq rfl rfl rfl rfl (oe _ (by decide) rfl) (by omega) ev (by omega) bZ ⟨_,rfl,dL _ _ h2 h3 h4⟩
  ·cases ho
   refine cy rfl rfl rfl (v:=.slice (some ⟨W.heap.size,0,none⟩) 1 1) (W':=W.alloc (.cells #[.int .u8 59] 5)) ?_ ⟨_,rfl,hr.step gq (by kernel_rfl) (au (Below.refl _ W) _) (by simp) (fun x hx e cur cs m h=>by simp at hx;rcases hx with rfl|rfl|rfl<;>first|exact Src.new h|(simp at e;done))⟩
   clear hr bo
   obtain⟨f,hf,rfl⟩:=cV l hl
   go_simp
  ·cases ho
   have e9:D 9=true:=bo ⟨9,.data⟩ (by simp) (by rfl)
   have e10:D 10=true:=bo ⟨10,.data⟩ (by simp) (by rfl)
   obtain⟨cur,gh,oe,hO,hS,dL⟩:=hr.app (t:=3) gq (by kernel_rfl) rfl (fun a h0 ha=>by cases ha;exact e9) rfl
   obtain⟨A5,c5,ev,hR,-⟩:=hS (10,83,11,[59]) (by simp) e10 gq
   obtain⟨v1,w1,bZ,h2,h3,h4⟩:=iy w.heap.size 24 24 5 .u8 1 Tryz.underlying24 cF (by decide) cur _ [59] A5 _ c5 hO.1 hR hO.2.size (by simp [Rg.T];omega)
   exact iq rfl rfl rfl rfl (oe _ (by decide) rfl) (by omega) ev (by omega) bZ ⟨_,rfl,dL _ _ h2 h3 h4⟩
  ·cases ho
   have BJ:∀k,k<12→D k=true:=fun k hk=>by
    have kV:k=0∨k=1∨k=2∨k=3∨k=4∨k=5∨k=6∨k=7∨k=8∨k=9∨k=10∨k=11:=by omega
    rcases kV with rfl|rfl|rfl|rfl|rfl|rfl|rfl|rfl|rfl|rfl|rfl|rfl<;>exact bo ⟨_,.phase⟩ (by simp) (by rfl)
   obtain⟨cur,h,hR⟩:=hr.last (m:=3) BJ rfl rfl (by decide:11<12) (by kernel_rfl) (by kernel_rfl) (by kernel_rfl) (by kernel_rfl)
   refine cy rfl rfl rfl (v:=cur) (W':=W) ?_ ⟨_,rfl,hR⟩
   clear hr bo hR
   obtain⟨f,hf,rfl⟩:=cV l hl
   rw [hf] at h
   dsimp only at h
   rw [h]
   go_simp
 ·rintro D a W ⟨l,rfl,hr⟩ fi
  obtain⟨cur,h5,hO⟩:=hr.done (m:=3) (fun k hk=>fi k (Nat.lt_succ_of_le hk)) rfl rfl (by decide:11<12)
  exact hK _ _ cur (hr.sh rfl) h5 (by simpa [Rg.T] using hO) (hr.fr (7,.pointer (some ⟨g,0,none⟩)) (by simp)) hr.eC
theorem Vt {words:List (List Int)} (jN:SH A n c st j l) (h5:l.getD 5 default=o) (h7:l.getD 7 default= .pointer (some ⟨g,0,none⟩)) (dd:wr.heap[g]? =some (.cells #[.string kb,.slice A1 nm.length c1,.slice A2 n2 c2,v3,.slice A4 n4 c4] 38 (0,0)))
  (hD:OT w wr o xs) (k1:Kd.C (Kd.int .u8) w A1 nm.length nm) (k2:VL w A2 c2 words) (JR:n2=words.length) (FT:wl=aX words) (hwn:words.length≤1000000) (gV:0≤st) (gW:st≤2) (hx:xs.length≤1000000000) (qM:nm.length≤1000000000) (hw:wl.length≤1000000000)
  (hK:∀l' W o',SH A n c st j l' →l'.getD 5 default=o' →OT w W o' (xs++ [64]++nm++wl++bw st++ [123])→l'.getD 7 default= .pointer (some ⟨g,0,none⟩)→W.heap[g]? =some (.cells #[.string kb,.slice A1 nm.length c1,.slice A2 n2 c2,v3,.slice A4 n4 c4] 38 (0,0))→K ⟨l'.toArray,[]⟩ W):
  Code.wp Tryz.prog (bI [1,1,0,0,1,0,1,0,1,1,1,1,0] d6) (Exit.then K Q) ⟨l.toArray,[]⟩ wr:=by
 have Oo:=eQ st
 have hgs:=gQ st
 have MC:=eV (st:=st)
 conv=>arg 2;whnf
 refine ix (by kernel_rfl) (by kernel_rfl) (fun D a W=>∃l,a=⟨l.toArray,[]⟩∧Rl ⟨[(0,17,o),(3,20,.pointer (some ⟨g,1,none⟩)),(4,21,.slice A1 nm.length c1),(6,23,.pointer (some ⟨g,2,none⟩)),(7,24,.slice A2 n2 c2),(10,27,.int .i64 st),(11,28,.string (k8 st))],[(1,.int .i64 st),(9,.slice A n c),(10,.int .i64 n),(11,.int .i64 j),(7,.pointer (some ⟨g,0,none⟩))],[[64],nm,wl,bw st,[123]],[(2,19),(5,22),(9,26),(12,29),(14,31)],[(1,18,2,[64]),(8,25,9,wl),(13,30,14,[123])],15⟩ w o xs g #[.string kb,.slice A1 nm.length c1,.slice A2 n2 c2,v3,.slice A4 n4 c4] D l W) ?_ ?_ ?_
 ·exact⟨l,rfl,Rl.start jN.1 (fun x hx=>by simp at hx;rcases hx with rfl|rfl|rfl|rfl|rfl<;>first|exact jN.2.1|exact jN.2.2.1|exact jN.2.2.2.1|exact jN.2.2.2.2|exact h7) dd h5 hD⟩
 ·rintro D a W ⟨l,rfl,hr⟩ i op ho gq bo
  have hl:=hr.len
  have hi:i<16:=(Array.getElem?_eq_some_iff.1 ho).1
  have pM:i=0∨i=1∨i=2∨i=3∨i=4∨i=5∨i=6∨i=7∨i=8∨i=9∨i=10∨i=11∨i=12∨i=13∨i=14∨i=15:=by omega
  rcases pM with rfl|rfl|rfl|rfl|rfl|rfl|rfl|rfl|rfl|rfl|rfl|rfl|rfl|rfl|rfl|rfl
  ·cases ho
   refine cy rfl rfl rfl (v:=o) (W':=W) ?_ ⟨_,rfl,hr.step gq (by kernel_rfl) (Below.refl _ _) (by simp) (by simp)⟩
   have h:=hr.o5 gq (by decide:0<15)
   clear hr bo
   obtain⟨f,hf,rfl⟩:=cV l hl
   rw [hf] at h
   rw [h]
   go_simp
  ·cases ho
   refine cy rfl rfl rfl (v:=.slice (some ⟨W.heap.size,0,none⟩) 1 1) (W':=W.alloc (.cells #[.int .u8 64] 5)) ?_ ⟨_,rfl,hr.step gq (by kernel_rfl) (au (Below.refl _ W) _) (by simp) (fun x hx e cur cs m h=>by simp at hx;rcases hx with rfl|rfl|rfl<;>first|exact Src.new h|(simp at e;done))⟩
   clear hr bo
   obtain⟨f,hf,rfl⟩:=cV l hl
   go_simp
  ·cases ho
   have e0:D 0=true:=bo ⟨0,.data⟩ (by simp) (by rfl)
   have e1:D 1=true:=bo ⟨1,.data⟩ (by simp) (by rfl)
   obtain⟨cur,gh,oe,hO,hS,dL⟩:=hr.app (t:=0) gq (by kernel_rfl) rfl (fun a h0=>absurd rfl h0) rfl
   obtain⟨A5,c5,ev,hR,-⟩:=hS (1,18,2,[64]) (by simp) e1 gq
   obtain⟨v1,w1,bZ,h2,h3,h4⟩:=iy w.heap.size 24 24 5 .u8 1 Tryz.underlying24 cF (by decide) cur _ [64] A5 _ c5 hO.1 hR hO.2.size (by simp [Rg.T];omega)
   exact iq rfl rfl rfl rfl ((hr.f (0,17,o) (by simp) e0).trans (gh rfl).symm) (by omega) ev (by omega) bZ ⟨_,rfl,dL _ _ h2 h3 h4⟩
  ·cases ho
   refine cy rfl rfl rfl (v:=.pointer (some ⟨g,1,none⟩)) (W':=W) ?_ ⟨_,rfl,hr.step gq (by kernel_rfl) (Below.refl _ _) (by simp) (by simp)⟩
   have h:l.getD 7 default= .pointer (some ⟨g,0,none⟩):=hr.fr (7,.pointer (some ⟨g,0,none⟩)) (by simp)
   clear hr bo
   obtain⟨f,hf,rfl⟩:=cV l hl
   rw [hf] at h
   rw [h]
   go_simp
  ·cases ho
   have e3:D 3=true:=bo ⟨3,.data⟩ (by simp) (by rfl)
   refine cy rfl rfl rfl (v:=.slice A1 nm.length c1) (W':=W) ?_ ⟨_,rfl,hr.step gq (by kernel_rfl) (Below.refl _ _) (by simp) (by simp)⟩
   have h:l.getD 20 default= .pointer (some ⟨g,1,none⟩):=hr.f (3,20,.pointer (some ⟨g,1,none⟩)) (by simp) e3
   have kx:W.cell? ⟨g,1,none⟩=some (.slice A1 nm.length c1):=by rw [ao hr.eC];rfl
   clear hr bo
   obtain⟨f,hf,rfl⟩:=cV l hl
   rw [hf] at h
   rw [h]
   go_simp
  ·cases ho
   have e2:D 2=true:=bo ⟨2,.data⟩ (by simp) (by rfl)
   have e4:D 4=true:=bo ⟨4,.data⟩ (by simp) (by rfl)
   obtain⟨cur,gh,oe,hO,hS,dL⟩:=hr.app (t:=1) gq (by kernel_rfl) rfl (fun a h0 ha=>by cases ha;exact e2) rfl
   have ev:=hr.f (4,21,.slice A1 nm.length c1) (by simp) e4
   obtain⟨v1,w1,bZ,h2,h3,h4⟩:=iy w.heap.size 24 24 5 .u8 1 Tryz.underlying24 cF (by decide) cur _ nm A1 _ c1 hO.1 (dO (Kd.cG k1 hO.2)) hO.2.size (by simp [Rg.T];omega)
   exact iq rfl rfl rfl rfl (oe _ (by decide) rfl) (by omega) ev (by omega) bZ ⟨_,rfl,dL _ _ h2 h3 h4⟩
  ·cases ho
   refine cy rfl rfl rfl (v:=.pointer (some ⟨g,2,none⟩)) (W':=W) ?_ ⟨_,rfl,hr.step gq (by kernel_rfl) (Below.refl _ _) (by simp) (by simp)⟩
   have h:l.getD 7 default= .pointer (some ⟨g,0,none⟩):=hr.fr (7,.pointer (some ⟨g,0,none⟩)) (by simp)
   clear hr bo
   obtain⟨f,hf,rfl⟩:=cV l hl
   rw [hf] at h
   rw [h]
   go_simp
  ·cases ho
   have e6:D 6=true:=bo ⟨6,.data⟩ (by simp) (by rfl)
   refine cy rfl rfl rfl (v:=.slice A2 n2 c2) (W':=W) ?_ ⟨_,rfl,hr.step gq (by kernel_rfl) (Below.refl _ _) (by simp) (by simp)⟩
   have h:l.getD 23 default= .pointer (some ⟨g,2,none⟩):=hr.f (6,23,.pointer (some ⟨g,2,none⟩)) (by simp) e6
   have kx:W.cell? ⟨g,2,none⟩=some (.slice A2 n2 c2):=by rw [ao hr.eC];rfl
   clear hr bo
   obtain⟨f,hf,rfl⟩:=cV l hl
   rw [hf] at h
   rw [h]
   go_simp
  ·cases ho
   have e7:D 7=true:=bo ⟨7,.data⟩ (by simp) (by rfl)
   refine jU rfl rfl rfl (f:=17) (vs:=#[.slice A2 n2 c2]) ?_ (Calls.mono (JR▸we (k2.below hr.be) (FT▸by omega) hwn:Calls Tryz.prog 17 #[.slice A2 n2 c2] W (OL W (aX words))) ?_)
   ·have h:l.getD 24 default= .slice A2 n2 c2:=hr.f (7,24,.slice A2 n2 c2) (by simp) e7
    clear hr bo
    obtain⟨f,hf,rfl⟩:=cV l hl
    rw [hf] at h
    rw [h]
    go_simp
   ·rintro e w1 ⟨v8,rfl,bl,hb⟩
    rw [←FT] at bl
    exact⟨_,rfl,_,rfl,hr.step gq (by kernel_rfl) hb (by simp) (fun x hx e cur cs m h=>by simp at hx;rcases hx with rfl|rfl|rfl<;>first|exact Src.own h bl|(simp at e;done))⟩
  ·cases ho
   have e5:D 5=true:=bo ⟨5,.data⟩ (by simp) (by rfl)
   have e8:D 8=true:=bo ⟨8,.data⟩ (by simp) (by rfl)
   obtain⟨cur,gh,oe,hO,hS,dL⟩:=hr.app (t:=2) gq (by kernel_rfl) rfl (fun a h0 ha=>by cases ha;exact e5) rfl
   obtain⟨A5,c5,ev,hR,-⟩:=hS (8,25,9,wl) (by simp) e8 gq
   obtain⟨v1,w1,bZ,h2,h3,h4⟩:=iy w.heap.size 24 24 5 .u8 1 Tryz.underlying24 cF (by decide) cur _ wl A5 _ c5 hO.1 hR hO.2.size (by simp [Rg.T];omega)
   exact iq rfl rfl rfl rfl (oe _ (by decide) rfl) (by omega) ev (by omega) bZ ⟨_,rfl,dL _ _ h2 h3 h4⟩
  ·cases ho
   refine cy rfl rfl rfl (v:=.int .i64 st) (W':=W) ?_ ⟨_,rfl,hr.step gq (by kernel_rfl) (Below.refl _ _) (by simp) (by simp)⟩
   have h:l.getD 1 default= .int .i64 st:=hr.fr (1,.int .i64 st) (by simp)
   clear hr bo
   obtain⟨f,hf,rfl⟩:=cV l hl
   rw [hf] at h
   rw [h]
   go_simp
  ·cases ho
   have e10:D 10=true:=bo ⟨10,.data⟩ (by simp) (by rfl)
   refine jU rfl rfl rfl (f:=16) (vs:=#[.int .i64 st]) ?_ ((jc st gV gW).mono ?_)
   ·have h:l.getD 27 default= .int .i64 st:=hr.f (10,27,.int .i64 st) (by simp) e10
    clear hr bo
    obtain⟨f,hf,rfl⟩:=cV l hl
    rw [hf] at h
    rw [h]
    go_simp
   ·rintro e w1 ⟨rfl,rfl⟩
    exact⟨_,rfl,_,rfl,hr.step gq (by kernel_rfl) (Below.refl _ _) (by simp) (by simp)⟩
  ·cases ho
   have e9:D 9=true:=bo ⟨9,.data⟩ (by simp) (by rfl)
   have e11:D 11=true:=bo ⟨11,.data⟩ (by simp) (by rfl)
   obtain⟨cur,gh,oe,hO,hS,dL⟩:=hr.app (t:=3) gq (by kernel_rfl) rfl (fun a h0 ha=>by cases ha;exact e9) rfl
   have ev:=hr.f (11,28,.string (k8 st)) (by simp) e11
   obtain⟨v1,w1,bZ,h2,h3,h4⟩:=yy w.heap.size 24 9 24 5 Tryz.underlying24 Tryz.underlying9 cF cur _ (k8 st) hO.1 hO.2.size (by simp [Rg.T];omega)
   rw [MC] at h2
   exact iq rfl rfl rfl rfl (oe _ (by decide) rfl) (by omega) ev (by omega) bZ ⟨_,rfl,dL _ _ h2 h3 h4⟩
  ·cases ho
   refine cy rfl rfl rfl (v:=.slice (some ⟨W.heap.size,0,none⟩) 1 1) (W':=W.alloc (.cells #[.int .u8 123] 5)) ?_ ⟨_,rfl,hr.step gq (by kernel_rfl) (au (Below.refl _ W) _) (by simp) (fun x hx e cur cs m h=>by simp at hx;rcases hx with rfl|rfl|rfl<;>first|exact Src.new h|(simp at e;done))⟩
   clear hr bo
   obtain⟨f,hf,rfl⟩:=cV l hl
   go_simp
  ·cases ho
   have e12:D 12=true:=bo ⟨12,.data⟩ (by simp) (by rfl)
   have e13:D 13=true:=bo ⟨13,.data⟩ (by simp) (by rfl)
   obtain⟨cur,gh,oe,hO,hS,dL⟩:=hr.app (t:=4) gq (by kernel_rfl) rfl (fun a h0 ha=>by cases ha;exact e12) rfl
   obtain⟨A5,c5,ev,hR,-⟩:=hS (13,30,14,[123]) (by simp) e13 gq
   obtain⟨v1,w1,bZ,h2,h3,h4⟩:=iy w.heap.size 24 24 5 .u8 1 Tryz.underlying24 cF (by decide) cur _ [123] A5 _ c5 hO.1 hR hO.2.size (by simp [Rg.T];omega)
   exact iq rfl rfl rfl rfl (oe _ (by decide) rfl) (by omega) ev (by omega) bZ ⟨_,rfl,dL _ _ h2 h3 h4⟩
  ·cases ho
   have BJ:∀k,k<15→D k=true:=fun k hk=>by
    have kV:k=0∨k=1∨k=2∨k=3∨k=4∨k=5∨k=6∨k=7∨k=8∨k=9∨k=10∨k=11∨k=12∨k=13∨k=14:=by omega
    rcases kV with rfl|rfl|rfl|rfl|rfl|rfl|rfl|rfl|rfl|rfl|rfl|rfl|rfl|rfl|rfl<;>exact bo ⟨_,.phase⟩ (by simp) (by rfl)
   obtain⟨cur,h,hR⟩:=hr.last (m:=4) BJ rfl rfl (by decide:14<15) (by kernel_rfl) (by kernel_rfl) (by kernel_rfl) (by kernel_rfl)
   refine cy rfl rfl rfl (v:=cur) (W':=W) ?_ ⟨_,rfl,hR⟩
   clear hr bo hR
   obtain⟨f,hf,rfl⟩:=cV l hl
   rw [hf] at h
   dsimp only at h
   rw [h]
   go_simp
 ·rintro D a W ⟨l,rfl,hr⟩ fi
  obtain⟨cur,h5,hO⟩:=hr.done (m:=4) (fun k hk=>fi k (Nat.lt_succ_of_le hk)) rfl rfl (by decide:14<15)
  exact hK _ _ cur (hr.sh rfl) h5 (by simpa [Rg.T] using hO) (hr.fr (7,.pointer (some ⟨g,0,none⟩)) (by simp)) hr.eC
theorem Vu (jN:SH A n c st j l) (h5:l.getD 5 default=o) (h7:l.getD 7 default= .pointer (some ⟨g,0,none⟩)) (dd:wr.heap[g]? =some (.cells #[.string kb,.slice A1 nm.length c1,.slice A2 n2 c2,v3,.slice A4 n4 c4] 38 (0,0)))
  (hD:OT w wr o xs) (k1:Kd.C (Kd.int .u8) w A1 nm.length nm) (IH:∀W,Below w.heap.size w W→Calls Tryz.prog 6 #[.slice A4 n4 c4,.int .i64 st] W (OL W wl)) (gV:0≤st) (gW:st≤2) (hx:xs.length≤1000000000) (qM:nm.length≤1000000000) (hw:wl.length≤1000000000)
  (hK:∀l' W o',SH A n c st j l' →l'.getD 5 default=o' →OT w W o' (xs++bw st++wl++bw st++ [125])→l'.getD 7 default= .pointer (some ⟨g,0,none⟩)→W.heap[g]? =some (.cells #[.string kb,.slice A1 nm.length c1,.slice A2 n2 c2,v3,.slice A4 n4 c4] 38 (0,0))→K ⟨l'.toArray,[]⟩ W):
  Code.wp Tryz.prog (bI [1,1,0,0,1,0,1,0,1,1,1,1,1] d6) (Exit.then K Q) ⟨l.toArray,[]⟩ wr:=by
 have Oo:=eQ st
 have hgs:=gQ st
 have MC:=eV (st:=st)
 conv=>arg 2;whnf
 refine ix (by kernel_rfl) (by kernel_rfl) (fun D a W=>∃l,a=⟨l.toArray,[]⟩∧Rl ⟨[(0,32,o),(1,33,.int .i64 st),(2,34,.string (k8 st)),(4,36,.pointer (some ⟨g,4,none⟩)),(5,37,.slice A4 n4 c4),(6,38,.int .i64 st),(9,41,.int .i64 st),(10,42,.string (k8 st))],[(1,.int .i64 st),(9,.slice A n c),(10,.int .i64 n),(11,.int .i64 j),(7,.pointer (some ⟨g,0,none⟩))],[bw st,wl,bw st,[125]],[(3,35),(8,40),(11,43),(13,45)],[(7,39,8,wl),(12,44,13,[125])],14⟩ w o xs g #[.string kb,.slice A1 nm.length c1,.slice A2 n2 c2,v3,.slice A4 n4 c4] D l W) ?_ ?_ ?_
 ·exact⟨l,rfl,Rl.start jN.1 (fun x hx=>by simp at hx;rcases hx with rfl|rfl|rfl|rfl|rfl<;>first|exact jN.2.1|exact jN.2.2.1|exact jN.2.2.2.1|exact jN.2.2.2.2|exact h7) dd h5 hD⟩
 ·rintro D a W ⟨l,rfl,hr⟩ i op ho gq bo
  have hl:=hr.len
  have hi:i<15:=(Array.getElem?_eq_some_iff.1 ho).1
  have pM:i=0∨i=1∨i=2∨i=3∨i=4∨i=5∨i=6∨i=7∨i=8∨i=9∨i=10∨i=11∨i=12∨i=13∨i=14:=by omega
  rcases pM with rfl|rfl|rfl|rfl|rfl|rfl|rfl|rfl|rfl|rfl|rfl|rfl|rfl|rfl|rfl
  ·cases ho
   refine cy rfl rfl rfl (v:=o) (W':=W) ?_ ⟨_,rfl,hr.step gq (by kernel_rfl) (Below.refl _ _) (by simp) (by simp)⟩
   have h:=hr.o5 gq (by decide:0<14)
   clear hr bo
   obtain⟨f,hf,rfl⟩:=cV l hl
   rw [hf] at h
   rw [h]
   go_simp
  ·cases ho
   refine cy rfl rfl rfl (v:=.int .i64 st) (W':=W) ?_ ⟨_,rfl,hr.step gq (by kernel_rfl) (Below.refl _ _) (by simp) (by simp)⟩
   have h:l.getD 1 default= .int .i64 st:=hr.fr (1,.int .i64 st) (by simp)
   clear hr bo
   obtain⟨f,hf,rfl⟩:=cV l hl
   rw [hf] at h
   rw [h]
   go_simp
  ·cases ho
   have e1:D 1=true:=bo ⟨1,.data⟩ (by simp) (by rfl)
   refine jU rfl rfl rfl (f:=16) (vs:=#[.int .i64 st]) ?_ ((jc st gV gW).mono ?_)
   ·have h:l.getD 33 default= .int .i64 st:=hr.f (1,33,.int .i64 st) (by simp) e1
    clear hr bo
    obtain⟨f,hf,rfl⟩:=cV l hl
    rw [hf] at h
    rw [h]
    go_simp
   ·rintro e w1 ⟨rfl,rfl⟩
    exact⟨_,rfl,_,rfl,hr.step gq (by kernel_rfl) (Below.refl _ _) (by simp) (by simp)⟩
  ·cases ho
   have e0:D 0=true:=bo ⟨0,.data⟩ (by simp) (by rfl)
   have e2:D 2=true:=bo ⟨2,.data⟩ (by simp) (by rfl)
   obtain⟨cur,gh,oe,hO,hS,dL⟩:=hr.app (t:=0) gq (by kernel_rfl) rfl (fun a h0=>absurd rfl h0) rfl
   have ev:=hr.f (2,34,.string (k8 st)) (by simp) e2
   obtain⟨v1,w1,bZ,h2,h3,h4⟩:=yy w.heap.size 24 9 24 5 Tryz.underlying24 Tryz.underlying9 cF cur _ (k8 st) hO.1 hO.2.size (by simp [Rg.T];omega)
   rw [MC] at h2
   exact iq rfl rfl rfl rfl ((hr.f (0,32,o) (by simp) e0).trans (gh rfl).symm) (by omega) ev (by omega) bZ ⟨_,rfl,dL _ _ h2 h3 h4⟩
  ·cases ho
   refine cy rfl rfl rfl (v:=.pointer (some ⟨g,4,none⟩)) (W':=W) ?_ ⟨_,rfl,hr.step gq (by kernel_rfl) (Below.refl _ _) (by simp) (by simp)⟩
   have h:l.getD 7 default= .pointer (some ⟨g,0,none⟩):=hr.fr (7,.pointer (some ⟨g,0,none⟩)) (by simp)
   clear hr bo
   obtain⟨f,hf,rfl⟩:=cV l hl
   rw [hf] at h
   rw [h]
   go_simp
  ·cases ho
   have e4:D 4=true:=bo ⟨4,.data⟩ (by simp) (by rfl)
   refine cy rfl rfl rfl (v:=.slice A4 n4 c4) (W':=W) ?_ ⟨_,rfl,hr.step gq (by kernel_rfl) (Below.refl _ _) (by simp) (by simp)⟩
   have h:l.getD 36 default= .pointer (some ⟨g,4,none⟩):=hr.f (4,36,.pointer (some ⟨g,4,none⟩)) (by simp) e4
   have kx:W.cell? ⟨g,4,none⟩=some (.slice A4 n4 c4):=by rw [ao hr.eC];rfl
   clear hr bo
   obtain⟨f,hf,rfl⟩:=cV l hl
   rw [hf] at h
   rw [h]
   go_simp
  ·cases ho
   refine cy rfl rfl rfl (v:=.int .i64 st) (W':=W) ?_ ⟨_,rfl,hr.step gq (by kernel_rfl) (Below.refl _ _) (by simp) (by simp)⟩
   have h:l.getD 1 default= .int .i64 st:=hr.fr (1,.int .i64 st) (by simp)
   clear hr bo
   obtain⟨f,hf,rfl⟩:=cV l hl
   rw [hf] at h
   rw [h]
   go_simp
  ·cases ho
   have e5:D 5=true:=bo ⟨5,.data⟩ (by simp) (by rfl)
   have e6:D 6=true:=bo ⟨6,.data⟩ (by simp) (by rfl)
   refine jU rfl rfl rfl (f:=6) (vs:=#[.slice A4 n4 c4,.int .i64 st]) ?_ ((IH W hr.be).mono ?_)
   ·have h:l.getD 37 default= .slice A4 n4 c4:=hr.f (5,37,.slice A4 n4 c4) (by simp) e5
    have h' :l.getD 38 default= .int .i64 st:=hr.f (6,38,.int .i64 st) (by simp) e6
    clear hr bo
    obtain⟨f,hf,rfl⟩:=cV l hl
    rw [hf] at h h'
    rw [h,h']
    go_simp
   ·rintro e w1 ⟨v8,rfl,bl,hb⟩
    exact⟨_,rfl,_,rfl,hr.step gq (by kernel_rfl) hb (by simp) (fun x hx e cur cs m h=>by simp at hx;rcases hx with rfl|rfl<;>first|exact Src.own h bl|(simp at e;done))⟩
  ·cases ho
   have e3:D 3=true:=bo ⟨3,.data⟩ (by simp) (by rfl)
   have e7:D 7=true:=bo ⟨7,.data⟩ (by simp) (by rfl)
   obtain⟨cur,gh,oe,hO,hS,dL⟩:=hr.app (t:=1) gq (by kernel_rfl) rfl (fun a h0 ha=>by cases ha;exact e3) rfl
   obtain⟨A5,c5,ev,hR,-⟩:=hS (7,39,8,wl) (by simp) e7 gq
   obtain⟨v1,w1,bZ,h2,h3,h4⟩:=iy w.heap.size 24 24 5 .u8 1 Tryz.underlying24 cF (by decide) cur _ wl A5 _ c5 hO.1 hR hO.2.size (by simp [Rg.T];omega)
   exact iq rfl rfl rfl rfl (oe _ (by decide) rfl) (by omega) ev (by omega) bZ ⟨_,rfl,dL _ _ h2 h3 h4⟩
  ·cases ho
   refine cy rfl rfl rfl (v:=.int .i64 st) (W':=W) ?_ ⟨_,rfl,hr.step gq (by kernel_rfl) (Below.refl _ _) (by simp) (by simp)⟩
   have h:l.getD 1 default= .int .i64 st:=hr.fr (1,.int .i64 st) (by simp)
   clear hr bo
   obtain⟨f,hf,rfl⟩:=cV l hl
   rw [hf] at h
   rw [h]
   go_simp
  ·cases ho
   have e9:D 9=true:=bo ⟨9,.data⟩ (by simp) (by rfl)
   refine jU rfl rfl rfl (f:=16) (vs:=#[.int .i64 st]) ?_ ((jc st gV gW).mono ?_)
   ·have h:l.getD 41 default= .int .i64 st:=hr.f (9,41,.int .i64 st) (by simp) e9
    clear hr bo
    obtain⟨f,hf,rfl⟩:=cV l hl
    rw [hf] at h
    rw [h]
    go_simp
   ·rintro e w1 ⟨rfl,rfl⟩
    exact⟨_,rfl,_,rfl,hr.step gq (by kernel_rfl) (Below.refl _ _) (by simp) (by simp)⟩
  ·cases ho
   have e8:D 8=true:=bo ⟨8,.data⟩ (by simp) (by rfl)
   have e10:D 10=true:=bo ⟨10,.data⟩ (by simp) (by rfl)
   obtain⟨cur,gh,oe,hO,hS,dL⟩:=hr.app (t:=2) gq (by kernel_rfl) rfl (fun a h0 ha=>by cases ha;exact e8) rfl
   have ev:=hr.f (10,42,.string (k8 st)) (by simp) e10
   obtain⟨v1,w1,bZ,h2,h3,h4⟩:=yy w.heap.size 24 9 24 5 Tryz.underlying24 Tryz.underlying9 cF cur _ (k8 st) hO.1 hO.2.size (by simp [Rg.T];omega)
   rw [MC] at h2
   exact iq rfl rfl rfl rfl (oe _ (by decide) rfl) (by omega) ev (by omega) bZ ⟨_,rfl,dL _ _ h2 h3 h4⟩
  ·cases ho
   refine cy rfl rfl rfl (v:=.slice (some ⟨W.heap.size,0,none⟩) 1 1) (W':=W.alloc (.cells #[.int .u8 125] 5)) ?_ ⟨_,rfl,hr.step gq (by kernel_rfl) (au (Below.refl _ W) _) (by simp) (fun x hx e cur cs m h=>by simp at hx;rcases hx with rfl|rfl<;>first|exact Src.new h|(simp at e;done))⟩
   clear hr bo
   obtain⟨f,hf,rfl⟩:=cV l hl
   go_simp
  ·cases ho
   have e11:D 11=true:=bo ⟨11,.data⟩ (by simp) (by rfl)
   have e12:D 12=true:=bo ⟨12,.data⟩ (by simp) (by rfl)
   obtain⟨cur,gh,oe,hO,hS,dL⟩:=hr.app (t:=3) gq (by kernel_rfl) rfl (fun a h0 ha=>by cases ha;exact e11) rfl
   obtain⟨A5,c5,ev,hR,-⟩:=hS (12,44,13,[125]) (by simp) e12 gq
   obtain⟨v1,w1,bZ,h2,h3,h4⟩:=iy w.heap.size 24 24 5 .u8 1 Tryz.underlying24 cF (by decide) cur _ [125] A5 _ c5 hO.1 hR hO.2.size (by simp [Rg.T];omega)
   exact iq rfl rfl rfl rfl (oe _ (by decide) rfl) (by omega) ev (by omega) bZ ⟨_,rfl,dL _ _ h2 h3 h4⟩
  ·cases ho
   have BJ:∀k,k<14→D k=true:=fun k hk=>by
    have kV:k=0∨k=1∨k=2∨k=3∨k=4∨k=5∨k=6∨k=7∨k=8∨k=9∨k=10∨k=11∨k=12∨k=13:=by omega
    rcases kV with rfl|rfl|rfl|rfl|rfl|rfl|rfl|rfl|rfl|rfl|rfl|rfl|rfl|rfl<;>exact bo ⟨_,.phase⟩ (by simp) (by rfl)
   obtain⟨cur,h,hR⟩:=hr.last (m:=3) BJ rfl rfl (by decide:13<14) (by kernel_rfl) (by kernel_rfl) (by kernel_rfl) (by kernel_rfl)
   refine cy rfl rfl rfl (v:=cur) (W':=W) ?_ ⟨_,rfl,hR⟩
   clear hr bo hR
   obtain⟨f,hf,rfl⟩:=cV l hl
   rw [hf] at h
   dsimp only at h
   rw [h]
   go_simp
 ·rintro D a W ⟨l,rfl,hr⟩ fi
  obtain⟨cur,h5,hO⟩:=hr.done (m:=3) (fun k hk=>fi k (Nat.lt_succ_of_le hk)) rfl rfl (by decide:13<14)
  exact hK _ _ cur (hr.sh rfl) h5 (by simpa [Rg.T] using hO) (hr.fr (7,.pointer (some ⟨g,0,none⟩)) (by simp)) hr.eC
end Go.Proofs.YtlglijnaeaonpaaGreatDoor.Lx
end
section
set_option maxHeartbeats 8000000
set_option maxRecDepth 100000
set_option linter.unusedVariables false
set_option linter.unusedSimpArgs false
namespace Go.Proofs.YtlglijnaeaonpaaGreatDoor.Lx
open Go.RowKit Go.Proofs.YtlglijnaeaonpaaGreatDoorW.aC Go.Proofs.YtlglijnaeaonpaaGreatDoor.bG
variable {w wr:World} {A:Option Addr} {n c:Nat} {st j:Int} {g:Nat} {kb:ByteArray} {A1 A2 A3 A4:Option Addr} {n1 n2 n3 n4 c1 c2 c3 c4:Nat} {o:Value} {xs nm:List Int} {l:List Value} {K:Act→World→Prop} {Q:Exit→Act→World→Prop}
theorem Md {b:Bool} (jN:SH A n c st j l) (h5:l.getD 5 default=o) (hb:decide (j<(n:Int))=b)
  (hK:∀l',SH A n c st j l' →l'.getD 5 default=o→l'.getD 12 default= .bool b→K ⟨l'.toArray,[]⟩ wr):
  Code.wp Tryz.prog (bI [0] d6) (Exit.then K Q) ⟨l.toArray,[]⟩ wr:=by
 obtain⟨hl,h1,h9,dG,im⟩:=jN
 obtain⟨f,hf,rfl⟩:=cV l hl
 rw [hf] at h1 h5 h9 dG im
 rw [h1,h5,h9,dG,im]
 have HK:=am hK
 clear hf hl h1 h5 h9 dG im hK
 conv=>arg 2;whnf
 cases b with
 | true=>
  have CX :j<(n:Int):=of_decide_eq_true hb
  go_wp2_with (fail)
  exact HK.out _ ⟨by kernel_rfl,rfl,rfl,rfl,rfl⟩ rfl rfl
 | false=>
  have CX :¬(j<(n:Int)):=of_decide_eq_false hb
  go_wp2_with (fail)
  exact HK.out _ ⟨by kernel_rfl,rfl,rfl,rfl,rfl⟩ rfl rfl
theorem Vv {ad:Addr} (jN:SH (some ad) n c st j l) (h5:l.getD 5 default=o) (h0:0≤j) (hj:j<n)
  (x0:wr.cell? (ad.add (j.toNat*5))=some (.string kb)) (x1:wr.cell? ⟨(ad.add (j.toNat*5)).block,(ad.add (j.toNat*5)).off+1,none⟩=some (.slice A1 n1 c1))
  (x2:wr.cell? ⟨(ad.add (j.toNat*5)).block,(ad.add (j.toNat*5)).off+2,none⟩=some (.slice A2 n2 c2)) (x3:wr.cell? ⟨(ad.add (j.toNat*5)).block,(ad.add (j.toNat*5)).off+3,none⟩=some (.slice A3 n3 c3))
  (x4:wr.cell? ⟨(ad.add (j.toNat*5)).block,(ad.add (j.toNat*5)).off+4,none⟩=some (.slice A4 n4 c4))
  (hK:∀l',SH (some ad) n c st j l' →l'.getD 5 default=o→l'.getD 7 default= .pointer (some ⟨wr.heap.size,0,none⟩)→K ⟨l'.toArray,[]⟩ (wr.alloc (.cells #[.string kb,.slice A1 n1 c1,.slice A2 n2 c2,.slice A3 n3 c3,.slice A4 n4 c4] 38))):
  Code.wp Tryz.prog (bI [1,1,0,0,0] d6) (Exit.then K Q) ⟨l.toArray,[]⟩ wr:=by
 obtain⟨hl,h1,h9,dG,im⟩:=jN
 obtain⟨f,hf,rfl⟩:=cV l hl
 rw [hf] at h1 h5 h9 dG im
 rw [h1,h5,h9,dG,im]
 have HK:=am hK
 have B7:=eq_true h0
 clear hf hl h1 h5 h9 dG im hK
 conv=>arg 2;whnf
 go_wp2_with (fail)
 exact HK.out _ ⟨by kernel_rfl,rfl,rfl,rfl,rfl⟩ rfl rfl
theorem Vx (jN:SH A n c st j l) (h5:l.getD 5 default=o) (h7:l.getD 7 default= .pointer (some ⟨g,0,none⟩)) (hc:wr.cell? ⟨g,0,none⟩=some (.string kb))
  (hK:∀l',SH A n c st j l' →l'.getD 5 default=o→l'.getD 7 default= .pointer (some ⟨g,0,none⟩)→l'.getD 16 default= .string kb→K ⟨l'.toArray,[]⟩ wr):
  Code.wp Tryz.prog (bI [1,1,0,0,1,0,0] d6) (Exit.then K Q) ⟨l.toArray,[]⟩ wr:=by
 obtain⟨hl,h1,h9,dG,im⟩:=jN
 obtain⟨f,hf,rfl⟩:=cV l hl
 rw [hf] at h1 h5 h9 dG im h7
 rw [h1,h5,h9,dG,im,h7]
 have HK:=am hK
 clear hf hl h1 h5 h9 dG im h7 hK
 conv=>arg 2;whnf
 go_wp2_with (fail)
 exact HK.out _ ⟨by kernel_rfl,rfl,rfl,rfl,rfl⟩ rfl rfl rfl
theorem D3 {b:Bool} (jN:SH A n c st j l) (h5:l.getD 5 default=o) (h7:l.getD 7 default= .pointer (some ⟨g,0,none⟩)) (Vy:l.getD 16 default= .string kb) (hb:(kb.toList==([114,117,108,101]:List UInt8))=b)
  (hK:∀l',SH A n c st j l' →l'.getD 5 default=o→l'.getD 7 default= .pointer (some ⟨g,0,none⟩)→l'.getD 16 default= .string kb→l'.getD 46 default= .bool b→K ⟨l'.toArray,[]⟩ wr):
  Code.wp Tryz.prog (bI [1,1,0,0,1,0,1,0,0] d6) (Exit.then K Q) ⟨l.toArray,[]⟩ wr:=by
 obtain⟨hl,h1,h9,dG,im⟩:=jN
 obtain⟨f,hf,rfl⟩:=cV l hl
 rw [hf] at h1 h5 h9 dG im h7 Vy
 rw [h1,h5,h9,dG,im,h7,Vy]
 have HK:=am hK
 clear hf hl h1 h5 h9 dG im h7 Vy hK
 conv=>arg 2;whnf
 go_wp2_with (fail)
 exact HK.out _ ⟨by kernel_rfl,rfl,rfl,rfl,rfl⟩ rfl rfl rfl rfl
theorem Gf {b:Bool} (jN:SH A n c st j l) (h5:l.getD 5 default=o) (h7:l.getD 7 default= .pointer (some ⟨g,0,none⟩)) (Vy:l.getD 16 default= .string kb) (hb:(kb.toList==([97,116]:List UInt8))=b)
  (hK:∀l',SH A n c st j l' →l'.getD 5 default=o→l'.getD 7 default= .pointer (some ⟨g,0,none⟩)→l'.getD 71 default= .bool b→K ⟨l'.toArray,[]⟩ wr):
  Code.wp Tryz.prog (bI [1,1,0,0,1,0,1,0,1,1,0] d6) (Exit.then K Q) ⟨l.toArray,[]⟩ wr:=by
 obtain⟨hl,h1,h9,dG,im⟩:=jN
 obtain⟨f,hf,rfl⟩:=cV l hl
 rw [hf] at h1 h5 h9 dG im h7 Vy
 rw [h1,h5,h9,dG,im,h7,Vy]
 have HK:=am hK
 clear hf hl h1 h5 h9 dG im h7 Vy hK
 conv=>arg 2;whnf
 go_wp2_with (fail)
 exact HK.out _ ⟨by kernel_rfl,rfl,rfl,rfl,rfl⟩ rfl rfl rfl
theorem OT.be {w W:World} {v:Value} {xs:List Int} (h:OT w W v xs):Below w.heap.size w W:=h.2
theorem OT.slice {w W:World} {v:Value} {xs:List Int} (h:OT w W v xs):∃A n c,v= .slice A n c:=by
 obtain⟨A,c,e⟩:=dP h.1
 exact⟨A,_,c,e⟩
theorem ff {W:World} {B:Nat} {v:Value} {m:Nat} {cs:List Value} (h:W.ownsRow B 5 1 v m cs):∃A n c,v= .slice A n c:=by
 obtain⟨A,c,e⟩:=dP h
 exact⟨A,_,c,e⟩
theorem Vz {v2 v3 v4:Value} (jN:SH A n c st j l) (h5:l.getD 5 default=o) (h7:l.getD 7 default= .pointer (some ⟨g,0,none⟩)) (dd:wr.heap[g]? =some (.cells #[.string kb,.slice A1 nm.length c1,v2,v3,v4] 38 (0,0)))
  (hD:OT w wr o xs) (k1:Kd.C (Kd.int .u8) w A1 nm.length nm) (gV:0≤st) (gW:st≤2) (hx:xs.length≤1000000000) (qM:nm.length≤1000000000)
  (hK:∀l' W o',SH A n c st j l' →l'.getD 5 default=o' →l'.getD 7 default= .pointer (some ⟨g,0,none⟩)→W.heap[g]? =some (.cells #[.string kb,.slice A1 nm.length c1,v2,v3,v4] 38 (0,0))→OT w W o' (xs++nm++bw st++ [123]++bw st)→K ⟨l'.toArray,[]⟩ W):
  Code.wp Tryz.prog (bI [1,1,0,0,1,0,1,0,1,0,0] d6) (Exit.then K Q) ⟨l.toArray,[]⟩ wr:=by
 obtain⟨hl,h1,h9,dG,im⟩:=jN
 obtain⟨f,hf,rfl⟩:=cV l hl
 rw [hf] at h1 h5 h9 dG im h7
 rw [h1,h5,h9,dG,im,h7]
 obtain⟨Ao,no,co,rfl⟩:=hD.slice
 have kx:wr.cell? ⟨g,1,none⟩=some (.slice A1 nm.length c1):=by rw [ao dd];rfl
 have HK:=am hK
 have HD:=am (And.intro hD (And.intro k1 dd))
 have Oo:=eQ st
 have hgs:=gQ st
 clear hf hl h1 h5 h9 dG im h7 hK hD k1 dd
 conv=>arg 2;whnf
 go_wp2_with (first
  | (at_builtin;refine cA (w0:=w) w.heap.size rfl (.tmp 48) (.tmp 50) 24 5 .u8 1 (by rfl) Tryz.underlying24 cF (by decide) (.slice Ao no co) _ _ A1 nm.length c1 (by rfl) (by rfl) HD.out.1.1 (dO (Kd.cG HD.out.2.1 HD.out.1.2)) HD.out.1.2 HD.out.1.2.size (by omega) ?_;intro v1 w1 bl hB hg dz;have H1:=am (And.intro bl (And.intro hB (cE HD.out.2.2 hg (dJ HD.out.1.1 HD.out.2.2 (by decide)))));clear bl hB hg dz)
  | (go_at_call 16;(with_reducible refine(jc st gV gW).mono ?_);rintro e w' ⟨rfl,rfl⟩)
  | (at_builtin;refine dj (w0:=w) w.heap.size rfl (.tmp 51) (.tmp 53) 24 9 5 (by rfl) Tryz.underlying24 Tryz.underlying9 cF v1 _ (k8 st) (by rfl) (by rfl) H1.out.1 H1.out.2.1 H1.out.2.1.size (by simp only [List.length_append];omega) ?_;rw [eV];intro Z8 w2 bl hB hg;have H2:=am (And.intro bl (And.intro hB (cE H1.out.2.2 hg (dJ H1.out.1 H1.out.2.2 (by decide)))));clear bl hB hg)
  | (at_builtin;refine cz (w0:=w) w.heap.size rfl (.tmp 54) (.tmp 55) 24 5 .u8 1 (by rfl) Tryz.underlying24 cF (by decide) Z8 _ 123 (by rfl) (by first|rfl|simp [Act.eval]) H2.out.1 H2.out.2.1 H2.out.2.1.size (by simp only [List.length_append];omega) ?_;intro v3b w3 bl hB hg dz;have H3:=am (And.intro bl (And.intro hB (cE H2.out.2.2 hg (dJ H2.out.1 H2.out.2.2 (by decide)))));clear bl hB hg dz)
  | (at_builtin;refine dj (w0:=w) w.heap.size rfl (.tmp 56) (.tmp 58) 24 9 5 (by rfl) Tryz.underlying24 Tryz.underlying9 cF v3b _ (k8 st) (by rfl) (by rfl) H3.out.1 H3.out.2.1 H3.out.2.1.size (by simp only [List.length_append,List.length_cons,List.length_nil];omega) ?_;rw [eV];intro v4b w4 bl hB hg;obtain⟨A4b,n4b,c4b,rfl⟩:=ff bl;have H4:=am (And.intro bl (And.intro hB (cE H3.out.2.2 hg (dJ H3.out.1 H3.out.2.2 (by decide)))));clear bl hB hg))
 exact HK.out _ _ _ ⟨by kernel_rfl,rfl,rfl,rfl,rfl⟩ rfl rfl H4.out.2.2 ⟨H4.out.1,H4.out.2.1⟩
theorem PX {v1 v2 v4:Value} {ds:List gx} (jN:SH A n c st j l) (h5:l.getD 5 default=o) (h7:l.getD 7 default= .pointer (some ⟨g,0,none⟩)) (dd:wr.heap[g]? =some (.cells #[.string kb,v1,v2,.slice A3 ds.length c3,v4] 38 (0,0)))
  (hD:OT w wr o xs) (k3:DL w A3 c3 ds) (hv:Wi ds) (gV:0≤st) (gW:st≤2) (hx:xs.length≤1000000000) (MJ:(dh st ds).length≤1000000000)
  (hK:∀l' W o',SH A n c st j l' →l'.getD 5 default=o' →OT w W o' (xs++dh st ds++bw st++ [125])→K ⟨l'.toArray,[]⟩ W):
  Code.wp Tryz.prog (bI [1,1,0,0,1,0,1,0,1,0,1] d6) (Exit.then K Q) ⟨l.toArray,[]⟩ wr:=by
 obtain⟨hl,h1,h9,dG,im⟩:=jN
 obtain⟨f,hf,rfl⟩:=cV l hl
 rw [hf] at h1 h5 h9 dG im h7
 rw [h1,h5,h9,dG,im,h7]
 obtain⟨Ao,no,co,rfl⟩:=hD.slice
 have kx:wr.cell? ⟨g,3,none⟩=some (.slice A3 ds.length c3):=by rw [ao dd];rfl
 have HK:=am hK
 have HD:=am (And.intro hD (And.intro k3 hv))
 have Oo:=eQ st
 have hgs:=gQ st
 clear hf hl h1 h5 h9 dG im h7 hK hD k3 dd hv
 conv=>arg 2;whnf
 go_wp2_with (first
  | (go_at_call 12;(with_reducible refine(nk (HD.out.2.1.below HD.out.1.be) HD.out.2.2 st gV gW).mono ?_);rintro e w1 ⟨v1b,rfl,dW,eW⟩;obtain⟨A6,c6,rfl,oT⟩:=qj dW;have H1:=am (And.intro (HD.out.1.below eW) oT);clear dW eW oT)
  | (at_builtin;refine cA (w0:=w) w.heap.size rfl (.tmp 60) (.tmp 64) 24 5 .u8 1 (by rfl) Tryz.underlying24 cF (by decide) (.slice Ao no co) _ _ A6 (dh st ds).length c6 (by rfl) (by rfl) H1.out.1.1 H1.out.2 H1.out.1.2 H1.out.1.2.size (by omega) ?_;intro Z8 w2 bl hB hg dz;have H2:=am (And.intro bl hB);clear bl hB hg dz)
  | (go_at_call 16;(with_reducible refine(jc st gV gW).mono ?_);rintro e w' ⟨rfl,rfl⟩)
  | (at_builtin;refine dj (w0:=w) w.heap.size rfl (.tmp 65) (.tmp 67) 24 9 5 (by rfl) Tryz.underlying24 Tryz.underlying9 cF Z8 _ (k8 st) (by rfl) (by rfl) H2.out.1 H2.out.2 H2.out.2.size (by simp only [List.length_append];omega) ?_;rw [eV];intro v3b w3 bl hB hg;have H3:=am (And.intro bl hB);clear bl hB hg)
  | (at_builtin;refine cz (w0:=w) w.heap.size rfl (.tmp 68) (.tmp 69) 24 5 .u8 1 (by rfl) Tryz.underlying24 cF (by decide) v3b _ 125 (by rfl) (by first|rfl|simp [Act.eval]) H3.out.1 H3.out.2 H3.out.2.size (by simp only [List.length_append];omega) ?_;intro v4b w4 bl hB hg dz;obtain⟨A4b,n4b,c4b,rfl⟩:=ff bl;have H4:=am (And.intro bl hB);clear bl hB hg dz))
 exact HK.out _ _ _ ⟨by kernel_rfl,rfl,rfl,rfl,rfl⟩ rfl ⟨H4.out.1,H4.out.2⟩
theorem PY (jN:SH A n c st j l) (h5:l.getD 5 default=o) (hD:OT w wr o xs) (gV:0≤st) (gW:st≤2) (hx:xs.length≤10000000000)
  (hK:∀l' W o',SH A n c st j l' →l'.getD 5 default=o' →OT w W o' (xs++bw st)→K ⟨l'.toArray,[]⟩ W):
  Code.wp Tryz.prog (bI [1,1,0,0,1,1] d6) (Exit.then K Q) ⟨l.toArray,[]⟩ wr:=by
 obtain⟨hl,h1,h9,dG,im⟩:=jN
 obtain⟨f,hf,rfl⟩:=cV l hl
 rw [hf] at h1 h5 h9 dG im
 rw [h1,h5,h9,dG,im]
 obtain⟨Ao,no,co,rfl⟩:=hD.slice
 have HK:=am hK
 have HD:=am hD
 have Oo:=eQ st
 have hgs:=gQ st
 clear hf hl h1 h5 h9 dG im hK hD
 conv=>arg 2;whnf
 go_wp2_with (first
  | (go_at_call 16;(with_reducible refine(jc st gV gW).mono ?_);rintro e w' ⟨rfl,rfl⟩)
  | (at_builtin;refine dj (w0:=w) w.heap.size rfl (.tmp 85) (.tmp 87) 24 9 5 (by rfl) Tryz.underlying24 Tryz.underlying9 cF (.slice Ao no co) _ (k8 st) (by rfl) (by rfl) HD.out.1 HD.out.2 HD.out.2.size (by omega) ?_;rw [eV];intro v3b w3 bl hB hg;obtain⟨A4b,n4b,c4b,rfl⟩:=ff bl;have H3:=am (And.intro bl hB);clear bl hB hg))
 exact HK.out _ _ _ ⟨by kernel_rfl,rfl,rfl,rfl,rfl⟩ rfl ⟨H3.out.1,H3.out.2⟩
theorem PZ (jN:SH A n c st j l) (h5:l.getD 5 default=o) (h0:0≤j) (hj:j≤1000000)
  (hK:∀l',SH A n c st (j+1) l' →l'.getD 5 default=o→K ⟨l'.toArray,[]⟩ wr):
  Code.wp Tryz.prog (bI [1,1,1] d6) (Exit.then K Q) ⟨l.toArray,[]⟩ wr:=by
 obtain⟨hl,h1,h9,dG,im⟩:=jN
 obtain⟨f,hf,rfl⟩:=cV l hl
 rw [hf] at h1 h5 h9 dG im
 rw [h1,h5,h9,dG,im]
 have HK:=am hK
 clear hf hl h1 h5 h9 dG im hK
 conv=>arg 2;whnf
 go_wp2_with (fail)
 exact HK.out _ ⟨by kernel_rfl,rfl,rfl,rfl,rfl⟩ rfl
theorem RJ:d6= .seq (bI [0] d6) (.seq (.cond (.tmp 12) .skip (.exit 0)) (.seq (.block 1 (.seq (bI [1,1,0,0,0] d6) (.seq (.seq (bI [1,1,0,0,1,0,0] d6) (.block 2 (.seq (bI [1,1,0,0,1,0,1,0,0] d6) (.cond (.tmp 46) (.seq (bI [1,1,0,0,1,0,1,0,1,0,0] d6) (bI [1,1,0,0,1,0,1,0,1,0,1] d6)) (.seq (bI [1,1,0,0,1,0,1,0,1,1,0] d6) (.cond (.tmp 71) (bI [1,1,0,0,1,0,1,0,1,1,1,0] d6) (.seq (bI [1,1,0,0,1,0,1,0,1,1,1,1,0] d6) (bI [1,1,0,0,1,0,1,0,1,1,1,1,1] d6)))))))) (bI [1,1,0,0,1,1] d6)))) (bI [1,1,1] d6))):=by kernel_rfl
end Go.Proofs.YtlglijnaeaonpaaGreatDoor.Lx
end
section
set_option maxHeartbeats 8000000
set_option maxRecDepth 100000
set_option linter.unusedVariables false
set_option linter.unusedSimpArgs false
namespace Go.Proofs.YtlglijnaeaonpaaGreatDoor.Lx
open Go.RowKit Go.Proofs.YtlglijnaeaonpaaGreatDoorW.aC Go.Proofs.YtlglijnaeaonpaaGreatDoor.bG
theorem r8 {P:Program} {m:Nat} {c:Code} {a:Act} {w:World} {K:Act→World→Prop} {Q:Exit→Act→World→Prop} (h:c.wp P (Exit.then K (Exit.inBlock m (Exit.then K Q))) a w):c.wp P (Exit.inBlock m (Exit.then K Q)) a w:=
 wp_mono h (fun e a w' hq=>by cases e<;>exact hq)
variable {w wr:World} {n c:Nat} {st j:Int} {ad:Addr} {A1 A2 A3 A4:Option Addr} {c1 c2 c3 c4:Nat} {o:Value} {xs:List Int} {l:List Value} {K:Act→World→Prop} {Q:Exit→Act→World→Prop}
theorem Ib {d:Nat} {kind:ByteArray} {name:List Int} {words:List (List Int)} {decls:List gx} {parts:List PT} (hv:qi d (.mk kind name words decls parts)) (hLB:LB d≤50000000)
  (IH:∀d',d=d' +1→mx d' parts→∀W,Below w.heap.size w W→Calls Tryz.prog 6 #[.slice A4 parts.length c4,.int .i64 st] W (OL W (iT st d' parts)))
  (jN:SH (some ad) n c st j l) (h5:l.getD 5 default=o) (h0:0≤j) (hj:j<n) (Oi:j≤1000000)
  (x0:wr.cell? (ad.add (j.toNat*5))=some (.string kind)) (x1:wr.cell? ⟨(ad.add (j.toNat*5)).block,(ad.add (j.toNat*5)).off+1,none⟩=some (.slice A1 name.length c1))
  (x2:wr.cell? ⟨(ad.add (j.toNat*5)).block,(ad.add (j.toNat*5)).off+2,none⟩=some (.slice A2 words.length c2)) (x3:wr.cell? ⟨(ad.add (j.toNat*5)).block,(ad.add (j.toNat*5)).off+3,none⟩=some (.slice A3 decls.length c3))
  (x4:wr.cell? ⟨(ad.add (j.toNat*5)).block,(ad.add (j.toNat*5)).off+4,none⟩=some (.slice A4 parts.length c4))
  (k1:VB w A1 c1 name) (k2:VL w A2 c2 words) (k3:DL w A3 c3 decls) (gV:0≤st) (gW:st≤2) (hD:OT w wr o xs) (hx:xs.length≤600000000)
  (hK:∀l' W o',SH (some ad) n c st (j+1) l' →l'.getD 5 default=o' →OT w W o' (xs++(pf st d (.mk kind name words decls parts)++bw st))→K ⟨l'.toArray,[]⟩ W):
  Code.wp Tryz.prog d6 (Exit.then K Q) ⟨l.toArray,[]⟩ wr:=by
 have hlen:=tU (st:=st) d _ hv
 have Oo:=eQ st
 rw [RJ]
 refine wp_seq_k fun K1 gv=> ?_
 refine Md jN h5 (decide_eq_true hj) fun l1 s1 a1 t1=>gv _ _ ?_
 refine wp_seq_k fun K2 ik=> ?_
 refine wp_cond_true (D2 t1 s1.1 (by decide)) (wp_skip (ik _ _ ?_))
 refine wp_seq_k fun K3 jK=>wp_block ?_
 refine wp_seq_k fun K4 lW=> ?_
 refine Vv s1 a1 h0 hj x0 x1 x2 x3 x4 fun l2 s2 a2 b2=>lW _ _ ?_
 have hD1:=hD.below (au (Below.refl _ wr) (.cells #[.string kind,.slice A1 name.length c1,.slice A2 words.length c2,.slice A3 decls.length c3,.slice A4 parts.length c4] 38))
 have dd:=heap_alloc_new wr (.cells #[.string kind,.slice A1 name.length c1,.slice A2 words.length c2,.slice A3 decls.length c3,.slice A4 parts.length c4] 38)
 generalize (wr.alloc (.cells #[.string kind,.slice A1 name.length c1,.slice A2 words.length c2,.slice A3 decls.length c3,.slice A4 parts.length c4] 38))=W1 at hD1 dd⊢
 clear x0 x1 x2 x3 x4 lW hD
 refine wp_seq_k fun K5 oU=> ?_
 have fin:∀l' W o' ys,SH (some ad) n c st j l' →l'.getD 5 default=o' →OT w W o' ys→ys=xs++pf st d (.mk kind name words decls parts)→K5 ⟨l'.toArray,[]⟩ W:=by
  intro l' W o' ys Pr h5' hO hys
  refine oU _ _ (r8 ?_)
  have hyl:ys.length≤10000000000:=by
   rw [hys,List.length_append]
   omega
  refine PY Pr h5' hO gV gW hyl fun l6 W6 o6 s6 a6 RL=>jK _ _ ?_
  refine PZ s6 a6 h0 Oi fun l7 s7 a7=> ?_
  refine hK l7 W6 o6 s7 a7 ?_
  rw [hys,List.append_assoc] at RL
  exact RL
 refine wp_seq_k fun K6 Hj=> ?_
 refine Vx s2 a2 b2 (by rw [ao dd];rfl) fun l3 s3 a3 b3 q3=>Hj _ _ (wp_block ?_)
 refine wp_seq_k fun K7 Lq=> ?_
 clear gv ik Hj
 cases hv with
 | p9 _ _ _ hs ht Q4 hdo=>
  refine D3 (b:=true) s3 a3 b3 q3 (by kernel_rfl) fun l4 s4 a4 b4 q4 t4=>Lq _ _ ?_
  refine wp_cond_true (D2 t4 s4.1 (by decide)) ?_
  refine wp_seq_k fun K8 DP=> ?_
  rw [lh] at hlen fin
  simp only [List.length_append,List.length_cons,List.length_nil] at hlen
  refine Vz (nm:=name) s4 a4 b4 dd hD1 k1.rd gV gW (by omega) (by omega) fun l5 W5 o5 s5 a5 b5 g5 hO5=>DP _ _ (r8 ?_)
  refine PX s5 a5 b5 g5 hO5 k3 ⟨Q4,fun x hx=>(hdo x hx).1⟩ gV gW (by simp only [List.length_append,List.length_cons,List.length_nil];omega) (by omega) fun l6 W6 o6 s6 a6 RL=> ?_
  exact fin l6 W6 o6 _ s6 a6 RL (by simp only [List.append_assoc])
 | yK _ _ _ hn hw nj VA=>
  refine D3 (b:=false) s3 a3 b3 q3 (by kernel_rfl) fun l4 s4 a4 b4 q4 t4=>Lq _ _ ?_
  refine wp_cond_false (D2 t4 s4.1 (by decide)) ?_
  refine wp_seq_k fun K8 DP=> ?_
  refine Gf (b:=true) s4 a4 b4 q4 (by kernel_rfl) fun l5 s5 a5 b5 t5=>DP _ _ ?_
  refine wp_cond_true (D2 t5 s5.1 (by decide)) (r8 ?_)
  rw [oa] at hlen fin
  simp only [List.length_append,List.length_cons,List.length_nil] at hlen
  refine PU (nm:=name) (wl:=aX words) s5 a5 b5 dd hD1 k1.rd k2 rfl rfl (by have:=nj.len;omega) gV gW (by omega) (by omega) (by omega) fun l6 W6 o6 s6 a6 RL _ _=> ?_
  exact fin l6 W6 o6 _ s6 a6 RL (by simp only [List.append_assoc])
 | eC d' _ _ _ hn hw nj VA Wk hp=>
  refine D3 (b:=false) s3 a3 b3 q3 (by kernel_rfl) fun l4 s4 a4 b4 q4 t4=>Lq _ _ ?_
  refine wp_cond_false (D2 t4 s4.1 (by decide)) ?_
  refine wp_seq_k fun K8 DP=> ?_
  refine Gf (b:=false) s4 a4 b4 q4 (by kernel_rfl) fun l5 s5 a5 b5 t5=>DP _ _ ?_
  refine wp_cond_false (D2 t5 s5.1 (by decide)) ?_
  refine wp_seq_k fun K9 UD=> ?_
  rw [rZ] at hlen fin
  simp only [List.length_append,List.length_cons,List.length_nil] at hlen
  refine Vt (nm:=name) (wl:=aX words) s5 a5 b5 dd hD1 k1.rd k2 rfl rfl (by have:=nj.len;omega) gV gW (by omega) (by omega) (by omega) fun l6 W6 o6 s6 a6 RL b6 g6=>UD _ _ (r8 ?_)
  refine Vu (nm:=name) (wl:=iT st d' parts) s6 a6 b6 g6 RL k1.rd (IH d' rfl ⟨Wk,hp⟩) gV gW (by simp only [List.length_append,List.length_cons,List.length_nil];omega) (by omega) (by omega) fun l7 W7 o7 s7 a7 hO7 _ _=> ?_
  exact fin l7 W7 o7 _ s7 a7 hO7 (by simp only [List.append_assoc])
theorem Me {st:Int} {d:Nat} {ps:List PT} {j:Nat} {p:PT} (h:ps[j]? =some p):iT st d (ps.take (j+1))=iT st d (ps.take j)++(pf st d p++bw st):=by
 unfold iT
 rw [List.take_add_one,h,List.flatMap_append]
 simp
theorem BK {st:Int} {d:Nat} {ps:List PT} (j:Nat):(iT st d (ps.take j)).length≤(iT st d ps).length:=by
 have:iT st d ps=iT st d (ps.take j)++iT st d (ps.drop j):=by
  unfold iT
  rw [←List.flatMap_append,List.take_append_drop]
 rw [this,List.length_append]
 omega
theorem nz {d:Nat} {st:Int} (hLB:LB d≤50000000) (gV:0≤st) (gW:st≤2)
  (IH:∀d',d=d' +1→∀{w:World} {A:Option Addr} {c:Nat} {ps:List PT},PL (d' +1) w A c ps→mx d' ps→Calls Tryz.prog 6 #[.slice A ps.length c,.int .i64 st] w (OL w (iT st d' ps)))
  {w:World} {A:Option Addr} {c:Nat} {ps:List PT} (h:PL (d+1) w A c ps) (hv:mx d ps):
  Calls Tryz.prog 6 #[.slice A ps.length c,.int .i64 st] w (OL w (iT st d ps)):=by
 have hl:=h.len
 have ahA:=Hy (st:=st) hv
 have HH:=am h
 have HV:=am hv
 have HI:=am @IH
 have qf:OT w (w.alloc (.cells #[] 5)) (.slice (some ⟨w.heap.size,0,none⟩) 0 0) (iT st d (ps.take 0)):=by
  refine⟨⟨rfl,.inr ⟨w.heap.size,0,#[],rfl,Nat.le_refl _,?_,by simp [iT],by simp [maxLen,iT],by simp,by simp [iT,bp]⟩⟩,au (Below.refl _ _) _⟩
  simpa using heap_alloc_new w (.cells #[] 5)
 have rV:=am qf
 clear h hv IH qf
 go_enter Tryz.func6,Tryz.ntmps6
 go_wp2_with (fail)
 refine cZ 91 (fun g l wr=>∃(j:Nat) (o:Value),j≤ps.length∧g=ps.length - j∧SH A ps.length c st (j:Int) l∧l.getD 5 default=o∧OT w wr o (iT st d (ps.take j))) ps.length _ (by kernel_rfl)
  ⟨0,_,Nat.zero_le _,rfl,⟨by kernel_rfl,rfl,rfl,rfl,rfl⟩,rfl,rV.out⟩ ?_
 clear rV
 rintro m l wr hlen ⟨j,o,D8,hm,jN,h5,hO⟩ J hJ
 show Code.wp Tryz.prog d6 _ _ _
 rcases Nat.lt_or_ge j ps.length with hj|hj
 ·obtain⟨ad,A1,c1,A2,c2,A3,c3,A4,c4,kind,name,words,decls,parts,rfl,hx,x0,x1,x2,x3,x4,k1,k2,k3,k4⟩:=HH.out.get (j:=(j:Int)) (by omega) (by omega)
  rw [Int.toNat_natCast] at hx
  have hpv:=HV.out.2 _ (List.mem_of_getElem? hx)
  have ng:=BK (st:=st) (d:=d) (ps:=ps) j
  refine Ib (w:=w) hpv hLB (fun d' hd VC W hb=>HI.out d' hd (by subst hd;exact k4.below hb) VC) jN h5 (by omega) (by omega) (by have:=HV.out.1;omega) (al hO.2 x0) (al hO.2 x1) (al hO.2 x2) (al hO.2 x3) (al hO.2 x4) k1 k2 k3 gV gW hO (by omega) ?_
  intro l' W o' s' a' hO'
  refine hJ (ps.length - (j+1)) l' W (by omega) s'.1 ⟨j+1,o',by omega,rfl,?_,a',?_⟩
  ·rw [show ((j+1:Nat):Int)=(j:Int)+1 by omega]
   exact s'
  ·rw [Me hx]
   exact hO'
 ·have rC:j=ps.length:=by omega
  subst rC
  rw [RJ]
  refine wp_seq_k fun K1 gv=> ?_
  refine Md (b:=false) jN h5 (by simp) fun l1 s1 a1 t1=>gv _ _ ?_
  refine wp_seq_k fun K2 ik=> ?_
  refine wp_cond_false (D2 t1 s1.1 (by decide)) (wp_exit ?_)
  obtain⟨oz,h1,h9,dG,im⟩:=s1
  obtain⟨f,hf,rfl⟩:=cV l1 oz
  rw [hf] at a1
  rw [a1]
  rw [List.take_length] at hO
  obtain⟨Ao,no,co,rfl⟩:=hO.slice
  have HO:=am hO
  clear hf oz h1 h9 dG im t1 a1 gv ik hJ jN h5 hO
  simp only [Exit.inBlock,Exit.then]
  go_wp2_with (fail)
  go_ret
  exact⟨_,rfl,HO.out.1,HO.out.2⟩
theorem u6 {st:Int} (gV:0≤st) (gW:st≤2):∀(d:Nat),LB d≤50000000→∀{w:World} {A:Option Addr} {c:Nat} {ps:List PT},PL (d+1) w A c ps→mx d ps→Calls Tryz.prog 6 #[.slice A ps.length c,.int .i64 st] w (OL w (iT st d ps)):=by
 intro d
 induction d with
 | zero=>intro hd w A c ps h hv;exact nz hd gV gW (fun d' e=>by omega) h hv
 | succ d ih=>intro hd w A c ps h hv;exact nz hd gV gW (fun d' e=>by obtain rfl:d=d':=(by omega);exact ih (by unfold LB at hd;omega)) h hv
end Go.Proofs.YtlglijnaeaonpaaGreatDoor.Lx
end
