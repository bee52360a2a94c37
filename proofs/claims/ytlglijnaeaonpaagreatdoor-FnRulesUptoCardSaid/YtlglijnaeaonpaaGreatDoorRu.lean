/- FnRules: a part of the proof (Ru). -/
import Derived.Test.YtlglijnaeaonpaaGreatDoorRq
import Derived.Test.YtlglijnaeaonpaaGreatDoorRt
import Derived.StillTailTactics
import Derived.Deep.RegionWith
import Derived.Deep.RegionHeld3
import Derived.Test.YtlglijnaeaonpaaGreatDoorRi
import Derived.Lib.SlBytesConst
import Derived.Deep.LoopGhost
import Derived.Deep.DeepCutAuto
import Derived.ArgAppend
import Derived.Deep.SlicePairs
import Derived.ProofKit
section
set_option maxHeartbeats 8000000
set_option maxRecDepth 100000
set_option linter.unusedVariables false
set_option linter.unusedSimpArgs false
namespace Go.Proofs.YtlglijnaeaonpaaGreatDoor.Lx
open Go.RowKit Go.Proofs.YtlglijnaeaonpaaGreatDoorW.aC Go.Proofs.YtlglijnaeaonpaaGreatDoor.bG
theorem UJ (xs:List Int) (lo hi:Int):(mid xs lo hi).length≤xs.length:=by
 unfold mid
 rw [List.length_drop,List.length_take]
 omega
theorem yH.Dy {xs:List Int} {qs:List (ByteArray×List Int)} {i:Int} {o:Bool} (h:yH xs qs i o):∀q∈qs,q.2.length≤xs.length:=by
 induction h with
 | nil=>intro p hp;cases hp
 | snoc ps i kind i' o' h h0 h1 hk ih=>
  intro p hp
  rw [List.mem_append] at hp
  rcases hp with hp|hp
  ·exact ih p hp
  ·simp at hp
   subst hp
   exact UJ _ _ _
theorem nu {ws:List (List Int)} {n:Nat} (h:∀x∈ws,x.length≤n):(dE ws).length≤(n+1)*ws.length:=by
 induction ws with
 | nil=>simp [dE]
 | cons x r ih=>
  have:=ih (fun y hy=>h y (by simp [hy]))
  have hx:=h x (by simp)
  unfold dE at*
  simp only [List.flatMap_cons,List.length_append,List.length_cons,List.length_nil,Nat.mul_add,Nat.mul_one]
  omega
theorem Vw.pZ {K:ByteArray} {x:List Int} {qs:List (ByteArray×List Int)} (h:Vw K x qs) (hx:Tx x):(fK x).length≤60∧∀q∈fK x,q.2.length≤60:=by
 have h1:=h.len
 have h2:=h.eq
 have h3:=pQ (AU hx) (x.length+1)
 refine⟨?_,fun q hq=> ?_⟩
 ·have:=h3.2.2.2.1
  have:=h3.2.2.1
  show (fJ x (FF x) (x.length+1)).1.length≤60
  omega
 ·rw [←h2] at hq
  have:=h.tk.Dy q hq
  omega
theorem tH {ws:List (List Int)} {n:Nat} (h:∀x∈ws,(fK x).length≤n):(cI ws).length≤n*ws.length:=by
 induction ws with
 | nil=>simp [cI]
 | cons x r ih=>
  have:=ih (fun y hy=>h y (by simp [hy]))
  have hx:=h x (by simp)
  unfold cI at*
  simp only [List.flatMap_cons,List.length_append,List.length_cons,List.length_map,Nat.mul_add,Nat.mul_one]
  omega
noncomputable def iS (d:gx):Pc:=⟨⟨#[100,101,99,108,97,114,97,116,105,111,110]⟩,d.f0,dE (cI d.f1)⟩
theorem rE {P:Program} {ops:Array Oper} {o:Oper} {a:Act} {w:World} {K:Act→World→Prop} {Q:Exit→Act→World→Prop} {E:Prop} (qR:o.guard=none) (s x:Operand) (t:TypeId)
  (ho:o.op= .call {callee:=.builtin .append,args:=#[s,x],argTypes:=#[t,t]}) (v y v' :Value) (w' :World) (hs:a.eval s=v) (hx:a.eval x=y)
  (hr:(Builtin.append_ #[t,t] o.type #[v,y]).run P w= .ok v' w') (h:K (a.put o.dst v') w'):if Region.wanted o (yielded ops a.tmps)=true then Oper.wp P o a w K Q else E:=by
 have hw:Region.wanted o (yielded ops a.tmps)=true:=by simp [Region.wanted,qR]
 rw [if_pos hw]
 unfold Oper.wp execOp
 simp only [ho,resolve,invoke,builtin,Sem.run_bind,Sem.run_pure,Result.andThen_ok,List.map_toArray,List.map_cons,List.map_nil,hs,hx,hr]
 exact h
theorem FW {k:ByteArray} {t:Int} (h:Kc k t) (hs:mw kZ.data.toList ([32]++k.data.toList++ [32])=true):
  ((lT k∧(t=28∨t=2))∨(k.data.toList= [41]∧t=29)∨(¬lT k∧k.data.toList≠ [91]∧k.data.toList≠ [41]∧k.data.toList≠ [93]∧rM t))∧t≠20∧t≠32:=by
 have no:∀{k:ByteArray} {P:Prop},mw kZ.data.toList ([32]++k.data.toList++ [32])=false→mw kZ.data.toList ([32]++k.data.toList++ [32])=true→P:=by
  intro k P h1 h2;rw [h1] at h2;cases h2
 cases h with
 | fn=>exact⟨.inl ⟨by decide,.inr rfl⟩,by decide,by decide⟩
 | lp=>exact⟨.inl ⟨by decide,.inl rfl⟩,by decide,by decide⟩
 | rp=>exact⟨.inr (.inl ⟨rfl,rfl⟩),by decide,by decide⟩
 | ident=>exact⟨.inr (.inr ⟨by decide,by decide,by decide,by decide,by unfold rM;decide⟩),by decide,by decide⟩
 | hash=>exact⟨.inr (.inr ⟨by decide,by decide,by decide,by decide,by unfold rM;decide⟩),by decide,by decide⟩
 | str=>exact⟨.inr (.inr ⟨by decide,by decide,by decide,by decide,by unfold rM;decide⟩),by decide,by decide⟩
 | url=>exact⟨.inr (.inr ⟨by decide,by decide,by decide,by decide,by unfold rM;decide⟩),by decide,by decide⟩
 | num=>exact⟨.inr (.inr ⟨by decide,by decide,by decide,by decide,by unfold rM;decide⟩),by decide,by decide⟩
 | pct=>exact⟨.inr (.inr ⟨by decide,by decide,by decide,by decide,by unfold rM;decide⟩),by decide,by decide⟩
 | dim=>exact⟨.inr (.inr ⟨by decide,by decide,by decide,by decide,by unfold rM;decide⟩),by decide,by decide⟩
 | comma=>exact⟨.inr (.inr ⟨by decide,by decide,by decide,by decide,by unfold rM;decide⟩),by decide,by decide⟩
 | at_=>exact no (by kernel_rfl) hs
 | lb=>exact no (by kernel_rfl) hs
 | rb=>exact no (by kernel_rfl) hs
 | lc=>exact no (by kernel_rfl) hs
 | rc=>exact no (by kernel_rfl) hs
 | colon=>exact no (by kernel_rfl) hs
 | sV=>exact no (by kernel_rfl) hs
 | m1=>exact no (by kernel_rfl) hs
 | m2=>exact no (by kernel_rfl) hs
 | m3=>exact no (by kernel_rfl) hs
 | m4=>exact no (by kernel_rfl) hs
 | m5=>exact no (by kernel_rfl) hs
theorem Pe {xs:List Int} {i i' :Int} {k:ByteArray} (h:GQ xs i k i') (hs:mw kZ.data.toList ([32]++k.data.toList++ [32])=true):∃t,Kc k t∧Tok (xs++ [0]) i t i':=by
 have no:∀{k:ByteArray} {P:Prop},mw kZ.data.toList ([32]++k.data.toList++ [32])=false→mw kZ.data.toList ([32]++k.data.toList++ [32])=true→P:=by
  intro k P h1 h2;rw [h1] at h2;cases h2
 rcases h with h|h|⟨rfl,_⟩
 ·exact h
 ·cases h with
  | blank=>exact no (by kernel_rfl) hs
  | com=>exact no (by kernel_rfl) hs
  | ran=>exact no (by kernel_rfl) hs
  | cdc=>exact no (by kernel_rfl) hs
  | cdo=>exact no (by kernel_rfl) hs
  | col=>exact no (by kernel_rfl) hs
 ·exact no (by kernel_rfl) hs
theorem Tok.nws {bs:List Int} {p k e:Int} (h:Tok bs p k e) (hk:k≠20):¬Ws (at_ bs p):=by
 cases h with
 | ws _=>exact absurd rfl hk
 | colon h=>unfold Ws;omega
 | sV h=>unfold Ws;omega
 | comma h=>unfold Ws;omega
 | bracket t h=>unfold Bk at h;unfold Ws;omega
 | hash h h1=>unfold Ws;omega
 | string r h0 h1 h2 ha h3=>unfold Ws;omega
 | TH h h1=>unfold Ws;omega
 | JG t h h1=>unfold Mt at h;unfold Ws;omega
 | star h h1=>unfold Ws;omega
 | dot h h1=>unfold Ws;omega
 | gt h=>unfold Ws;omega
 | num q k2 e2 h hu hf=>unfold Dg at hf;unfold Ws;omega
 | uO k2 e2 h hl hf hm=>
  unfold lr Sn at h
  unfold Ws
  omega
inductive TL (xs:List Int):Int→List (ByteArray×List Int)→Prop where
 | nil:TL xs xs.length []
 | cons {i i' t:Int} {kind:ByteArray} {r:List (ByteArray×List Int)} (h0:0≤i) (h1:i<i') (h2:i' ≤xs.length) (hk:Kc kind t) (ht:Tok (xs++ [0]) i t i') (hr:TL xs i' r):TL xs i ((kind,mid xs i i')::r)
theorem yH.tl {xs:List Int} {ps:List (ByteArray×List Int)} {i:Int} {o:Bool} (h:yH xs ps i o) (hn:N0 xs) (hb:Nb xs):o=false→(∀q∈ps,mw kZ.data.toList ([32]++q.1.data.toList++ [32])=true)→∀r,TL xs i r→TL xs 0 (ps++r):=by
 induction h with
 | nil=>intro _ _ r hr;exact hr
 | snoc ps i kind i' o' h h0 h1 kV ih=>
  intro ho hk r hr
  obtain⟨t,hkc,ht⟩:=Pe (kV.2.2 hb hn ho) (hk (kind,mid xs i i') (by simp))
  rw [List.append_assoc]
  exact ih rfl (fun q hq=>hk q (by simp [hq])) _ (.cons h0 kV.2.1 h1 hkc ht hr)
theorem TL.head {xs:List Int} {i:Int} {qs:List (ByteArray×List Int)} (h:TL xs i qs) (jJ:qs≠ []):∃i' t kind d,Kc kind t∧Tok (xs++ [0]) i t i' ∧(kind,d)∈qs:=by
 cases h with
 | nil=>exact absurd rfl jJ
 | cons h0 h1 h2 hk ht hr=>exact⟨_,_,_,_,hk,ht,List.mem_cons_self ..⟩
theorem xZ.GG {st:List ByteArray} (h:xZ st []):st= []:=by cases h;rfl
theorem Hq {x bs:List Int} {o q:Int} (hI:mu x bs o) {qs:List (ByteArray×List Int)} {i:Int} (h:TL x i qs):(∀q∈qs,mw kZ.data.toList ([32]++q.1.data.toList++ [32])=true)→∀st,xZ st (qs.map (·.1))→∀r,eJ bs q 0 (o+x.length) r→
  ∃ts:List Tk,ts.map Tk.bs=qs.map (·.2)∧(∀t∈ts,t.tt≠20)∧eJ bs q st.length (o+i) (ts.map (fun t=>(t,false))++r):=by
 induction h with
 | nil=>
  intro _ st hl r hr
  have:=hl.GG
  subst this
  exact⟨[],rfl,(fun t ht=>by cases ht),hr⟩
 | @cons i i' t kind r0 h0 h1 h2 hk ht hr ih=>
  intro hs st hl r hR
  have hm:=hs _ (List.mem_cons_self ..)
  have Pf:=FW hk hm
  have jN:=ht.shift hI h0 Pf.2.1
  have cW:eo bs (o+i) t (o+i') (mid x i i') false:=
   ⟨Pf.2.1,Pf.2.2,.inl ⟨rfl,.inl ⟨jN.1,by rw [pL h0 (by omega) h2,jf hI h0 (by omega) h2]⟩⟩⟩
  have ih':=ih (fun q hq=>hs q (List.mem_cons_of_mem _ hq))
  have fin:∀(jD :List ByteArray),xZ jD (r0.map (·.1))→(∀rs,eJ bs q jD.length (o+i') rs→eJ bs q st.length (o+i) ((⟨t,mid x i i'⟩,false)::rs))→∃ts:List Tk,ts.map Tk.bs=((kind,mid x i i')::r0).map (·.2)∧(∀t∈ts,t.tt≠20)∧eJ bs q st.length (o+i) (ts.map (fun t=>(t,false))++r):=by
   intro jD Ir hc
   obtain⟨ts,e1,e2,e3⟩:=ih' jD Ir r hR
   refine⟨⟨t,mid x i i'⟩::ts,by simp [e1],?_,hc _ e3⟩
   intro z hz
   rcases List.mem_cons.1 hz with rfl|hz
   ·exact Pf.2.1
   ·exact e2 z hz
  simp only [List.map_cons] at hl
  rcases Pf.1 with ⟨rh,vJ⟩|⟨QX,rfl⟩|⟨n1,n2,n3,n4,ho⟩
  ·have hO:Ih t:=by unfold Ih;omega
   cases hl with
   | par _ _ _ _ h=>exact fin _ h fun rs Hr=> .V6 _ _ _ _ _ _ cW hO (by simpa using Hr)
   | QU _ _ _ jF _=>exfalso;unfold lT at rh;rw [jF] at rh;simp at rh
   | cls _ _ _ _ jF _=>exfalso;unfold lT at rh;rcases jF with e|e<;>rw [e] at rh<;>simp at rh
   | uP _ _ _ QH _ _ _ _=>exact absurd rh QH
  ·cases hl with
   | par _ _ _ jF _=>exfalso;unfold lT at jF;rw [QX] at jF;simp at jF
   | QU _ _ _ jF _=>exfalso;rw [QX] at jF;simp at jF
   | cls jD c _ _ _ h=>
    refine fin _ h fun rs Hr=> ?_
    rw [List.length_append]
    exact .cls _ _ _ _ _ _ cW (by unfold NX;exact .inl rfl) Hr
   | uP _ _ _ _ _ h3 _ _=>exact absurd QX h3
  ·cases hl with
   | par _ _ _ jF _=>exact absurd jF n1
   | QU _ _ _ jF _=>exact absurd jF n2
   | cls _ _ _ _ jF _=>rcases jF with e|e;exact absurd e n3;exact absurd e n4
   | uP _ _ _ _ _ _ _ h=>exact fin _ h fun rs Hr=> .uP _ _ _ _ _ _ cW ho Hr
theorem eo.Wq {bs:List Int} {p o k q:Int} {xs:List Int} (h:eo bs o k q xs false) (hw:Ws (at_ bs p)) (hr:run Ws bs p=o):eo bs p k q xs true:=by
 obtain⟨h1,h2,h3⟩:=h
 refine⟨h1,h2,.inr ⟨rfl,hw,?_⟩⟩
 rw [hr]
 rcases h3 with ⟨_,h3⟩|⟨h3,_⟩
 ·exact h3
 ·cases h3
theorem eJ.Wq {bs:List Int} {q p o:Int} {lvl:Nat} {t:Tk} {r:List (Tk×Bool)} (h:eJ bs q lvl o ((t,false)::r)) (hw:Ws (at_ bs p)) (hr:run Ws bs p=o):eJ bs q lvl p ((t,true)::r):=by
 cases h with
 | V6 _ _ q1 _ _ _ h hk h2=>exact .V6 _ _ _ _ _ _ (h.Wq hw hr) hk h2
 | cls _ _ q1 _ _ _ h hk h2=>exact .cls _ _ _ _ _ _ (h.Wq hw hr) hk h2
 | uP _ _ q1 _ _ _ h hk h2=>exact .uP _ _ _ _ _ _ (h.Wq hw hr) hk h2
theorem DQ (pre x suf:List Int) (i:Int) (h0:0≤i) (h1:i<x.length):at_ (pre++x++suf) (pre.length+i)=at_ x i:=by
 unfold at_
 rw [show ((pre.length:Int)+i).toNat=pre.length+i.toNat by omega,List.getD_eq_getElem?_getD,List.getD_eq_getElem?_getD,List.append_assoc,List.getElem?_append_right (by omega),Nat.add_sub_cancel_left,List.getElem?_append_left (by omega)]
theorem at_next (pre suf:List Int) (t:Int):at_ (pre++t::suf) pre.length=t:=by
 simp [at_]
theorem ye {pre x suf:List Int} {t:Int} (ht:dk t):mu x (pre++x++t::suf) pre.length:=by
 refine⟨by omega,by simp;omega,fun i h0 h1=>DQ _ _ _ i h0 h1,?_⟩
 have:=at_next (pre++x) suf t
 rw [List.length_append] at this
 rw [show ((pre.length:Int)+x.length)=((pre.length+x.length:Nat):Int) by omega,this]
 exact ht
theorem LA {x:List Int} {i:Int} (h0:0≤i) (h1:i<x.length):at_ x i∈x:=by
 unfold at_
 rw [List.getD_eq_getElem?_getD,List.getElem?_eq_getElem (by omega)]
 exact List.getElem_mem _
theorem rY {pre g suf:List Int} (hg:∀b∈g,Ws b) (hn:¬Ws (at_ (pre++g++suf) ((pre.length:Int)+g.length))):run Ws (pre++g++suf) pre.length=(pre.length:Int)+g.length:=
 iM (by omega) (by omega) (by simp;omega) (fun i a b=>by
  have:=DQ pre g suf (i - pre.length) (by omega) (by omega)
  rw [show (pre.length:Int)+(i - pre.length)=i by omega] at this
  rw [this]
  exact hg _ (LA (by omega) (by omega))) (.inr hn)
theorem yf {pre g suf:List Int} (hg:∀b∈g,Ws b) (h:g≠ []):Ws (at_ (pre++g++suf) pre.length):=by
 have hp:0<g.length:=List.length_pos_iff.2 h
 have:=DQ pre g suf 0 (by omega) (by omega)
 rw [show (pre.length:Int)+0=pre.length by omega] at this
 rw [this]
 exact hg _ (LA (by omega) (by omega))
theorem Bl {pre g x suf:List Int} {t q:Int} {r:List (Tk×Bool)} {bs:List Int} (fY:bs=pre++g++x++t::suf) (hx:∃qs,Vw kZ x qs) (hg:∀b∈g,Ws b) (ht:dk t) (hr:eJ bs q 0 ((pre.length:Int)+g.length+x.length) r):
  ∃rs:List (Tk×Bool),rs.map (·.1.bs)=(fK x).map (·.2)∧(∀z∈rs,z.1.tt≠20)∧eJ bs q 0 pre.length (rs++r):=by
 subst fY
 obtain⟨qs,hv⟩:=hx
 have hI:mu x (pre++g++x++t::suf) ((pre.length:Int)+g.length):=by
  have:=ye (pre:=pre++g) (x:=x) (suf:=suf) ht
  rw [List.length_append] at this
  rwa [show ((pre.length+g.length:Nat):Int)=(pre.length:Int)+g.length by omega] at this
 have ng:=hv.tk.tl hv.n0 hv.nb rfl hv.ks [] .nil
 rw [List.append_nil] at ng
 obtain⟨ts,e1,e2,e3⟩:=Hq hI ng hv.ks [] hv.cl r hr
 rw [←hv.eq]
 rw [Int.add_zero] at e3
 cases vR :g with
 | nil=>
  subst vR
  refine⟨ts.map (fun t=>(t,false)),by simp [←e1],fun z hz=> ?_,by simpa using e3⟩
  obtain⟨y,hy,rfl⟩:=List.mem_map.1 hz
  exact e2 y hy
 | cons b0 g0=>
  cases ts with
  | nil=>
   exfalso
   have:=hv.ne
   cases qs with
   | nil=>exact this rfl
   | cons a b=>simp at e1
  | cons t0 bN =>
   have jJ:g≠ []:=by rw [vR];simp
   have DN:¬Ws (at_ (pre++g++x++t::suf) ((pre.length:Int)+g.length)):=by
    have hp:=hv.pos
    have:=hI.eq 0 (by omega) (by omega)
    rw [Int.add_zero] at this
    rw [this,←aY]
    obtain⟨i',t',kind,d,hk,Il,hm⟩:=ng.head hv.ne
    exact Il.nws (FW hk (hv.ks _ hm)).2.1
   have hw:=yf (pre:=pre) (g:=g) (suf:=x++t::suf) hg jJ
   have bZ:=rY (pre:=pre) (g:=g) (suf:=x++t::suf) hg (by simpa [List.append_assoc] using DN)
   rw [←List.append_assoc] at hw bZ
   rw [←vR]
   simp only [List.map_cons,List.cons_append] at e3
   refine⟨(t0,true)::bN.map (fun t=>(t,false)),by simp [←e1],fun z hz=> ?_,e3.Wq hw bZ⟩
   rcases List.mem_cons.1 hz with rfl|hz
   ·exact e2 _ (List.mem_cons_self ..)
   ·obtain⟨y,hy,rfl⟩:=List.mem_map.1 hz
    exact e2 y (List.mem_cons_of_mem _ hy)
theorem Bm {ws:List (List Int)} {t:Int} {suf:List Int} (ht:dk t):∃t' oV,aX ws++t::suf=t' ::oV ∧dk t':=by
 cases ws with
 | nil=>exact⟨t,suf,rfl,ht⟩
 | cons x r=>exact⟨32,x++(aX r++t::suf),by simp [aX],by unfold dk;omega⟩
theorem oW {bs:List Int} {t:Int} {suf:List Int} (ht:dk t):∀(ws:List (List Int)) (pre:List Int),bs=pre++aX ws++t::suf→(∀x∈ws,∃qs,Vw kZ x qs)→
  ∃rs:List (Tk×Bool),rs.map (·.1.bs)=cI ws∧(∀z∈rs,z.1.tt≠20)∧eJ bs ((pre.length:Int)+(aX ws).length) 0 pre.length rs:=by
 intro ws
 induction ws with
 | nil=>
  intro pre hb _
  refine⟨[],rfl,(fun z hz=>by cases hz),?_⟩
  rw [show ((pre.length:Int)+(aX []).length)=pre.length by simp [aX]]
  exact .done
 | cons x ws ih=>
  intro pre hb hw
  have e:aX (x::ws)= [32]++x++aX ws:=by simp [aX]
  obtain⟨rs,h1,h2,h3⟩:=ih (pre++ [32]++x) (by rw [hb,e];simp) (fun y hy=>hw y (List.mem_cons_of_mem _ hy))
  obtain⟨t',oV,e',vJ⟩:=Bm (ws:=ws) (suf:=suf) ht
  have hlen:((pre++ [32]++x).length:Int)=(pre.length:Int)+([32]:List Int).length+x.length:=by simp;omega
  rw [hlen] at h3
  obtain⟨rs2,k1,k2,k3⟩:=Bl (pre:=pre) (g:=[32]) (x:=x) (suf:=oV) (t:=t') (bs:=bs) (by rw [hb,e,←e'];simp) (hw x (List.mem_cons_self ..)) (by intro b hb;simp at hb;subst hb;exact .inl rfl) vJ h3
  refine⟨rs2++rs,by rw [List.map_append,k1,h1];simp [cI],fun z hz=> ?_,?_⟩
  ·rcases List.mem_append.1 hz with hz|hz
   ·exact k2 z hz
   ·exact h2 z hz
  ·rw [e]
   have:((pre.length:Int)+([32]++x++aX ws).length)=(pre.length:Int)+([32]:List Int).length+x.length+(aX ws).length:=by simp;omega
   rw [this]
   exact k3
theorem DR:∀(rs:List (Tk×Bool)),(∀z∈rs,z.1.tt≠20)→bH (flat rs)=rs.map (·.1):=by
 intro rs
 induction rs with
 | nil=>intro _;rfl
 | cons z r ih=>
  intro h
  obtain⟨t,b⟩:=z
  have h1:=h (t,b) (List.mem_cons_self ..)
  have h2:=ih (fun y hy=>h y (List.mem_cons_of_mem _ hy))
  have ht:(!(t.tt==20))=true:=by simpa using h1
  unfold bH at*
  cases b with
  | false=>
   show List.filter _ (t::flat r)=_
   rw [List.filter_cons,if_pos ht,h2]
   rfl
  | true=>
   show List.filter _ (⟨20,[32]⟩::t::flat r)=_
   rw [List.filter_cons,if_neg (by decide),List.filter_cons,if_pos ht,h2]
   rfl
theorem k9 {rs:List (Tk×Bool)} {ws:List (List Int)} (h:∀z∈rs,z.1.tt≠20) (h1:rs.map (·.1.bs)=ws):bars (flat rs)=dE ws:=by
 unfold bars dE
 rw [DR rs h,←h1,List.flatMap_map,List.flatMap_map]
def dx (st:Int) (d:gx):List Int:=d.f0++ [58]++bw st++(aX d.f1).drop 1
theorem Pg {st:Int} {d:gx}:mn st true d=dx st d:=by simp [mn,dx]
theorem Ph {st:Int} {d:gx}:mn st false d= [59]++bw st++dx st d:=by simp [mn,dx]
theorem fQ (st:Int):∀b∈bw st,Ws b:=by
 intro b hb
 unfold bw at hb
 unfold Ws
 split at hb
 ·cases hb
 ·split at hb
  ·simp at hb;omega
  ·simp at hb;omega
theorem UK {bs:List Int} {p:Int} (h0:0≤p) (h1:p<bs.length):oM bs p (p+1)= [at_ bs p]:=by
 have h2:=ic (bs:=bs) (s:=p) (p:=p+1) h0 (by omega) (by omega)
 have h3:=nc (bs:=bs) (s:=p) (p:=p+1) h0 0 (by omega)
 rw [show p+1 - p=1 by omega] at h2
 match hs:oM bs p (p+1),h2,h3 with
 | [a],_,h3=>
  have:a=at_ bs (p+(0:Nat)):=by simpa using h3
  rw [this]
  simp
theorem OI.LC {nm:List Int} (h:OI nm) {i:Int} (h0:0≤i) (h1:i<nm.length):Pb (at_ nm i):=by
 have:=h.oj i.toNat (by omega)
 exact this
theorem LD {nm:List Int} (h:OI nm):Tok (nm++ [0]) 0 1 nm.length:=by
 have hp:=h.pos
 have e0:run Nm (nm++ [0]) 0=nm.length:=iM (by omega) (by omega) (by simp;omega) (fun i a b=>by
  rw [aY]
  have:=h.LC a b
  unfold Pb at this
  unfold Nm
  omega) (.inr (by rw [aY,fN (Int.le_refl _)];decide))
 have h1:Pb (at_ nm 0):=h.LC (by omega) (by omega)
 have h2:at_ nm 0≠45:=h.fst
 have h3:Pb (at_ nm 1)∨at_ nm 1=0:=by
  rcases Int.lt_or_le 1 nm.length with h'|h'
  ·exact .inl (h.LC (by omega) h')
  ·exact .inr (fN h')
 unfold Pb at h1 h3
 refine .uO _ _ (.inl ?_) (.inl ⟨?_,rfl,e0.symm⟩) (fun _ V8=> ?_) (fun MD=> ?_)
 ·rw [aY];unfold Sn;omega
 ·rw [e0,aY,fN (Int.le_refl _)];decide
 ·rw [aY] at V8
  rw [show (0:Int)+1=1 by omega] at V8
  omega
 ·rw [aY] at MD
  omega
theorem eo.WA {bs pre g suf nm:List Int} {k q:Int} (fY:bs=pre++g++suf) (hg:∀b∈g,Ws b) (ht:Tok bs ((pre.length:Int)+g.length) k q) (hk:k≠20) (kV:k≠32) (hx:nm=oM bs ((pre.length:Int)+g.length) q):∃ws,eo bs pre.length k q nm ws:=by
 subst fY
 by_cases h:g= []
 ·subst h
  refine⟨false,hk,kV,.inl ⟨rfl,.inl ⟨by simpa using ht,by simpa using hx⟩⟩⟩
 ·exact⟨true,hk,kV,.inr ⟨rfl,yf hg h,by rw [rY hg (ht.nws hk)];exact .inl ⟨ht,hx⟩⟩⟩
theorem Bn {bs pre g nm suf:List Int} (hn:OI nm) (fY:bs=pre++g++nm++58::suf) (hg:∀b∈g,Ws b):∃ws,eo bs pre.length 1 ((pre.length:Int)+g.length+nm.length) nm ws:=by
 have hI:mu nm bs ((pre.length:Int)+g.length):=by
  have:=ye (pre:=pre++g) (x:=nm) (suf:=suf) (t:=58) (by unfold dk;omega)
  rw [List.length_append,←fY] at this
  rwa [show ((pre.length+g.length:Nat):Int)=(pre.length:Int)+g.length by omega] at this
 have ht:=(LD hn).shift hI (by omega) (by omega)
 rw [Int.add_zero] at ht
 refine eo.WA (suf:=nm++58::suf) (by rw [fY];simp) hg ht.1 (by omega) (by omega) ?_
 have:=jf hI (p:=0) (q:=nm.length) (by omega) (by omega) (by omega)
 rw [Int.add_zero] at this
 rw [this]
 simp [oM]
theorem tI {bs pre suf:List Int} {st t:Int} {ws:List (List Int)} (fY:bs=pre++ [58]++bw st++(aX ws).drop 1++t::suf) (jJ:ws≠ []) (hw:∀x∈ws,∃qs,Vw kZ x qs) (ht:dk t):
  ∃rest:List (Tk×Bool),rest.map (·.1.bs)=cI ws∧(∀z∈rest,z.1.tt≠20)∧eJ bs ((pre.length:Int)+1+(bw st).length+((aX ws).drop 1).length) 0 pre.length ((⟨23,[58]⟩,false)::rest):=by
 obtain⟨x,ws,rfl⟩:∃x r,ws=x::r:=by cases ws with|nil=>exact absurd rfl jJ|cons x r=>exact⟨x,r,rfl⟩
 have e:(aX (x::ws)).drop 1=x++aX ws:=by simp [aX]
 rw [e] at fY⊢
 obtain⟨rs,h1,h2,h3⟩:=oW (bs:=bs) (suf:=suf) ht ws (pre++ [58]++bw st++x) (by rw [fY];simp) (fun y hy=>hw y (List.mem_cons_of_mem _ hy))
 obtain⟨t',oV,e',vJ⟩:=Bm (ws:=ws) (suf:=suf) ht
 have hlen:((pre++ [58]++bw st++x).length:Int)=((pre++ [58]).length:Int)+(bw st).length+x.length:=by simp;omega
 rw [hlen] at h3
 obtain⟨rs2,k1,k2,k3⟩:=Bl (pre:=pre++ [58]) (g:=bw st) (x:=x) (suf:=oV) (t:=t') (bs:=bs) (by rw [fY,←e'];simp) (hw x (List.mem_cons_self ..)) (fQ st) vJ h3
 refine⟨rs2++rs,by rw [List.map_append,k1,h1];simp [cI],fun z hz=> ?_,?_⟩
 ·rcases List.mem_append.1 hz with hz|hz
  ·exact k2 z hz
  ·exact h2 z hz
 ·have ep:((pre++ [58]).length:Int)=(pre.length:Int)+1:=by simp
  have eq:(pre.length:Int)+1+(bw st).length+(x++aX ws).length=((pre++ [58]).length:Int)+(bw st).length+x.length+(aX ws).length:=by simp;omega
  rw [eq]
  have dz:at_ bs pre.length=58:=by
   have:=at_next pre (bw st++(x++aX ws)++t::suf) 58
   rw [fY]
   simpa using this
  have eh:(pre.length:Int)<bs.length:=by rw [fY];simp;omega
  rw [ep] at k3
  refine .uP _ _ _ _ _ _ ⟨by decide,by decide,.inl ⟨rfl,.inl ⟨.colon dz,?_⟩⟩⟩ (by unfold rM;decide) (by rw [ep];exact k3)
  rw [UK (by omega) eh,dz]
def Bo (d:gx):Prop:=Vd d∧∀x∈d.f1,Tx x
theorem Bo.FX {d:gx} (h:Bo d):(cI d.f1).length≤480∧(dE (cI d.f1)).length≤100000:=by
 have hw:∀x∈d.f1,(fK x).length≤60∧∀q∈fK x,q.2.length≤60:=fun x hx=>by
  obtain⟨qs,hv⟩:=h.1.words.ok x hx
  exact hv.pZ (h.2 x hx)
 have h1:=tH (fun x hx=>(hw x hx).1)
 have h2:=h.1.words.len
 have h3:(dE (cI d.f1)).length≤(60+1)*(cI d.f1).length:=nu fun y hy=>by
  unfold cI at hy
  obtain⟨x,hx,hy⟩:=List.mem_flatMap.1 hy
  obtain⟨q,hq,rfl⟩:=List.mem_map.1 hy
  exact(hw x hx).2 q hq
 have h4:60*d.f1.length≤480:=by omega
 exact⟨by omega,by omega⟩
theorem Bo.UL {d:gx} (h:Bo d):d.f0.map low=d.f0∧∀x∈d.f0,0≤x∧x≤255:=by
 have hp:∀x∈d.f0,Pb x:=fun x hx=>by
  obtain⟨i,hi,rfl⟩:=List.getElem_of_mem hx
  have:=h.1.name.oj i hi
  rwa [List.getD_eq_getElem?_getD,List.getElem?_eq_getElem hi] at this
 refine⟨?_,fun x hx=>by have:=hp x hx;unfold Pb at this;omega⟩
 have:∀x∈d.f0,low x=id x:=fun x hx=>by
  have:=hp x hx
  unfold Pb at this
  unfold low
  rw [if_neg (by omega)]
  rfl
 rw [List.map_congr_left this,List.map_id]
def dF (st:Int) (r:List gx):List Int:=r.flatMap (fun d=> [59]++bw st++dx st d)
theorem nw {st:Int} {d:gx} {r:List gx}:dh st (d::r)=dx st d++dF st r:=by
 rw [show dh st (d::r)=mn st true d++r.flatMap (mn st false) from rfl]
 unfold dF
 rw [Pg]
 congr 1
 have:mn st false=fun d=> [59]++bw st++dx st d:=funext fun d=>Ph
 rw [this]
def Gb (b:Int):Prop:=0<b∧b≤255∧b≠92
theorem FY {x:List Int} (hx:∃qs,Vw kZ x qs) (ht:Tx x):∀b∈x,Gb b:=by
 obtain⟨qs,hv⟩:=hx
 intro b hb
 obtain⟨i,hi,rfl⟩:=List.getElem_of_mem hb
 have h1:=ht.byte i
 have h2:=hv.n0 i (by omega) (by omega)
 have h3:=hv.nb i
 unfold at_ at h2 h3
 rw [show ((i:Int)).toNat=i by omega] at h2 h3
 rw [List.getD_eq_getElem?_getD,List.getElem?_eq_getElem hi] at h1 h2 h3
 simp only [Option.getD_some] at h1 h2 h3
 unfold Gb
 omega
theorem FZ {st:Int} {d:gx} (h:Bo d):∀b∈dx st d,Gb b:=by
 intro b hb
 unfold dx at hb
 simp only [List.mem_append,or_assoc] at hb
 rcases hb with hb|hb|hb|hb
 ·have:=h.UL.2 b hb
  obtain⟨i,hi,rfl⟩:=List.getElem_of_mem hb
  have:=h.1.name.oj i hi
  rw [List.getD_eq_getElem?_getD,List.getElem?_eq_getElem hi] at this
  simp only [Option.getD_some] at this
  unfold Pb at this
  unfold Gb
  omega
 ·simp at hb;unfold Gb;omega
 ·have:=fQ st b hb
  unfold Ws at this
  unfold Gb
  omega
 ·have:=List.mem_of_mem_drop hb
  unfold aX at this
  obtain⟨x,hx,dc⟩:=List.mem_flatMap.1 this
  rcases List.mem_cons.1 dc with rfl|dc
  ·unfold Gb;omega
  ·exact FY (h.1.words.ok x hx) (h.2 x hx) b dc
theorem aaB {st:Int} {ds:List gx} (h:∀d∈ds,Bo d):∀b∈dh st ds,Gb b:=by
 cases ds with
 | nil=>intro b hb;cases hb
 | cons d r=>
  intro b hb
  rw [nw] at hb
  rcases List.mem_append.1 hb with hb|hb
  ·exact FZ (h d (List.mem_cons_self ..)) b hb
  ·unfold dF at hb
   obtain⟨y,hy,dc⟩:=List.mem_flatMap.1 hb
   simp only [List.mem_append,or_assoc] at dc
   rcases dc with dc|dc|dc
   ·simp at dc;unfold Gb;omega
   ·have:=fQ st b dc
    unfold Ws at this
    unfold Gb
    omega
   ·exact FZ (h y (List.mem_cons_of_mem _ hy)) b dc
theorem Pj {xs:List Int} (h:∀b∈xs,Gb b):Good (xs++ [0]):=by
 refine⟨fun j hj=> ?_,?_,by simp⟩
 ·have hj' :j<xs.length:=by simp at hj;exact hj
  rw [List.getD_eq_getElem?_getD,List.getElem?_append_left hj',List.getElem?_eq_getElem hj']
  exact h _ (List.getElem_mem _)
 ·simp
theorem Bq {st:Int} {d:gx} (h:Bo d):(dx st d).length≤600:=by
 have h1:=h.1.name.len
 have h2:=eQ st
 have h3:=qA (ws:=d.f1) fun x hx=>by
  obtain⟨qs,hv⟩:=h.1.words.ok x hx
  exact hv.len
 have h4:=h.1.words.len
 unfold dx
 simp
 omega
theorem UM {st:Int} {ds:List gx} (h:∀d∈ds,Bo d):(dh st ds).length≤1000*ds.length:=by
 cases ds with
 | nil=>simp [dh]
 | cons d r=>
  rw [nw,List.length_append]
  have h1:=Bq (st:=st) (h d (List.mem_cons_self ..))
  have h2:∀l:List gx,(∀y∈l,Bo y)→(dF st l).length≤1000*l.length:=by
   intro l
   induction l with
   | nil=>intro _;simp [dF]
   | cons y l ih=>
    intro hl
    have h3:=ih fun z hz=>hl z (List.mem_cons_of_mem _ hz)
    have h4:=Bq (st:=st) (hl y (List.mem_cons_self ..))
    have h5:=eQ st
    unfold dF at*
    simp only [List.flatMap_cons,List.length_append,List.length_cons,List.length_nil]
    omega
  have h3:=h2 r fun y hy=>h y (List.mem_cons_of_mem _ hy)
  rw [List.length_cons]
  omega
end Go.Proofs.YtlglijnaeaonpaaGreatDoor.Lx
end
section
set_option maxHeartbeats 8000000
set_option maxRecDepth 100000
set_option linter.unusedVariables false
set_option linter.unusedSimpArgs false
namespace Go.Proofs.YtlglijnaeaonpaaGreatDoor.Lx
open Go.RowKit Go.Proofs.YtlglijnaeaonpaaGreatDoorW.aC
theorem eo.end_ {bs:List Int} {p q:Int} {xs:List Int} {ws:Bool} (h:eo bs p 0 q xs ws):q+1=bs.length:=by
 have tk:∀(p' k:Int),k=0→Tok bs p' k q→False:=by
  intro p' k hk h
  cases h with
  | bracket t hh=>unfold Bk at hh;omega
  | JG t hh h1=>unfold Mt at hh;omega
  | num q' k e hh hu hf=>unfold Unit at hu;omega
  | uO k e hh hl hf hm=>unfold sU at hl;omega
  | _=>omega
 have key:∀p',zS bs p' 0 q xs→q+1=bs.length:=by
  intro p' h
  rcases h with ⟨h,_⟩|⟨h,_,rfl,_⟩
  ·exact(tk _ _ rfl h).elim
  ·exact h
 obtain⟨_,_,h|h⟩:=h
 ·exact key _ h.2
 ·exact key _ h.2.2
theorem Br {g n B:Nat} {xs:List Int} {w:World} (hb:qe w g xs) (hl:xs.length=n) (hn:n≤1099511627770) (hB:B≤g):
  Calls Tryz.prog 19 #[.slice (some ⟨g,0,none⟩) n n] w fun e w' =>∃gi gb cap,e= .returned (.pointer (some ⟨gi,0,none⟩))∧Inp w w' B gi gb cap xs:=by
 rcases Nat.eq_zero_or_pos n with h|h
 ·subst h
  have hx:=List.eq_nil_of_length_eq_zero hl
  subst hx
  exact G4 g B w (by have:=cT hb;omega)
 ·exact Kq g n B xs w hb hl hn hB h
theorem rX.DS {B:Nat} {w:World} {v:Value} {ps:List Pc} (h:rX B w v ps):∃A c,v= .slice A ps.length c:=by
 obtain⟨vs,ho,_⟩:=h
 obtain⟨A,c,e⟩:=dP ho
 exact⟨A,c,e⟩
end Go.Proofs.YtlglijnaeaonpaaGreatDoor.Lx
end
section
set_option maxHeartbeats 8000000
set_option maxRecDepth 100000
set_option linter.unusedVariables false
set_option linter.unusedSimpArgs false
namespace Go.Proofs.YtlglijnaeaonpaaGreatDoor.Lx
open Go.RowKit Go.Proofs.YtlglijnaeaonpaaGreatDoorW.aC Go.Proofs.YtlglijnaeaonpaaGreatDoor.bG
theorem tJ {w:World} {B n:Nat} {v:Value} {vs:List Value} (h:w.ownsRow B 55 6 v n vs) {j:Nat} (hj:j<n):∃ad cap,v= .slice (some ad) n cap∧n≤cap∧∀i u,i<6→vs[j*6+i]? =some u→w.cell? (ad.add (j*6+i))=some u:=by
 rcases h.2 with ⟨rfl,h0⟩|⟨g,cap,cur,rfl,hg,hh,hn,hm,yB,qZ⟩
 ·omega
 ·refine⟨⟨g,0,none⟩,cap,rfl,hn,fun i u hi hu=> ?_⟩
  have UN:(⟨g,0,none⟩:Addr).add (j*6+i)=⟨g,j*6+i,none⟩:=by unfold Addr.add;split<;>simp_all
  rw [UN,ao hh]
  rw [←qZ,List.getElem?_take] at hu
  split at hu
  ·simpa using hu
  ·cases hu
theorem UO {w:World} {A0 A1:Option Addr} {c0 c1:Nat} {l:List Int} (mE:Kd.C (Kd.int .u8) w A0 l.length l) (wo:Kd.C (Kd.int .u8) w A1 l.length l):
  Calls Tryz.prog 25 #[.slice A0 l.length c0,.slice A1 l.length c1] w fun e w' =>e= .returned (.bool true)∧∃m,w' =w.drewN m:=by
 have lM:=am mE
 have qu:=am wo
 clear mE wo
 have aeF:=Kd.se (P:=Tryz.prog) (A:=A0) (c:=c0) Tryz.underlying24 Tryz.underlying5 Tryz.underlying9 lM.out
 have ahs:=Kd.se (P:=Tryz.prog) (A:=A1) (c:=c1) Tryz.underlying24 Tryz.underlying5 Tryz.underlying9 qu.out
 go_enter Tryz.func25,Tryz.ntmps25
 go_wp2
 go_ret
 exact⟨qF,⟨0,rfl⟩⟩
theorem LF {w:World} {A:Option Addr} {n c:Nat} {xs:List Int} (h:Rd w (.slice A n c) xs):n=xs.length∧Kd.C (Kd.int .u8) w A xs.length xs:=by
 obtain⟨A1,n1,c1,e,h1,h2,h3⟩:=h
 injection e with e1 e2 e3
 subst e1;subst e2;subst e3
 refine⟨h1.symm,rfl,by omega,fun hp=> ?_⟩
 obtain⟨g,o,cs,fr,rfl,hg,hc⟩:=h3 (by omega)
 refine⟨_,rfl,fun j p hj=>⟨[.int .u8 p],rfl,rfl,fun i u hu=> ?_⟩⟩
 have hi:i=0:=by
  rcases i with _|i
  ·rfl
  ·simp at hu
 subst hi
 simp at hu
 subst hu
 have D8:=(List.getElem?_eq_some_iff.1 hj).1
 have UN:(⟨g,o,none⟩:Addr).add (j*(Kd.int .u8).sz+0)=⟨g,o+j,none⟩:=by
  show (⟨g,o,none⟩:Addr).add (j*1+0)=_
  unfold Addr.add;split<;>simp_all
 rw [UN,cell_of_row w g (o+j) cs 5 fr hg,hc j (by omega),List.getD_eq_getElem?_getD,hj]
 rfl
theorem rX.at {B:Nat} {w:World} {v:Value} {ps:List Pc} (h:rX B w v ps) {j:Int} (h0:0≤j) (h1:j<ps.length):
  ∃ad cap p A1 c1 A2 c2,v= .slice (some ad) ps.length cap∧ps[j.toNat]? =some p∧w.cell? (ad.add (j.toNat*6))=some (.string p.kind)∧w.cell? ⟨(ad.add (j.toNat*6)).block,(ad.add (j.toNat*6)).off+1,none⟩=some (.slice A1 p.data.length c1)∧w.cell? ⟨(ad.add (j.toNat*6)).block,(ad.add (j.toNat*6)).off+2,none⟩=some (.slice A2 p.text.length c2)∧w.cell? ⟨(ad.add (j.toNat*6)).block,(ad.add (j.toNat*6)).off+3,none⟩=some (.slice none 0 0)∧w.cell? ⟨(ad.add (j.toNat*6)).block,(ad.add (j.toNat*6)).off+4,none⟩=some (.slice none 0 0)∧w.cell? ⟨(ad.add (j.toNat*6)).block,(ad.add (j.toNat*6)).off+5,none⟩=some (.string ⟨#[]⟩)∧Kd.C (Kd.int .u8) w A1 p.data.length p.data∧Kd.C (Kd.int .u8) w A2 p.text.length p.text:=by
 obtain⟨vs,ho,hc⟩:=h
 have hl:j.toNat<ps.length:=by omega
 obtain⟨dv,tv,d1,d2,d3,e3,e4,e5,d4,d5⟩:=hc j.toNat _ (List.getElem?_eq_getElem hl)
 obtain⟨ad,cap,rfl,lS,bR⟩:=tJ ho hl
 obtain⟨A1,n1,c1,rfl,-,-,-⟩:=id d4
 obtain⟨A2,n2,c2,rfl,-,-,-⟩:=id d5
 obtain⟨q1,k1⟩:=LF d4
 obtain⟨q2,k2⟩:=LF d5
 subst q1;subst q2
 have nj:vs.length=ps.length*6:=ho.1
 refine⟨ad,cap,_,A1,c1,A2,c2,rfl,List.getElem?_eq_getElem hl,bR 0 _ (by omega) d1,?_,?_,?_,?_,?_,k1,k2⟩
 ·rw [←cf _ _ 1 (by omega)];exact bR 1 _ (by omega) d2
 ·rw [←cf _ _ 2 (by omega)];exact bR 2 _ (by omega) d3
 ·rw [←cf _ _ 3 (by omega)];exact bR 3 _ (by omega) e3
 ·rw [←cf _ _ 4 (by omega)];exact bR 4 _ (by omega) e4
 ·rw [←cf _ _ 5 (by omega)];exact bR 5 _ (by omega) e5
theorem UP {w:World} {A:Option Addr} {c:Nat} {ds:List gx} (h:DL w A c ds) (hv:Wi ds):∀d∈ds,Bo d:=by
 intro d hd
 refine⟨hv.ok d hd,fun x hx=>⟨?_,(h.oj d hd).2 x hx⟩⟩
 obtain⟨qs,hq⟩:=(hv.ok d hd).words.ok x hx
 have:=hq.len
 omega
end Go.Proofs.YtlglijnaeaonpaaGreatDoor.Lx
end
section
set_option maxHeartbeats 8000000
set_option maxRecDepth 100000
set_option linter.unusedVariables false
set_option linter.unusedSimpArgs false
namespace Go.Proofs.YtlglijnaeaonpaaGreatDoor.Lx
open Go.RowKit Go.ChangeShapes Go.WideShapes Go.ChangeAt Go.Deep Go.Proofs.YtlglijnaeaonpaaGreatDoorW.aC Go.Proofs.YtlglijnaeaonpaaGreatDoor.bG
theorem Pm {α:Type} (d:Kd α) {w:World} {a:Addr} {len:Nat} {xs:List α} (hl:xs.length=len) (hm:len≤maxLen) (h:∀j p,xs[j]? =some p→∃c,c.length=d.sz∧d.K w p c∧∀i u,c[i]? =some u→w.cell? (a.add (j*d.sz+i))=some u):Kd.C d w (some a) len xs:=
 ⟨hl,Nat.le_trans hm (by decide),fun _=>⟨a,rfl,h⟩⟩
theorem yg {α:Type} (d:Kd α) (w:World):Kd.C d w none 0 ([]:List α):=⟨rfl,by decide,fun h=>absurd h (by decide)⟩
structure ByK (W:World) (v:Value) (xs:List Int):Prop where
 rd:∃A c,v= .slice A xs.length c∧xs.length≤c∧Kd.C (Kd.int .u8) W A xs.length xs
 oj:∀j:Nat,0≤xs.getD j 0∧xs.getD j 0≤255
variable {H:Type} {enc:TypeId×Value→H} {W:World}
structure WdK (W:World) (v:Value) (ws:List (List Int)):Prop where
 rd:∃A c,v= .slice A ws.length c∧ws.length≤c∧Kd.C (Kd.slice 5 (Kd.int .u8)) W A ws.length ws
 oj:∀x∈ws,∀j:Nat,0≤x.getD j 0∧x.getD j 0≤255
structure DcK (W:World) (v:Value) (ds:List gx):Prop where
 rd:∃A c,v= .slice A ds.length c∧ds.length≤c∧Kd.C WC W A ds.length ds
 oj:∀d∈ds,(∀j:Nat,0≤d.f0.getD j 0∧d.f0.getD j 0≤255)∧∀x∈d.f1,∀j:Nat,0≤x.getD j 0∧x.getD j 0≤255
end Go.Proofs.YtlglijnaeaonpaaGreatDoor.Lx
end
