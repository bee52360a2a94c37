/- FnRules: a part of the proof (Sb). -/
import Derived.Test.YtlglijnaeaonpaaGreatDoorRy
import Derived.Test.YtlglijnaeaonpaaGreatDoorRu
import Derived.StillTailTactics
import Derived.Deep.RegionHeld3
import Derived.Test.YtlglijnaeaonpaaGreatDoorSa
import Derived.Test.YtlglijnaeaonpaaGreatDoorRx
section
set_option maxHeartbeats 8000000
set_option maxRecDepth 100000
set_option linter.unusedVariables false
set_option linter.unusedSimpArgs false
namespace Go.Proofs.YtlglijnaeaonpaaGreatDoor.Lx
open Go.RowKit Go.Proofs.YtlglijnaeaonpaaGreatDoorW.aC Go.Proofs.YtlglijnaeaonpaaGreatDoor.bG
def Ic (wq w:World) (A:Option Addr) (c:Nat) (xs:List Int):Prop:=xs.length≤c∧(Kd.C (Kd.int .u8) wq A xs.length xs∨Rd w (.slice A xs.length c) xs)
def BL (wq w:World) (vs:List Value) (ps:List Pc):Prop:=vs.length=ps.length*6∧∀(i:Nat) (q:Pc),ps[i]? =some q→∃A c tv,vs[i*6]? =some (.string q.kind)∧vs[i*6+1]? =some (.slice A q.data.length c)∧vs[i*6+2]? =some tv∧vs[i*6+3]? =some (.slice none 0 0)∧vs[i*6+4]? =some (.slice none 0 0)∧vs[i*6+5]? =some (.string ⟨#[]⟩)∧Ic wq w A c q.data∧Rd w tv q.text
theorem BL.move {wq w w' :World} {vs:List Value} {ps:List Pc} (h:BL wq w vs ps) (hm:∀v xs,Rd w v xs→Rd w' v xs):BL wq w' vs ps:=by
 refine⟨h.1,fun i q hq=> ?_⟩
 obtain⟨A,c,tv,d1,d2,d3,d4,d5,d6,d7,d8⟩:=h.2 i q hq
 exact⟨A,c,tv,d1,d2,d3,d4,d5,d6,⟨d7.1,d7.2.imp id (hm _ _)⟩,hm _ _ d8⟩
theorem BL.nil (wq w:World):BL wq w [] []:=⟨rfl,fun i q hq=>by simp at hq⟩
theorem BL.one {wq w:World} {p:Pc} {A:Option Addr} {c:Nat} {tv:Value} (hd:Ic wq w A c p.data) (ht:Rd w tv p.text):BL wq w [.string p.kind,.slice A p.data.length c,tv,.slice none 0 0,.slice none 0 0,.string ⟨#[]⟩] [p]:=by
 refine⟨rfl,fun i q hq=> ?_⟩
 have hi:i=0:=by
  have:=(List.getElem?_eq_some_iff.1 hq).1
  simp at this
  omega
 subst hi
 simp at hq
 subst hq
 exact⟨A,c,tv,rfl,rfl,rfl,rfl,rfl,rfl,hd,ht⟩
theorem BL.app {wq w:World} {vs us:List Value} {ps qs:List Pc} (h:BL wq w vs ps) (h2:BL wq w us qs):BL wq w (vs++us) (ps++qs):=by
 obtain⟨hl,hc⟩:=h
 obtain⟨wi,GH⟩:=h2
 refine⟨by rw [List.length_append,List.length_append,hl,wi];omega,fun i q hq=> ?_⟩
 rcases Nat.lt_or_ge i ps.length with hi|hi
 ·rw [List.getElem?_append_left hi] at hq
  obtain⟨A,c,tv,d1,d2,d3,d4,d5,d6,d7,d8⟩:=hc i q hq
  refine⟨A,c,tv,?_,?_,?_,?_,?_,?_,d7,d8⟩<;>(rw [List.getElem?_append_left (by omega)];assumption)
 ·rw [List.getElem?_append_right hi] at hq
  obtain⟨A,c,tv,d1,d2,d3,d4,d5,d6,d7,d8⟩:=GH _ q hq
  refine⟨A,c,tv,?_,?_,?_,?_,?_,?_,d7,d8⟩
  ·rw [List.getElem?_append_right (by omega),show i*6 - vs.length=(i - ps.length)*6 by omega];exact d1
  ·rw [List.getElem?_append_right (by omega),show i*6+1 - vs.length=(i - ps.length)*6+1 by omega];exact d2
  ·rw [List.getElem?_append_right (by omega),show i*6+2 - vs.length=(i - ps.length)*6+2 by omega];exact d3
  ·rw [List.getElem?_append_right (by omega),show i*6+3 - vs.length=(i - ps.length)*6+3 by omega];exact d4
  ·rw [List.getElem?_append_right (by omega),show i*6+4 - vs.length=(i - ps.length)*6+4 by omega];exact d5
  ·rw [List.getElem?_append_right (by omega),show i*6+5 - vs.length=(i - ps.length)*6+5 by omega];exact d6
theorem BL.agn {wq w:World} {vs:List Value} {ps:List Pc} (h:BL wq w vs ps):∀u∈vs,u.oneCell' =true:=by
 intro u hu
 obtain⟨i,hi,rfl⟩:=List.getElem_of_mem hu
 have hip:i / 6<ps.length:=by have:=h.1;omega
 obtain⟨A,c,tv,d1,d2,d3,d4,d5,d6,d7,d8⟩:=h.2 (i / 6) _ (List.getElem?_eq_getElem hip)
 have hm:i % 6=0∨i % 6=1∨i % 6=2∨i % 6=3∨i % 6=4∨i % 6=5:=by omega
 have key:∀(k:Nat) (x:Value),i=i / 6*6+k→vs[i / 6*6+k]? =some x→vs[i]=x:=by
  intro k x hk hx
  rw [←hk,List.getElem?_eq_getElem hi] at hx
  exact Option.some.inj hx
 rcases hm with hm|hm|hm|hm|hm|hm
 ·rw [key 0 _ (by omega) d1];rfl
 ·rw [key 1 _ (by omega) d2];rfl
 ·rw [key 2 _ (by omega) d3];exact d8.one
 ·rw [key 3 _ (by omega) d4];rfl
 ·rw [key 4 _ (by omega) d5];rfl
 ·rw [key 5 _ (by omega) d6];rfl
def ir (B:Nat) (wq w:World) (v:Value) (ps:List Pc):Prop:=∃vs:List Value,w.ownsRow B 55 6 v ps.length vs∧v≠ .slice none 0 0∧BL wq w vs ps
theorem ir.below {B:Nat} {wq w w' :World} {v:Value} {ps:List Pc} (h:ir B wq w v ps) (k:Below w.heap.size w w'):ir B wq w' v ps:=by
 obtain⟨vs,ho,hn,hc⟩:=h
 exact⟨vs,cX ho k,hn,hc.move fun v xs hr=>hr.below k⟩
theorem ir.slice {B:Nat} {wq w:World} {v:Value} {ps:List Pc} (h:ir B wq w v ps):∃A c,v= .slice A ps.length c:=by
 obtain⟨vs,ho,-,-⟩:=h
 exact dP ho
theorem ir.own {B:Nat} {wq w:World} {v:Value} {ps:List Pc} (h:ir B wq w v ps):∃vs,w.ownsRow B 55 6 v ps.length vs:=by
 obtain⟨vs,ho,-,-⟩:=h
 exact⟨vs,ho⟩
theorem BM {B n:Nat} {w w1:World} {a:Value} {vs:List Value} (ho:w.ownsRow B 55 6 a n vs) (jm:w.grownBy w1 a.ownBlock):∀v xs,Rd w v xs→Rd w1 v xs:=by
 rintro v xs ⟨A,n,cp,rfl,h1,h2,h3⟩
 refine⟨A,n,cp,rfl,h1,h2,fun hp=> ?_⟩
 obtain⟨g,o,cs,fr,e,Bj,yO⟩:=h3 hp
 refine⟨g,o,cs,fr,e,(jm.block g (cT Bj) ?_).trans Bj,yO⟩
 intro he
 rcases ho.2 with ⟨rfl,_⟩|⟨g',cap,cur,rfl,_,hh,_⟩
 ·cases he
 ·injection he with he
  subst he
  rw [hh] at Bj
  injection Bj with Bj
  injection Bj with _ Bj
  cases Bj
theorem BN {B:Nat} {wq W:World} {v:Value} {ps qs:List Pc} {us:List Value} {ad:Addr} {m c:Nat} (hP:ir B wq W v ps) (GH:BL wq W us qs) (hm:m=qs.length) (abq:∀j u,us[j]? =some u→W.cell? (ad.add j)=some u)
  (hle:ps.length+qs.length≤100000) (hB:B≤W.heap.size):
  ∃v' w',(Builtin.append_ #[26,26] 26 #[v,.slice (some ad) m c]).run Tryz.prog W= .ok v' w' ∧ir B wq w' v' (ps++qs)∧W.grownBy w' v.ownBlock:=by
 subst hm
 obtain⟨vs,ho,hn,hc⟩:=hP
 obtain⟨i0,hi,ku⟩:=Option.map_eq_some_iff.1 FV
 simp only [Prod.mk.injEq] at ku
 obtain⟨sa,o0,sc⟩:=ku
 obtain⟨v',w',h1,h2,h3,h4⟩:=run_append_own (P:=Tryz.prog) W B 26 26 55 i0 _ 6 128 Tryz.underlying26 hi sa o0 sc rfl (by decide) v ps.length vs ho ad qs.length c us GH.1 abq GH.agn (by simp only [maxLen];omega) (by omega) hB
 have oT:=BM ho h3
 refine⟨v',w',h1,⟨vs++us,by rw [List.length_append];exact h2,fun e=>hn (h4.1 e).1,(hc.move oT).app (GH.move oT)⟩,h3⟩
theorem BO {B:Nat} {wq W:World} {v:Value} {ps:List Pc} {p:Pc} {A:Option Addr} {c:Nat} {tv:Value} (hP:ir B wq W v ps) (hd:Ic wq W A c p.data) (ht:Rd W tv p.text) (hle:ps.length≤90000) (hB:B≤W.heap.size):
  ∃v' w',(Builtin.append_ #[26,26] 26 #[v,.slice (some ⟨W.heap.size,0,none⟩) 1 1]).run Tryz.prog (W.alloc (.cells #[.string p.kind,.slice A p.data.length c,tv,.slice none 0 0,.slice none 0 0,.string ⟨#[]⟩] 55))= .ok v' w' ∧ir B wq w' v' (ps++ [p])∧(W.alloc (.cells #[.string p.kind,.slice A p.data.length c,tv,.slice none 0 0,.slice none 0 0,.string ⟨#[]⟩] 55)).grownBy w' v.ownBlock:=by
 have om:=au (Below.refl W.heap.size W) (.cells #[.string p.kind,.slice A p.data.length c,tv,.slice none 0 0,.slice none 0 0,.string ⟨#[]⟩] 55)
 exact BN (qs:=[p]) (hP.below om) ((BL.one hd ht).move fun v xs hr=>hr.below om) rfl
  (World.news_of_block (cs:=#[.string p.kind,.slice A p.data.length c,tv,.slice none 0 0,.slice none 0 0,.string ⟨#[]⟩]) (t:=55) (fr:=(0,0)) (heap_alloc_new W _)) (by simp;omega) (by have:=om.size;omega)
theorem Mf {B B2:Nat} {wq W:World} {v v2:Value} {ps qs:List Pc} (hP:ir B wq W v ps) (jM:ir B2 wq W v2 qs) (hle:ps.length+qs.length≤100000) (hB:B≤W.heap.size):
  ∃v' w',(Builtin.append_ #[26,26] 26 #[v,v2]).run Tryz.prog W= .ok v' w' ∧ir B wq w' v' (ps++qs)∧W.grownBy w' v.ownBlock:=by
 obtain⟨us,ho,hn,hc⟩:=jM
 rcases id ho.2 with ⟨rfl,_⟩|⟨g,cap,cur,rfl,_,hh,_⟩
 ·exact absurd rfl hn
 ·exact BN hP hc rfl (ho.cells (g:=g) rfl) hle hB
theorem D4 {wq w0 W:World} {v3:Value} {ps:List Pc} {p:Pc} {A:Option Addr} {c:Nat} {tv:Value} (hle:ps.length≤1000) (hP:ir w0.heap.size wq W v3 ps) (hb:Below w0.heap.size w0 W) (hd:Ic wq W A c p.data) (ht:Rd W tv p.text):
  ∃v' w',(Builtin.append_ #[26,26] 26 #[v3,.slice (some ⟨W.heap.size,0,none⟩) 1 1]).run Tryz.prog (W.alloc (.cells #[.string p.kind,.slice A p.data.length c,tv,.slice none 0 0,.slice none 0 0,.string ⟨#[]⟩] 55))= .ok v' w' ∧ir w0.heap.size wq w' v' (ps++ [p])∧Below w0.heap.size w0 w' ∧(W.alloc (.cells #[.string p.kind,.slice A p.data.length c,tv,.slice none 0 0,.slice none 0 0,.string ⟨#[]⟩] 55)).grownBy w' v3.ownBlock∧(∀(g:Nat) (cs:Array Value),W.heap[g]? =some (.cells cs 68 (0,0))→w'.heap[g]? =some (.cells cs 68 (0,0))):=by
 obtain⟨v',w',h1,h2,h3⟩:=BO hP hd ht (by omega) hb.size
 obtain⟨vs,ho⟩:=hP.own
 have om:=au (Below.refl W.heap.size W) (.cells #[.string p.kind,.slice A p.data.length c,tv,.slice none 0 0,.slice none 0 0,.string ⟨#[]⟩] 55)
 refine⟨v',w',h1,h2,(hb.alloc hb.size _).grown h3 (by have:=hb.size;simp;omega) (fg ho),h3,fun g cs hg=> ?_⟩
 have rT:=bP hg om
 exact cE rT h3 (dJ (cX ho om) rT (by decide))
def RM (wq w:World) (ps:List Pc) (e:Ending) (w' :World):Prop:=∃v,e= .returned v∧ir w.heap.size wq w' v ps∧Below w.heap.size w w'
theorem ou {wq w:World} {A:Option Addr} {c:Nat} {ds:List gx} (hq:Below wq.heap.size wq w) (h:DL wq A c ds) (hv:Wi ds) (hT:fU w):
  Calls Tryz.prog 13 #[.slice A ds.length c] w (RM wq w (ds.map iS)):=by
 have hl:=hv.len
 have HV:=am (And.intro h hv)
 have HT:=am hT
 have HQ:=am hq
 clear h hv hT hq
 have qf:ir w.heap.size wq (w.alloc (.cells #[] 55)) (.slice (some ⟨w.heap.size,0,none⟩) 0 0) ((ds.map iS).take 0)∧Below w.heap.size w (w.alloc (.cells #[] 55)):=by
  refine⟨⟨[],⟨rfl,.inr ⟨w.heap.size,0,#[],rfl,Nat.le_refl _,?_,by simp,by simp [maxLen],by simp,by simp⟩⟩,(fun e=>by cases e),⟨by simp,fun i q hq=>by simp at hq⟩⟩,au (Below.refl _ _) _⟩
  simpa using heap_alloc_new w (.cells #[] 55)
 have rV:=am qf
 clear qf
 go_enter Tryz.func13,Tryz.ntmps13
 go_wp2
 go_loopg [3,9] (ds.length+1) (fun gk v3 v9 wr=>∃j:Int,v9= .int .i64 j∧0≤j∧j≤ds.length∧ak (ir w.heap.size wq wr v3 ((ds.map iS).take j.toNat)∧Below w.heap.size w wr)∧gk=((ds.length:Int) - j).toNat+1)
 case atStart=>exact⟨0,rfl,by omega,by omega,rV,by omega⟩
 case round=>
  clear rV
  obtain⟨j,rfl,h0,h1,HR,rfl⟩:=hrel
  obtain⟨A3,c3,rfl⟩:=HR.out.1.slice
  by_cases hj:j<ds.length
  ·obtain⟨ad,A0,c0,A1,c1,d,rfl,hx,x0,x1,iR,nj⟩:=HV.out.1.get h0 hj
   replace x0:=al (HQ.out.trans (HR.out.2.mono HQ.out.size)) x0
   replace x1:=al (HQ.out.trans (HR.out.2.mono HQ.out.size)) x1
   have B7:=eq_true h0
   have HX:=am (And.intro hx (And.intro iR (And.intro nj (HV.out.2.ok d (List.mem_of_getElem? hx)))))
   have Wk:((ds.map iS).take j.toNat).length≤10:=by rw [List.length_take,List.length_map];omega
   clear hx iR nj
   have hB4:Below w.heap.size w (wr.alloc (.cells #[.slice A0 d.f0.length c0,.slice A1 d.f1.length c1] 68)):=au HR.out.2 _
   have RN:=am (And.intro hB4 (heap_alloc_new wr (.cells #[.slice A0 d.f0.length c0,.slice A1 d.f1.length c1] 68)))
   clear hB4
   have y0:(wr.alloc (.cells #[.slice A0 d.f0.length c0,.slice A1 d.f1.length c1] 68)).cell? ⟨wr.heap.size,0,none⟩=some (.slice A0 d.f0.length c0):=by rw [ao RN.out.2];rfl
   have y1:(wr.alloc (.cells #[.slice A0 d.f0.length c0,.slice A1 d.f1.length c1] 68)).cell? ⟨wr.heap.size,1,none⟩=some (.slice A1 d.f1.length c1):=by rw [ao RN.out.2];rfl
   have Mg:Below w.heap.size w (wr.alloc (.cells #[.slice A0 d.f0.length c0,.slice A1 d.f1.length c1] 68)).drew:=bn RN.out.1 1
   have hw:∀x∈d.f1,N0 x∧Nb x∧(fK x).length≤60∧∀q∈fK x,q.2.length≤60:=fun x hx=>by
    obtain⟨qs,hq⟩:=HX.out.2.2.2.words.ok x hx
    have:=hq.pZ ⟨by have:=hq.len;omega,HX.out.2.2.1.oj x hx⟩
    exact⟨hq.n0,hq.nb,this.1,this.2⟩
   have FT:=HX.out.2.2.2.words.len
   have oz:=tH (ws:=d.f1) (n:=60) (fun x hx=>(hw x hx).2.2.1)
   have wi:=nu (ws:=cI d.f1) (n:=60) (fun x hx=>by
    unfold cI at hx
    rw [List.mem_flatMap] at hx
    obtain⟨y,hy,hx⟩:=hx
    rw [List.mem_map] at hx
    obtain⟨q,hq,rfl⟩:=hx
    exact(hw y hy).2.2.2 q hq)
   have RO:=am (And.intro (HX.out.2.2.1.below (HQ.out.trans (Mg.mono HQ.out.size))) (And.intro (HT.out.below Mg) (And.intro (fun x hx=>And.intro (hw x hx).1 (hw x hx).2.1:∀x∈d.f1,N0 x∧Nb x) (And.intro (show (cI d.f1).length≤1000000 by omega) (And.intro (show d.f1.length≤1000000 by omega) (show (dE (cI d.f1)).length≤1000000 by omega))))))
   have oC:=am Mg
   have HPJ:ak (((ds.map iS).take j.toNat).length=j.toNat∧j.toNat≤10):=⟨by rw [List.length_take,List.length_map];omega,by omega⟩
   clear hw FT oz wi Mg
   go_wp2_with (fail)
   go_region_held3 (fun w' =>w'.cell? ⟨wr.heap.size,0,none⟩=some (.slice A0 d.f0.length c0)∧w'.cell? ⟨wr.heap.size,1,none⟩=some (.slice A1 d.f1.length c1)) (first|exact⟨y0,y1⟩|exact⟨z0,z1⟩|exact⟨t0,t1⟩|exact⟨s0,s1⟩|exact⟨r0,r1⟩|go_keep)
    (first
     | (go_at_call 28;(with_reducible refine(jd RO.out.1 RO.out.2.1 RO.out.2.2.1 RO.out.2.2.2.1 RO.out.2.2.2.2.1).mono ?_);rintro e w5 ⟨A6,c6,rfl,Mh,jT⟩;have Vl:=bP (show (wr.alloc (.cells #[.slice A0 d.f0.length c0,.slice A1 d.f1.length c1] 68)).drew.heap[wr.heap.size]? =_ from RN.out.2) jT;have z0:w5.cell? ⟨wr.heap.size,0,none⟩=some (.slice A0 d.f0.length c0):=(by rw [ao Vl];rfl);have z1:w5.cell? ⟨wr.heap.size,1,none⟩=some (.slice A1 d.f1.length c1):=(by rw [ao Vl];rfl);have qg:=am (And.intro Mh (And.intro jT Vl));clear Mh jT Vl)
     | (go_at_call 27;(with_reducible refine(np ⟨#[100,101,99,108,97,114,97,116,105,111,110]⟩ A0 d.f0.length c0 qg.out.1 RO.out.2.2.2.2.2 RO.out.2.2.2.1).mono ?_);rintro e w6 ⟨v6,rfl,jI,gw⟩;obtain⟨Av,cv,rfl⟩:=dP jI;have hk6:=bP qg.out.2.2 gw;have t0:w6.cell? ⟨wr.heap.size,0,none⟩=some (.slice A0 d.f0.length c0):=(by rw [ao hk6];rfl);have t1:w6.cell? ⟨wr.heap.size,1,none⟩=some (.slice A1 d.f1.length c1):=(by rw [ao hk6];rfl);have VD:=((bn (au (Below.refl wr.heap.size wr) (.cells #[.slice A0 d.f0.length c0,.slice A1 d.f1.length c1] 68)) 1).trans (qg.out.2.1.mono (by simp))).trans (gw.mono (by have:=qg.out.2.1.size;have e:(wr.alloc (.cells #[.slice A0 d.f0.length c0,.slice A1 d.f1.length c1] 68)).drew.heap.size=wr.heap.size+1:=(by simp);omega));obtain⟨v7,w7,bZ,u7,Lk,MM,hk7⟩:=D4 (p:=iS d) (A:=A0) (c:=c0) (by have:=HPJ.out;omega) (HR.out.1.below VD) (HR.out.2.trans (VD.mono HR.out.2.size)) ⟨HX.out.2.1.cap,.inl HX.out.2.1.rd⟩ (nt jI rfl (by have:=RO.out.2.2.2.2.2;omega));rw [HPJ.out.1] at bZ;dsimp only [iS] at bZ;have Pf:=hk7 _ _ hk6;have s0:w7.cell? ⟨wr.heap.size,0,none⟩=some (.slice A0 d.f0.length c0):=(by rw [ao Pf];rfl);have s1:w7.cell? ⟨wr.heap.size,1,none⟩=some (.slice A1 d.f1.length c1):=(by rw [ao Pf];rfl);have HB7:=am (And.intro u7 Lk);clear jI gw hk6 VD u7 Lk MM hk7 Pf)
     | (refine rE rfl (.tmp 13) (.tmp 20) 26 rfl (.slice A3 j.toNat c3) (.slice (some ⟨w6.heap.size,0,none⟩) 1 1) v7 w7 (by first|rfl|simp [Act.eval,Act.put]) (by first|rfl|simp [Act.eval,Act.put]) bZ ?_))
   clear bZ
   go_wp2_with (fail)
   go_roundg (((ds.length:Int) - (j+1)).toNat+1)
   case measure=>omega
   case rel=>
    refine⟨j+1,rfl,by omega,by omega,⟨?_⟩,rfl⟩
    have e:(ds.map iS).take (j+1).toNat=(ds.map iS).take j.toNat++ [iS d]:=by
     rw [show (j+1).toNat=j.toNat+1 by omega,List.take_add_one,List.getElem?_map,HX.out.1];rfl
    rw [e]
    exact HB7.out
  ·have rC:j=ds.length:=by omega
   subst rC
   go_wp2
   go_ret
   have h7:=HR.out
   rw [show ((ds.length:Nat):Int).toNat=ds.length by omega,List.take_of_length_le (by rw [List.length_map];omega)] at h7
   refine⟨_,rfl,?_,h7.2⟩
   have h8:=h7.1
   rw [List.length_map] at h8
   exact h8
theorem ir.at {B:Nat} {wq w:World} {v:Value} {ps:List Pc} (h:ir B wq w v ps) (hb:Below wq.heap.size wq w) {j:Int} (h0:0≤j) (h1:j<ps.length):
  ∃ad cap p A1 c1 A2 c2,v= .slice (some ad) ps.length cap∧ps[j.toNat]? =some p∧w.cell? (ad.add (j.toNat*6))=some (.string p.kind)∧w.cell? ⟨(ad.add (j.toNat*6)).block,(ad.add (j.toNat*6)).off+1,none⟩=some (.slice A1 p.data.length c1)∧w.cell? ⟨(ad.add (j.toNat*6)).block,(ad.add (j.toNat*6)).off+2,none⟩=some (.slice A2 p.text.length c2)∧Kd.C (Kd.int .u8) w A1 p.data.length p.data∧Kd.C (Kd.int .u8) w A2 p.text.length p.text:=by
 obtain⟨vs,ho,hn,kx⟩:=h
 have hl:j.toNat<ps.length:=by omega
 obtain⟨A1,c1,tv,d1,d2,d3,d4,d5,d6,d7,d8⟩:=kx.2 j.toNat _ (List.getElem?_eq_getElem hl)
 obtain⟨ad,cap,rfl,lS,bR⟩:=tJ ho hl
 obtain⟨A2,n2,c2,rfl,-,-,-⟩:=id d8
 obtain⟨e2,k2⟩:=LF d8
 subst e2
 have k1:Kd.C (Kd.int .u8) w A1 (ps[j.toNat]).data.length (ps[j.toNat]).data:=by
  rcases d7.2 with h|h
  ·exact Kd.cG h hb
  ·exact(LF h).2
 refine⟨ad,cap,_,A1,c1,A2,c2,rfl,List.getElem?_eq_getElem hl,bR 0 _ (by omega) d1,?_,?_,k1,k2⟩
 ·rw [←cf _ _ 1 (by omega)];exact bR 1 _ (by omega) d2
 ·rw [←cf _ _ 2 (by omega)];exact bR 2 _ (by omega) d3
noncomputable def d9:Code:=(Tryz.f9.body.bind dT).getD .skip
theorem lk (l:List Value) (hl:l.length=66):∃f:Nat→Value,(∀i,l.getD i default=f i)∧l=f 0::f 1::f 2::f 3::f 4::f 5::f 6::f 7::f 8::f 9::f 10::f 11::f 12::f 13::f 14::f 15::f 16::f 17::f 18::f 19::f 20::f 21::f 22::f 23::f 24::f 25::f 26::f 27::f 28::f 29::f 30::f 31::f 32::f 33::f 34::f 35::f 36::f 37::f 38::f 39::f 40::f 41::f 42::f 43::f 44::f 45::f 46::f 47::f 48::f 49::f 50::f 51::f 52::f 53::f 54::f 55::f 56::f 57::f 58::f 59::f 60::f 61::f 62::f 63::f 64::f 65:: []:=by
 refine⟨fun i=>l.getD i default,fun _=>rfl,?_⟩
 conv=>lhs;rw [iP l,hl]
 kernel_rfl
theorem D5 {l:List Value} {i:Nat} {v:Value} (h:l.getD i default=v) (hl:l.length=66) (hi:i<66):(⟨l.toArray,[]⟩:Act).eval (.tmp i)=v:=qa h (by omega)
def PH (A:Option Addr) (n c:Nat) (j:Int) (o:Value) (l:List Value):Prop:=l.length=66∧l.getD 8 default= .slice A n c∧l.getD 9 default= .int .i64 n∧l.getD 10 default= .int .i64 j∧l.getD 3 default=o
def PB (g:Nat) (va:Value) (l:List Value):Prop:=l.getD 5 default= .pointer (some ⟨g,0,none⟩)∧l.getD 6 default=va
theorem oZ {P:Program} {ops:Array Oper} {rest:List Oper} {o:Oper} {a:Act} {W:World} {Q:Exit→Act→World→Prop} (qR:o.guard=none) (s x:Operand) (t u:TypeId)
  (ho:o.op= .call {callee:=.builtin .append,args:=#[s,x],argTypes:=#[t,u]}) (v y v1:Value) (w1:World) (hs:a.eval s=v) (hx:a.eval x=y)
  (hr:(Builtin.append_ #[t,u] o.type #[v,y]).run P W= .ok v1 w1) (h:wpList P ops Q rest (a.put o.dst v1) w1):wpList P ops Q (o::rest) a W:=by
 refine wpList_plain qR fun K hK=> ?_
 unfold Oper.wp execOp
 simp only [ho,resolve,invoke,builtin,Sem.run_bind,Sem.run_pure,Result.andThen_ok,List.map_toArray,List.map_cons,List.map_nil,hs,hx,hr]
 exact hK _ _ h
def PW (wq w W:World) (o:Value) (ps:List Pc):Prop:=ir w.heap.size wq W o ps∧Below w.heap.size w W
theorem PW.below {wq w W W' :World} {o:Value} {ps:List Pc} (h:PW wq w W o ps) (hb:Below W.heap.size W W'):PW wq w W' o ps:=⟨h.1.below hb,h.2.trans (hb.mono h.2.size)⟩
theorem PW.be {wq w W:World} {o:Value} {ps:List Pc} (h:PW wq w W o ps):Below w.heap.size w W:=h.2
theorem PW.slice {wq w W:World} {o:Value} {ps:List Pc} (h:PW wq w W o ps):∃A n c,o= .slice A n c:=by
 obtain⟨A,c,e⟩:=h.1.slice
 exact⟨A,_,c,e⟩
theorem PW.eC {wq w W W' :World} {o:Value} {ps:List Pc} (h:PW wq w W o ps) (hg:W.grownBy W' o.ownBlock) {g:Nat} {cs:Array Value} (hb:W.heap[g]? =some (.cells cs 38 (0,0))):W'.heap[g]? =some (.cells cs 38 (0,0)):=by
 obtain⟨vs,ho⟩:=h.1.own
 exact cE hb hg (dJ ho hb (by decide))
theorem PW.rd {wq w W W' :World} {o:Value} {ps:List Pc} (h:PW wq w W o ps) (hg:W.grownBy W' o.ownBlock) {v:Value} {xs:List Int} (hr:Rd W v xs):Rd W' v xs:=by
 obtain⟨vs,ho⟩:=h.1.own
 exact BM ho hg v xs hr
theorem PW.one {wq w W:World} {v:Value} {ps:List Pc} {p:Pc} {A:Option Addr} {c:Nat} {tv:Value} (h:PW wq w W v ps) (hd:Ic wq W A c p.data) (ht:Rd W tv p.text) (hle:ps.length≤90000):
  ∃v' w',(Builtin.append_ #[26,26] 26 #[v,.slice (some ⟨W.heap.size,0,none⟩) 1 1]).run Tryz.prog (W.alloc (.cells #[.string p.kind,.slice A p.data.length c,tv,.slice none 0 0,.slice none 0 0,.string ⟨#[]⟩] 55))= .ok v' w' ∧PW wq w w' v' (ps++ [p])∧(∀(g:Nat) (cs:Array Value),W.heap[g]? =some (.cells cs 38 (0,0))→w'.heap[g]? =some (.cells cs 38 (0,0)))∧(∀x xs,Rd W x xs→Rd w' x xs):=by
 obtain⟨v',w',h1,h2,h3⟩:=BO h.1 hd ht hle h.2.size
 have om:=au (Below.refl W.heap.size W) (.cells #[.string p.kind,.slice A p.data.length c,tv,.slice none 0 0,.slice none 0 0,.string ⟨#[]⟩] 55)
 have hh:=h.below om
 obtain⟨vs,ho⟩:=hh.1.own
 exact⟨v',w',h1,⟨h2,hh.2.grown h3 hh.2.size (fg ho)⟩,fun g cs hg=>hh.eC h3 (bP hg om),fun x xs hr=>hh.rd h3 (hr.below om)⟩
theorem PW.row {wq w W:World} {B2:Nat} {v v2:Value} {ps qs:List Pc} (h:PW wq w W v ps) (h2:ir B2 wq W v2 qs) (hle:ps.length+qs.length≤100000):
  ∃v' w',(Builtin.append_ #[26,26] 26 #[v,v2]).run Tryz.prog W= .ok v' w' ∧PW wq w w' v' (ps++qs)∧(∀(g:Nat) (cs:Array Value),W.heap[g]? =some (.cells cs 38 (0,0))→w'.heap[g]? =some (.cells cs 38 (0,0)))∧(∀x xs,Rd W x xs→Rd w' x xs):=by
 obtain⟨v',w',h1,h3,h4⟩:=Mf h.1 h2 hle h.2.size
 obtain⟨vs,ho⟩:=h.1.own
 exact⟨v',w',h1,⟨h3,h.2.grown h4 h.2.size (fg ho)⟩,fun g cs hg=>h.eC h4 hg,fun x xs hr=>h.rd h4 hr⟩
theorem BP (w:World) (kd:ByteArray):Calls Tryz.prog 27 #[.string kd,.slice none 0 0,.slice none 0 0] w (PtP w kd (.slice none 0 0) []):=
 np (ws:=[]) kd none 0 0 ⟨Nat.le_refl _,yg _ _⟩ (by simp [dE]) (by simp)
theorem Mi {W:World} {B:Nat} {v:Value} {m:Nat} {cs:List Value} (h:W.ownsRow B 5 1 v m cs):∀A n c,v= .slice A n c→n≤c:=by
 intro A n c e
 rcases h.2 with ⟨rfl,h0⟩|⟨g,cap,cur,rfl,_,_,hn,_⟩
 ·injection e with _ e1 e2
  omega
 ·injection e with _ e1 e2
  omega
variable {wq w wr:World} {A:Option Addr} {n c:Nat} {j:Int} {g:Nat} {kb:ByteArray} {A1 A2 A3 A4:Option Addr} {n1 n2 n3 n4 c1 c2 c3 c4:Nat} {o va:Value} {ps:List Pc} {nm:List Int} {l:List Value} {K:Act→World→Prop} {Q:Exit→Act→World→Prop}
theorem Mj {b:Bool} (qc:PH A n c j o l) (hb:decide (j<(n:Int))=b)
  (hK:∀l',PH A n c j o l' →l'.getD 11 default= .bool b→K ⟨l'.toArray,[]⟩ wr):
  Code.wp Tryz.prog (bI [0] d9) (Exit.then K Q) ⟨l.toArray,[]⟩ wr:=by
 obtain⟨hl,h8,h9,dG,h3⟩:=qc
 obtain⟨f,hf,rfl⟩:=lk l hl
 rw [hf] at h3 h8 h9 dG
 rw [h3,h8,h9,dG]
 have HK:=am hK
 clear hf hl h3 h8 h9 dG hK
 conv=>arg 2;whnf
 cases b with
 | true=>
  have CX :j<(n:Int):=of_decide_eq_true hb
  go_wp2_with (fail)
  exact HK.out _ ⟨by kernel_rfl,rfl,rfl,rfl,rfl⟩ rfl
 | false=>
  have CX :¬(j<(n:Int)):=of_decide_eq_false hb
  go_wp2_with (fail)
  exact HK.out _ ⟨by kernel_rfl,rfl,rfl,rfl,rfl⟩ rfl
theorem VE {ad:Addr} (qc:PH (some ad) n c j o l) (h0:0≤j) (hj:j<n)
  (x0:wr.cell? (ad.add (j.toNat*5))=some (.string kb)) (x1:wr.cell? ⟨(ad.add (j.toNat*5)).block,(ad.add (j.toNat*5)).off+1,none⟩=some (.slice A1 n1 c1))
  (x2:wr.cell? ⟨(ad.add (j.toNat*5)).block,(ad.add (j.toNat*5)).off+2,none⟩=some (.slice A2 n2 c2)) (x3:wr.cell? ⟨(ad.add (j.toNat*5)).block,(ad.add (j.toNat*5)).off+3,none⟩=some (.slice A3 n3 c3))
  (x4:wr.cell? ⟨(ad.add (j.toNat*5)).block,(ad.add (j.toNat*5)).off+4,none⟩=some (.slice A4 n4 c4))
  (hK:∀l',PH (some ad) n c j o l' →l'.getD 5 default= .pointer (some ⟨wr.heap.size,0,none⟩)→K ⟨l'.toArray,[]⟩ (wr.alloc (.cells #[.string kb,.slice A1 n1 c1,.slice A2 n2 c2,.slice A3 n3 c3,.slice A4 n4 c4] 38))):
  Code.wp Tryz.prog (bI [1,1,0,0,0] d9) (Exit.then K Q) ⟨l.toArray,[]⟩ wr:=by
 obtain⟨hl,h8,h9,dG,h3⟩:=qc
 obtain⟨f,hf,rfl⟩:=lk l hl
 rw [hf] at h3 h8 h9 dG
 rw [h3,h8,h9,dG]
 have HK:=am hK
 have B7:=eq_true h0
 clear hf hl h3 h8 h9 dG hK
 conv=>arg 2;whnf
 go_wp2_with (fail)
 exact HK.out _ ⟨by kernel_rfl,rfl,rfl,rfl,rfl⟩ rfl
theorem VF {v2 v3 v4:Value} (qc:PH A n c j o l) (h5:l.getD 5 default= .pointer (some ⟨g,0,none⟩)) (dd:wr.heap[g]? =some (.cells #[.string kb,.slice A1 nm.length c1,v2,v3,v4] 38 (0,0)))
  (k1:Kd.C (Kd.int .u8) wr A1 nm.length nm) (qM:nm.length≤1000000000)
  (hK:∀l' W Aa ma ca,PH A n c j o l' →PB g (.slice Aa ma ca) l' →Below wr.heap.size wr W→ma=(64::nm).length→ma≤ca→Rd W (.slice Aa ma ca) (64::nm)→K ⟨l'.toArray,[]⟩ W):
  Code.wp Tryz.prog (bI [1,1,0,0,1,0] d9) (Exit.then K Q) ⟨l.toArray,[]⟩ wr:=by
 obtain⟨hl,h8,h9,dG,h3⟩:=qc
 obtain⟨f,hf,rfl⟩:=lk l hl
 rw [hf] at h3 h8 h9 dG h5
 rw [h3,h8,h9,dG,h5]
 have HK:=am hK
 have qS:=au (Below.refl wr.heap.size wr) (.cells #[.int .u8 64] 5)
 have kx:wr.cell? ⟨g,1,none⟩=some (.slice A1 nm.length c1):=by rw [ao dd];rfl
 have ahB:(wr.alloc (.cells #[.int .u8 64] 5)).cell? ⟨g,1,none⟩=some (.slice A1 nm.length c1):=al qS kx
 have bl:(wr.alloc (.cells #[.int .u8 64] 5)).ownsRow wr.heap.size 5 1 (.slice (some ⟨wr.heap.size,0,none⟩) 1 1) [(64:Int)].length (bp .u8 [64]):=
  ⟨rfl,.inr ⟨wr.heap.size,1,_,rfl,Nat.le_refl _,heap_alloc_new wr _,Nat.le_refl _,by decide,rfl,rfl⟩⟩
 have H0:=am (And.intro bl (And.intro (dO (Kd.cG k1 qS)) qS))
 clear hf hl h3 h8 h9 dG h5 hK k1 dd bl qS
 conv=>arg 2;whnf
 go_wp2_with (first
  | (at_builtin;refine cA (w0:=wr) wr.heap.size rfl (.tmp 14) (.tmp 16) 24 5 .u8 1 (by rfl) Tryz.underlying24 cF (by decide) (.slice (some ⟨wr.heap.size,0,none⟩) 1 1) [64] nm A1 nm.length c1 (by rfl) (by rfl) H0.out.1 H0.out.2.1 H0.out.2.2 (by simp) (by simp;omega) ?_;intro v1 w1 bl hB hg dz;have hle:=Mi bl;have oT:=nt bl rfl (by simp;omega);obtain⟨Aa,ma,ca,rfl⟩:=ff bl;have H1:=am (And.intro hB (And.intro hle oT));clear bl hB hg dz hle oT))
 have MN:ma=(64::nm).length:=by
  obtain⟨-,hle,A',n',cp',e,e2,-⟩:=H1.out
  injection e with _ e3 _
  exact e3.trans e2.symm
 exact HK.out _ _ Aa ma ca ⟨by kernel_rfl,rfl,rfl,rfl,rfl⟩ ⟨rfl,rfl⟩ H1.out.1 MN (H1.out.2.1 _ _ _ rfl) H1.out.2.2
theorem VG (qc:PH A n c j o l) (D6:PB g va l) (hc:wr.cell? ⟨g,0,none⟩=some (.string kb))
  (hK:∀l',PH A n c j o l' →PB g va l' →l'.getD 19 default= .string kb→K ⟨l'.toArray,[]⟩ wr):
  Code.wp Tryz.prog (bI [1,1,0,0,1,1,0] d9) (Exit.then K Q) ⟨l.toArray,[]⟩ wr:=by
 obtain⟨hl,h8,h9,dG,h3⟩:=qc
 obtain⟨h5,h6⟩:=D6
 obtain⟨f,hf,rfl⟩:=lk l hl
 rw [hf] at h3 h8 h9 dG h5 h6
 rw [h3,h8,h9,dG,h5,h6]
 have HK:=am hK
 clear hf hl h3 h8 h9 dG h5 h6 hK
 conv=>arg 2;whnf
 go_wp2_with (fail)
 exact HK.out _ ⟨by kernel_rfl,rfl,rfl,rfl,rfl⟩ ⟨rfl,rfl⟩ rfl
theorem D7 {b:Bool} (qc:PH A n c j o l) (D6:PB g va l) (VH:l.getD 19 default= .string kb) (hb:(kb.toList==([114,117,108,101]:List UInt8))=b)
  (hK:∀l',PH A n c j o l' →PB g va l' →l'.getD 19 default= .string kb→l'.getD 36 default= .bool b→K ⟨l'.toArray,[]⟩ wr):
  Code.wp Tryz.prog (bI [1,1,0,0,1,1,1,0,0] d9) (Exit.then K Q) ⟨l.toArray,[]⟩ wr:=by
 obtain⟨hl,h8,h9,dG,h3⟩:=qc
 obtain⟨h5,h6⟩:=D6
 obtain⟨f,hf,rfl⟩:=lk l hl
 rw [hf] at h3 h8 h9 dG h5 h6 VH
 rw [h3,h8,h9,dG,h5,h6,VH]
 have HK:=am hK
 clear hf hl h3 h8 h9 dG h5 h6 VH hK
 conv=>arg 2;whnf
 go_wp2_with (fail)
 exact HK.out _ ⟨by kernel_rfl,rfl,rfl,rfl,rfl⟩ ⟨rfl,rfl⟩ rfl rfl
theorem Gg {b:Bool} (qc:PH A n c j o l) (D6:PB g va l) (VH:l.getD 19 default= .string kb) (hb:(kb.toList==([97,116]:List UInt8))=b)
  (hK:∀l',PH A n c j o l' →PB g va l' →l'.getD 54 default= .bool b→K ⟨l'.toArray,[]⟩ wr):
  Code.wp Tryz.prog (bI [1,1,0,0,1,1,1,0,1,1,0] d9) (Exit.then K Q) ⟨l.toArray,[]⟩ wr:=by
 obtain⟨hl,h8,h9,dG,h3⟩:=qc
 obtain⟨h5,h6⟩:=D6
 obtain⟨f,hf,rfl⟩:=lk l hl
 rw [hf] at h3 h8 h9 dG h5 h6 VH
 rw [h3,h8,h9,dG,h5,h6,VH]
 have HK:=am hK
 clear hf hl h3 h8 h9 dG h5 h6 VH hK
 conv=>arg 2;whnf
 go_wp2_with (fail)
 exact HK.out _ ⟨by kernel_rfl,rfl,rfl,rfl,rfl⟩ ⟨rfl,rfl⟩ rfl
theorem P3 (qc:PH A n c j o l) (h0:0≤j) (hj:j≤1000000) (hK:∀l',PH A n c (j+1) o l' →K ⟨l'.toArray,[]⟩ wr):
  Code.wp Tryz.prog (bI [1,1,1] d9) (Exit.then K Q) ⟨l.toArray,[]⟩ wr:=by
 obtain⟨hl,h8,h9,dG,h3⟩:=qc
 obtain⟨f,hf,rfl⟩:=lk l hl
 rw [hf] at h3 h8 h9 dG
 rw [h3,h8,h9,dG]
 have HK:=am hK
 clear hf hl h3 h8 h9 dG hK
 conv=>arg 2;whnf
 go_wp2_with (fail)
 exact HK.out _ ⟨by kernel_rfl,rfl,rfl,rfl,rfl⟩
theorem VJ {W:World} {g1:Nat} {cs:Array Value} (hg:W.heap[g1]? =some (.cells #[.slice A1 nm.length c1] 24 (0,0))) (k1:VB W A1 c1 nm):VL W (some ⟨g1,0,none⟩) 1 [nm]:=by
 refine⟨Nat.le_refl _,Pm _ rfl (by simp [maxLen]) fun j p hj=> ?_,fun x hx=> ?_,⟨by simp,fun m hm=> ?_⟩⟩
 ·have pb:j=0:=by
   have:=(List.getElem?_eq_some_iff.1 hj).1
   simp at this
   omega
  subst pb
  simp at hj
  subst hj
  refine⟨[.slice A1 nm.length c1],rfl,⟨A1,c1,rfl,k1.cap,k1.rd⟩,fun i u hu=> ?_⟩
  match i,hu with
  | 0,hu=>
   injection hu with hu
   subst hu
   show W.cell? ⟨g1,0,none⟩=_
   rw [ao hg]
   rfl
 ·simp at hx
  subst hx
  exact k1.oj
 ·have hm0:m=0:=by simp at hm;omega
  subst hm0
  exact k1.len
theorem P4 {v2 v3 v4:Value} (qc:PH A n c j o l) (D6:PB g va l) (dd:wr.heap[g]? =some (.cells #[.string kb,.slice A1 nm.length c1,v2,v3,v4] 38 (0,0))) (hP:PW wq w wr o ps)
  (k1:VB wr A1 c1 nm) (hT:fU wr) (hn:N0 nm∧Nb nm) (ht:(fK nm).length≤60∧∀q∈fK nm,q.2.length≤60) (FQ:ps.length≤80000)
  (hK:∀l' W o',PH A n c j o' l' →PB g va l' →W.heap[g]? =some (.cells #[.string kb,.slice A1 nm.length c1,v2,v3,v4] 38 (0,0))→PW wq w W o' (ps++ [⟨ym,[],dE ((fK nm).map (·.2))⟩])→K ⟨l'.toArray,[]⟩ W):
  Code.wp Tryz.prog (bI [1,1,0,0,1,1,1,0,1,0,0] d9) (Exit.then K Q) ⟨l.toArray,[]⟩ wr:=by
 obtain⟨hl,h8,h9,dG,h3⟩:=qc
 obtain⟨h5,h6⟩:=D6
 obtain⟨f,hf,rfl⟩:=lk l hl
 rw [hf] at h3 h8 h9 dG h5 h6
 rw [h3,h8,h9,dG,h5,h6]
 obtain⟨Ao,no,co,rfl⟩:=hP.slice
 have kx:wr.cell? ⟨g,1,none⟩=some (.slice A1 nm.length c1):=by rw [ao dd];rfl
 have qZ:cI [nm]=(fK nm).map (·.2):=by simp [cI]
 have lX:=nu (ws:=cI [nm]) (n:=60) (fun x hx=>by
  rw [qZ,List.mem_map] at hx
  obtain⟨q,hq,rfl⟩:=hx
  exact ht.2 q hq)
 have ng:(cI [nm]).length≤60:=by rw [qZ,List.length_map];exact ht.1
 have om:=au (Below.refl wr.heap.size wr) (.cells #[.slice A1 nm.length c1] 24)
 have nj:=VJ (cs:=#[]) (heap_alloc_new wr (.cells #[.slice A1 nm.length c1] 24)) (k1.below om)
 have eN:Calls Tryz.prog 28 #[.slice (some ⟨wr.heap.size,0,none⟩) 1 1] (wr.alloc (.cells #[.slice A1 nm.length c1] 24)) (ToP (wr.alloc (.cells #[.slice A1 nm.length c1] 24)) (cI [nm])):=
  jd (ws:=[nm]) nj (hT.below om) (fun x hx=>by simp at hx;subst hx;exact hn) (by omega) (by simp)
 have HC:=am eN
 have HK:=am hK
 have H0:=am (And.intro nj (And.intro (hT.below om) (And.intro (hP.below om) (bP dd om))))
 have HN:=am (And.intro (show ∀x∈ [nm],N0 x∧Nb x from fun x hx=>by simp at hx;subst hx;exact hn) (And.intro (show (cI [nm]).length≤1000000 by omega) (And.intro (show (dE (cI [nm])).length≤1000000 by omega) qZ)))
 clear hf hl h3 h8 h9 dG h5 h6 hK k1 hT hn ht qZ lX ng nj hP dd om eN
 conv=>arg 2;whnf
 go_wp2_with (first
  | (go_at_call 28;(with_reducible refine HC.out.mono ?_);rintro e w5 ⟨A6,c6,rfl,Mh,jT⟩;have H5:=am (And.intro Mh (And.intro (H0.out.2.2.1.below jT) (bP H0.out.2.2.2 jT)));clear Mh jT)
  | (go_at_call 27;(with_reducible refine(np ⟨#[98,101,103,105,110]⟩ none 0 0 H5.out.1 HN.out.2.2.1 HN.out.2.1).mono ?_);rintro e w6 ⟨v6,rfl,jI,gw⟩;have BQ:=nt jI rfl (by have:=HN.out.2.2.1;omega);obtain⟨Av,nv,cv,rfl⟩:=ff jI;obtain⟨v7,w7,bZ,u7,MM,-⟩:=PW.one (p:=⟨ym,[],dE (cI [nm])⟩) (A:=none) (c:=0) (H5.out.2.1.below gw) ⟨Nat.le_refl _,.inr (Rd.nil _)⟩ BQ (by omega);have q9:=MM _ _ (bP H5.out.2.2 gw);obtain⟨A7,n7,c7,rfl⟩:=u7.slice;have H7:=am (And.intro u7 q9);clear jI gw BQ u7 MM q9)
  | (at_builtin;refine oZ rfl (.tmp 38) (.tmp 44) 26 26 (by rfl) (.slice Ao no co) (.slice (some ⟨w6.heap.size,0,none⟩) 1 1) (.slice A7 n7 c7) w7 (by rfl) (by rfl) bZ ?_;clear bZ))
 refine HK.out _ _ _ ⟨by kernel_rfl,rfl,rfl,rfl,rfl⟩ ⟨rfl,rfl⟩ H7.out.2 ?_
 rw [←HN.out.2.2.2]
 exact H7.out.1
theorem ir.slice3 {B:Nat} {wq w:World} {v:Value} {ps:List Pc} (h:ir B wq w v ps):∃A n c,v= .slice A n c:=by
 obtain⟨A,c,e⟩:=h.slice
 exact⟨A,_,c,e⟩
theorem PW.abr {wq w W:World} {v:Value} {ps:List Pc} {p:Pc} {A:Option Addr} {m c:Nat} {tv:Value} (hm:m=p.data.length) (h:PW wq w W v ps) (hd:Ic wq W A c p.data) (ht:Rd W tv p.text) (hle:ps.length≤90000):
  ∃v' w',(Builtin.append_ #[26,26] 26 #[v,.slice (some ⟨W.heap.size,0,none⟩) 1 1]).run Tryz.prog (W.alloc (.cells #[.string p.kind,.slice A m c,tv,.slice none 0 0,.slice none 0 0,.string ⟨#[]⟩] 55))= .ok v' w' ∧PW wq w w' v' (ps++ [p])∧(∀(g:Nat) (cs:Array Value),W.heap[g]? =some (.cells cs 38 (0,0))→w'.heap[g]? =some (.cells cs 38 (0,0)))∧(∀x xs,Rd W x xs→Rd w' x xs):=by
 subst hm
 exact h.one hd ht hle
variable {wq w wr:World} {A:Option Addr} {n c:Nat} {j:Int} {g:Nat} {kb:ByteArray} {A1 A2 A3 A4:Option Addr} {n1 n2 n3 n4 c1 c2 c3 c4:Nat} {o va:Value} {ps:List Pc} {nm:List Int} {l:List Value} {K:Act→World→Prop} {Q:Exit→Act→World→Prop}
theorem P5 {v1 v2 v4:Value} {qs:List Pc} (qc:PH A n c j o l) (D6:PB g va l) (dd:wr.heap[g]? =some (.cells #[.string kb,v1,v2,.slice A3 n3 c3,v4] 38 (0,0))) (hP:PW wq w wr o ps)
  (eN:Calls Tryz.prog 13 #[.slice A3 n3 c3] wr (RM wq wr qs)) (FQ:ps.length+qs.length≤80000)
  (hK:∀l' W o',PH A n c j o' l' →PW wq w W o' (ps++qs++ [⟨p8,[],[]⟩])→K ⟨l'.toArray,[]⟩ W):
  Code.wp Tryz.prog (bI [1,1,0,0,1,1,1,0,1,0,1] d9) (Exit.then K Q) ⟨l.toArray,[]⟩ wr:=by
 obtain⟨hl,h8,h9,dG,h3⟩:=qc
 obtain⟨h5,h6⟩:=D6
 obtain⟨f,hf,rfl⟩:=lk l hl
 rw [hf] at h3 h8 h9 dG h5 h6
 rw [h3,h8,h9,dG,h5,h6]
 obtain⟨Ao,no,co,rfl⟩:=hP.slice
 have kx:wr.cell? ⟨g,3,none⟩=some (.slice A3 n3 c3):=by rw [ao dd];rfl
 have HC:=am eN
 have HK:=am hK
 have HP:=am hP
 clear hf hl h3 h8 h9 dG h5 h6 hK eN hP dd
 conv=>arg 2;whnf
 go_wp2_with (first
  | (go_at_call 13;(with_reducible refine HC.out.mono ?_);rintro e w5 ⟨v5,rfl,pd,jT⟩;obtain⟨v6,w6,bZ,Mk,-,-⟩:=PW.row (HP.out.below jT) pd (by omega);obtain⟨A5,n5,c5,rfl⟩:=pd.slice3;obtain⟨A6,n6,c6,rfl⟩:=Mk.slice;have H6:=am Mk;clear pd jT Mk)
  | (at_builtin;refine oZ rfl (.tmp 46) (.tmp 49) 26 26 (by rfl) (.slice Ao no co) (.slice A5 n5 c5) (.slice A6 n6 c6) w6 (by rfl) (by rfl) bZ ?_;clear bZ)
  | (go_at_call 27;(with_reducible refine(BP _ ⟨#[101,110,100]⟩).mono ?_);rintro e w7 ⟨v7,rfl,ua,Lk⟩;have Ml:=nt ua rfl (by simp);obtain⟨Av,nv,cv,rfl⟩:=ff ua;obtain⟨v8,w8,bZ,P6,-,-⟩:=PW.one (p:=⟨p8,[],[]⟩) (A:=none) (c:=0) (H6.out.below Lk) ⟨Nat.le_refl _,.inr (Rd.nil _)⟩ Ml (by rw [List.length_append];omega);obtain⟨A8,n8,c8,rfl⟩:=P6.slice;have H8:=am P6;clear ua Lk Ml P6)
  | (at_builtin;refine oZ rfl (.tmp 50) (.tmp 52) 26 26 (by rfl) (.slice A6 n6 c6) (.slice (some ⟨w7.heap.size,0,none⟩) 1 1) (.slice A8 n8 c8) w8 (by rfl) (by rfl) bZ ?_;clear bZ))
 exact HK.out _ _ _ ⟨by kernel_rfl,rfl,rfl,rfl,rfl⟩ H8.out
theorem P7 {v3 v4:Value} {words:List (List Int)} {Aa:Option Addr} {ma ca:Nat} (qc:PH A n c j o l) (D6:PB g (.slice Aa ma ca) l) (dd:wr.heap[g]? =some (.cells #[.string kb,.slice A1 n1 c1,.slice A2 words.length c2,v3,v4] 38 (0,0))) (hP:PW wq w wr o ps)
  (MN:ma=(64::nm).length) (RQ:ma≤ca) (RR:Rd wr (.slice Aa ma ca) (64::nm)) (k2:VL wr A2 c2 words) (hT:fU wr) (hn:∀x∈words,N0 x∧Nb x) (eW:(cI words).length≤480) (dc:(dE (cI words)).length≤100000) (FT:words.length≤8) (FQ:ps.length≤80000)
  (hK:∀l' W o',PH A n c j o' l' →PB g (.slice Aa ma ca) l' →W.heap[g]? =some (.cells #[.string kb,.slice A1 n1 c1,.slice A2 words.length c2,v3,v4] 38 (0,0))→PW wq w W o' (ps++ [⟨uZ,64::nm,dE (cI words)⟩])→K ⟨l'.toArray,[]⟩ W):
  Code.wp Tryz.prog (bI [1,1,0,0,1,1,1,0,1,1,1,0] d9) (Exit.then K Q) ⟨l.toArray,[]⟩ wr:=by
 obtain⟨hl,h8,h9,dG,h3⟩:=qc
 obtain⟨h5,h6⟩:=D6
 obtain⟨f,hf,rfl⟩:=lk l hl
 rw [hf] at h3 h8 h9 dG h5 h6
 rw [h3,h8,h9,dG,h5,h6]
 obtain⟨Ao,no,co,rfl⟩:=hP.slice
 have kx:wr.cell? ⟨g,2,none⟩=some (.slice A2 words.length c2):=by rw [ao dd];rfl
 have eN:=jd k2 hT hn (by omega) (by omega)
 have HC:=am eN
 have HK:=am hK
 have HP:=am (And.intro hP (And.intro dd RR))
 have HM:=am (And.intro MN (And.intro RQ (And.intro eW dc)))
 clear hf hl h3 h8 h9 dG h5 h6 hK eN hP dd RR k2 hT hn MN RQ eW dc
 conv=>arg 2;whnf
 go_wp2_with (first
  | (go_at_call 28;(with_reducible refine HC.out.mono ?_);rintro e w5 ⟨A6,c6,rfl,Mh,jT⟩;have H5:=am (And.intro Mh (And.intro (HP.out.1.below jT) (And.intro (bP HP.out.2.1 jT) (HP.out.2.2.below jT))));clear Mh jT)
  | (go_at_call 27;(with_reducible refine(np ⟨#[97,116]⟩ Aa ma ca H5.out.1 (by have:=HM.out.2.2.2;omega) (by have:=HM.out.2.2.1;omega)).mono ?_);rintro e w6 ⟨v6,rfl,jI,gw⟩;have BQ:=nt jI rfl (by have:=HM.out.2.2.2;omega);obtain⟨Av,nv,cv,rfl⟩:=ff jI;obtain⟨v7,w7,bZ,u7,MM,-⟩:=PW.abr (p:=⟨uZ,64::nm,dE (cI words)⟩) (A:=Aa) (c:=ca) HM.out.1 (H5.out.2.1.below gw) ⟨by have:=HM.out.1;have:=HM.out.2.1;dsimp only;omega,.inr (HM.out.1▸H5.out.2.2.2.below gw)⟩ BQ (by omega);have q9:=MM _ _ (bP H5.out.2.2.1 gw);obtain⟨A7,n7,c7,rfl⟩:=u7.slice;have H7:=am (And.intro u7 q9);clear jI gw BQ u7 MM q9)
  | (at_builtin;refine oZ rfl (.tmp 56) (.tmp 62) 26 26 (by rfl) (.slice Ao no co) (.slice (some ⟨w6.heap.size,0,none⟩) 1 1) (.slice A7 n7 c7) w7 (by rfl) (by rfl) bZ ?_;clear bZ))
 exact HK.out _ _ _ ⟨by kernel_rfl,rfl,rfl,rfl,rfl⟩ ⟨rfl,rfl⟩ H7.out.2 H7.out.1
theorem VK {v3 v4:Value} {words:List (List Int)} {Aa:Option Addr} {ma ca:Nat} (qc:PH A n c j o l) (D6:PB g (.slice Aa ma ca) l) (dd:wr.heap[g]? =some (.cells #[.string kb,.slice A1 n1 c1,.slice A2 words.length c2,v3,v4] 38 (0,0))) (hP:PW wq w wr o ps)
  (MN:ma=(64::nm).length) (RQ:ma≤ca) (RR:Rd wr (.slice Aa ma ca) (64::nm)) (k2:VL wr A2 c2 words) (hT:fU wr) (hn:∀x∈words,N0 x∧Nb x) (eW:(cI words).length≤480) (dc:(dE (cI words)).length≤100000) (FT:words.length≤8) (FQ:ps.length≤80000)
  (hK:∀l' W o',PH A n c j o' l' →PB g (.slice Aa ma ca) l' →W.heap[g]? =some (.cells #[.string kb,.slice A1 n1 c1,.slice A2 words.length c2,v3,v4] 38 (0,0))→PW wq w W o' (ps++ [⟨Bw,64::nm,dE (cI words)⟩])→K ⟨l'.toArray,[]⟩ W):
  Code.wp Tryz.prog (bI [1,1,0,0,1,1,1,0,1,1,1,1,0] d9) (Exit.then K Q) ⟨l.toArray,[]⟩ wr:=by
 obtain⟨hl,h8,h9,dG,h3⟩:=qc
 obtain⟨h5,h6⟩:=D6
 obtain⟨f,hf,rfl⟩:=lk l hl
 rw [hf] at h3 h8 h9 dG h5 h6
 rw [h3,h8,h9,dG,h5,h6]
 obtain⟨Ao,no,co,rfl⟩:=hP.slice
 have kx:wr.cell? ⟨g,2,none⟩=some (.slice A2 words.length c2):=by rw [ao dd];rfl
 have eN:=jd k2 hT hn (by omega) (by omega)
 have HC:=am eN
 have HK:=am hK
 have HP:=am (And.intro hP (And.intro dd RR))
 have HM:=am (And.intro MN (And.intro RQ (And.intro eW dc)))
 clear hf hl h3 h8 h9 dG h5 h6 hK eN hP dd RR k2 hT hn MN RQ eW dc
 conv=>arg 2;whnf
 go_wp2_with (first
  | (go_at_call 28;(with_reducible refine HC.out.mono ?_);rintro e w5 ⟨A6,c6,rfl,Mh,jT⟩;have H5:=am (And.intro Mh (And.intro (HP.out.1.below jT) (And.intro (bP HP.out.2.1 jT) (HP.out.2.2.below jT))));clear Mh jT)
  | (go_at_call 27;(with_reducible refine(np ⟨#[98,101,103,105,110,32,97,116]⟩ Aa ma ca H5.out.1 (by have:=HM.out.2.2.2;omega) (by have:=HM.out.2.2.1;omega)).mono ?_);rintro e w6 ⟨v6,rfl,jI,gw⟩;have BQ:=nt jI rfl (by have:=HM.out.2.2.2;omega);obtain⟨Av,nv,cv,rfl⟩:=ff jI;obtain⟨v7,w7,bZ,u7,MM,-⟩:=PW.abr (p:=⟨Bw,64::nm,dE (cI words)⟩) (A:=Aa) (c:=ca) HM.out.1 (H5.out.2.1.below gw) ⟨by have:=HM.out.1;have:=HM.out.2.1;dsimp only;omega,.inr (HM.out.1▸H5.out.2.2.2.below gw)⟩ BQ (by omega);have q9:=MM _ _ (bP H5.out.2.2.1 gw);obtain⟨A7,n7,c7,rfl⟩:=u7.slice;have H7:=am (And.intro u7 q9);clear jI gw BQ u7 MM q9)
  | (at_builtin;refine oZ rfl (.tmp 20) (.tmp 26) 26 26 (by rfl) (.slice Ao no co) (.slice (some ⟨w6.heap.size,0,none⟩) 1 1) (.slice A7 n7 c7) w7 (by rfl) (by rfl) bZ ?_;clear bZ))
 exact HK.out _ _ _ ⟨by kernel_rfl,rfl,rfl,rfl,rfl⟩ ⟨rfl,rfl⟩ H7.out.2 H7.out.1
theorem VM {v1 v2 v3:Value} {qs:List Pc} (qc:PH A n c j o l) (D6:PB g va l) (dd:wr.heap[g]? =some (.cells #[.string kb,v1,v2,v3,.slice A4 n4 c4] 38 (0,0))) (hP:PW wq w wr o ps)
  (eN:Calls Tryz.prog 9 #[.slice A4 n4 c4] wr (RM wq wr qs)) (FQ:ps.length+qs.length≤80000)
  (hK:∀l' W o',PH A n c j o' l' →PW wq w W o' (ps++qs++ [⟨tO,[],[]⟩])→K ⟨l'.toArray,[]⟩ W):
  Code.wp Tryz.prog (bI [1,1,0,0,1,1,1,0,1,1,1,1,1] d9) (Exit.then K Q) ⟨l.toArray,[]⟩ wr:=by
 obtain⟨hl,h8,h9,dG,h3⟩:=qc
 obtain⟨h5,h6⟩:=D6
 obtain⟨f,hf,rfl⟩:=lk l hl
 rw [hf] at h3 h8 h9 dG h5 h6
 rw [h3,h8,h9,dG,h5,h6]
 obtain⟨Ao,no,co,rfl⟩:=hP.slice
 have kx:wr.cell? ⟨g,4,none⟩=some (.slice A4 n4 c4):=by rw [ao dd];rfl
 have HC:=am eN
 have HK:=am hK
 have HP:=am hP
 clear hf hl h3 h8 h9 dG h5 h6 hK eN hP dd
 conv=>arg 2;whnf
 go_wp2_with (first
  | (go_at_call 9;(with_reducible refine HC.out.mono ?_);rintro e w5 ⟨v5,rfl,pd,jT⟩;obtain⟨v6,w6,bZ,Mk,-,-⟩:=PW.row (HP.out.below jT) pd (by omega);obtain⟨A5,n5,c5,rfl⟩:=pd.slice3;obtain⟨A6,n6,c6,rfl⟩:=Mk.slice;have H6:=am Mk;clear pd jT Mk)
  | (at_builtin;refine oZ rfl (.tmp 28) (.tmp 31) 26 26 (by rfl) (.slice Ao no co) (.slice A5 n5 c5) (.slice A6 n6 c6) w6 (by rfl) (by rfl) bZ ?_;clear bZ)
  | (go_at_call 27;(with_reducible refine(BP _ ⟨#[101,110,100,32,97,116]⟩).mono ?_);rintro e w7 ⟨v7,rfl,ua,Lk⟩;have Ml:=nt ua rfl (by simp);obtain⟨Av,nv,cv,rfl⟩:=ff ua;obtain⟨v8,w8,bZ,P6,-,-⟩:=PW.one (p:=⟨tO,[],[]⟩) (A:=none) (c:=0) (H6.out.below Lk) ⟨Nat.le_refl _,.inr (Rd.nil _)⟩ Ml (by rw [List.length_append];omega);obtain⟨A8,n8,c8,rfl⟩:=P6.slice;have H8:=am P6;clear ua Lk Ml P6)
  | (at_builtin;refine oZ rfl (.tmp 32) (.tmp 34) 26 26 (by rfl) (.slice A6 n6 c6) (.slice (some ⟨w7.heap.size,0,none⟩) 1 1) (.slice A8 n8 c8) w8 (by rfl) (by rfl) bZ ?_;clear bZ))
 exact HK.out _ _ _ ⟨by kernel_rfl,rfl,rfl,rfl,rfl⟩ H8.out
theorem RS:d9= .seq (bI [0] d9) (.seq (.cond (.tmp 11) .skip (.exit 0)) (.seq (.block 1 (.seq (bI [1,1,0,0,0] d9) (.seq (bI [1,1,0,0,1,0] d9) (.seq (bI [1,1,0,0,1,1,0] d9) (.block 2 (.seq (bI [1,1,0,0,1,1,1,0,0] d9) (.cond (.tmp 36) (.seq (bI [1,1,0,0,1,1,1,0,1,0,0] d9) (bI [1,1,0,0,1,1,1,0,1,0,1] d9)) (.seq (bI [1,1,0,0,1,1,1,0,1,1,0] d9) (.cond (.tmp 54) (bI [1,1,0,0,1,1,1,0,1,1,1,0] d9) (.seq (bI [1,1,0,0,1,1,1,0,1,1,1,1,0] d9) (bI [1,1,0,0,1,1,1,0,1,1,1,1,1] d9))))))))))) (bI [1,1,1] d9))):=by kernel_rfl
theorem uf {P:Program} {c:Code} {a:Act} {w:World} {K:Act→World→Prop} {Q:Exit→Act→World→Prop} (h:c.wp P (Exit.then K (Exit.inBlock 2 (Exit.inBlock 1 (Exit.then K Q)))) a w):c.wp P (Exit.inBlock 2 (Exit.inBlock 1 (Exit.then K Q))) a w:=
 wp_mono h (fun e a w' hq=>by cases e<;>exact hq)
variable {wq w wr:World} {n c:Nat} {j:Int} {ad:Addr} {A1 A2 A3 A4:Option Addr} {c1 c2 c3 c4:Nat} {o:Value} {ps:List Pc} {l:List Value} {K:Act→World→Prop} {Q:Exit→Act→World→Prop}
theorem Ie {d:Nat} {kind:ByteArray} {name:List Int} {words:List (List Int)} {decls:List gx} {parts:List PT} (hv:qi d (.mk kind name words decls parts))
  (IH:∀d',d=d' +1→mx d' parts→(jH d' parts).length≤40000→∀W,Below wq.heap.size wq W→Calls Tryz.prog 9 #[.slice A4 parts.length c4] W (RM wq W (jH d' parts)))
  (qc:PH (some ad) n c j o l) (h0:0≤j) (hj:j<n) (Oi:j≤1000000)
  (x0:wr.cell? (ad.add (j.toNat*5))=some (.string kind)) (x1:wr.cell? ⟨(ad.add (j.toNat*5)).block,(ad.add (j.toNat*5)).off+1,none⟩=some (.slice A1 name.length c1))
  (x2:wr.cell? ⟨(ad.add (j.toNat*5)).block,(ad.add (j.toNat*5)).off+2,none⟩=some (.slice A2 words.length c2)) (x3:wr.cell? ⟨(ad.add (j.toNat*5)).block,(ad.add (j.toNat*5)).off+3,none⟩=some (.slice A3 decls.length c3))
  (x4:wr.cell? ⟨(ad.add (j.toNat*5)).block,(ad.add (j.toNat*5)).off+4,none⟩=some (.slice A4 parts.length c4))
  (k1:VB wq A1 c1 name) (k2:VL wq A2 c2 words) (k3:DL wq A3 c3 decls) (hq:Below wq.heap.size wq w) (hT:fU wq) (qM:name.length≤1000000000) (hP:PW wq w wr o ps) (u4:ps.length+(q7 d (.mk kind name words decls parts)).length≤40000)
  (hK:∀l' W o',PH (some ad) n c (j+1) o' l' →PW wq w W o' (ps++q7 d (.mk kind name words decls parts))→K ⟨l'.toArray,[]⟩ W):
  Code.wp Tryz.prog d9 (Exit.then K Q) ⟨l.toArray,[]⟩ wr:=by
 rw [RS]
 refine wp_seq_k fun K1 gv=> ?_
 refine Mj qc (decide_eq_true hj) fun l1 s1 t1=>gv _ _ ?_
 refine wp_seq_k fun K2 ik=> ?_
 refine wp_cond_true (D5 t1 s1.1 (by decide)) (wp_skip (ik _ _ ?_))
 refine wp_seq_k fun K3 jK=>wp_block ?_
 refine wp_seq_k fun K4 lW=> ?_
 refine VE s1 h0 hj x0 x1 x2 x3 x4 fun l2 s2 b2=>lW _ _ ?_
 have mz:=hP.below (au (Below.refl _ wr) (.cells #[.string kind,.slice A1 name.length c1,.slice A2 words.length c2,.slice A3 decls.length c3,.slice A4 parts.length c4] 38))
 have dd:=heap_alloc_new wr (.cells #[.string kind,.slice A1 name.length c1,.slice A2 words.length c2,.slice A3 decls.length c3,.slice A4 parts.length c4] 38)
 generalize (wr.alloc (.cells #[.string kind,.slice A1 name.length c1,.slice A2 words.length c2,.slice A3 decls.length c3,.slice A4 parts.length c4] 38))=W1 at mz dd⊢
 clear x0 x1 x2 x3 x4 lW hP
 have MO:∀{W:World} {o' :Value} {RE :List Pc},PW wq w W o' RE →Below wq.heap.size wq W:=fun h=>hq.trans (h.be.mono hq.size)
 refine wp_seq_k fun K5 oU=> ?_
 refine VF (nm:=name) s2 b2 dd (k1.below (MO mz)).rd qM fun l3 W3 Aa ma ca s3 p3 kX MN RQ RR=>oU _ _ ?_
 have gm:=mz.below kX
 have Gh:=bP dd kX
 refine wp_seq_k fun K6 Hj=> ?_
 refine VG s3 p3 (by rw [ao Gh];rfl) fun l4 s4 p4 q4=>Hj _ _ (wp_block ?_)
 refine wp_seq_k fun K7 Lq=> ?_
 have fin:∀l' W o' qs,PH (some ad) n c j o' l' →PW wq w W o' qs→qs=ps++q7 d (.mk kind name words decls parts)→K3 ⟨l'.toArray,[]⟩ W:=by
  intro l' W o' qs Pr hP' Wh
  refine jK _ _ ?_
  refine P3 Pr h0 Oi fun l7 s7=> ?_
  subst Wh
  exact hK l7 W o' s7 hP'
 clear gv ik oU Hj
 cases hv with
 | p9 _ _ _ hs ht Q4 hdo=>
  refine D7 (b:=true) s4 p4 q4 (by kernel_rfl) fun l5 s5 p5 q5 t5=>Lq _ _ ?_
  refine wp_cond_true (D5 t5 s5.1 (by decide)) ?_
  refine wp_seq_k fun K8 DP=> ?_
  rw [tS] at u4 fin
  simp only [List.length_append,List.length_cons,List.length_nil,List.length_map] at u4
  obtain⟨qs,Hf⟩:=hs.vw
  refine P4 (nm:=name) s5 p5 Gh gm (k1.below (MO gm)) (hT.below (MO gm)) ⟨Hf.n0,Hf.nb⟩ (Hf.pZ ht) (by omega) fun l6 W6 o6 s6 p6 g6 Mk=>DP _ _ (uf ?_)
  refine P5 (qs:=decls.map iS) s6 p6 g6 Mk (ou (MO Mk) k3 ⟨Q4,fun x hx=>(hdo x hx).1⟩ (hT.below (MO Mk))) (by simp only [List.length_append,List.length_cons,List.length_nil,List.length_map];omega) fun l7 W7 o7 s7 u7=> ?_
  exact fin l7 W7 o7 _ s7 u7 (by simp)
 | yK _ _ _ hn hw nj VA=>
  refine D7 (b:=false) s4 p4 q4 (by kernel_rfl) fun l5 s5 p5 q5 t5=>Lq _ _ ?_
  refine wp_cond_false (D5 t5 s5.1 (by decide)) ?_
  refine wp_seq_k fun K8 DP=> ?_
  refine Gg (b:=true) s5 p5 q5 (by kernel_rfl) fun l6 s6 p6 t6=>DP _ _ ?_
  refine wp_cond_true (D5 t6 s6.1 (by decide)) (uf ?_)
  rw [yp] at u4 fin
  have hwb:=lY nj VA
  refine P7 (nm:=name) s6 p6 Gh gm MN RQ RR (k2.below (MO gm)) (hT.below (MO gm)) (fun x hx=>by obtain⟨qs,hq⟩:=nj.ok x hx;exact⟨hq.n0,hq.nb⟩) hwb.1 hwb.2 nj.len (by omega) fun l7 W7 o7 s7 p7 g7 u7=> ?_
  exact fin l7 W7 o7 _ s7 u7 rfl
 | eC d' _ _ _ hn hw nj VA Wk hp=>
  refine D7 (b:=false) s4 p4 q4 (by kernel_rfl) fun l5 s5 p5 q5 t5=>Lq _ _ ?_
  refine wp_cond_false (D5 t5 s5.1 (by decide)) ?_
  refine wp_seq_k fun K8 DP=> ?_
  refine Gg (b:=false) s5 p5 q5 (by kernel_rfl) fun l6 s6 p6 t6=>DP _ _ ?_
  refine wp_cond_false (D5 t6 s6.1 (by decide)) ?_
  refine wp_seq_k fun K9 UD=> ?_
  rw [yq] at u4 fin
  simp only [List.length_append,List.length_cons,List.length_nil] at u4
  have hwb:=lY nj VA
  refine VK (nm:=name) s6 p6 Gh gm MN RQ RR (k2.below (MO gm)) (hT.below (MO gm)) (fun x hx=>by obtain⟨qs,hq⟩:=nj.ok x hx;exact⟨hq.n0,hq.nb⟩) hwb.1 hwb.2 nj.len (by omega) fun l7 W7 o7 s7 p7 g7 u7=>UD _ _ (uf ?_)
  refine VM (qs:=jH d' parts) s7 p7 g7 u7 (IH d' rfl ⟨Wk,hp⟩ (by omega) W7 (MO u7)) (by simp only [List.length_append,List.length_cons,List.length_nil];omega) fun l8 W8 o8 s8 P6=> ?_
  exact fin l8 W8 o8 _ s8 P6 (by simp)
theorem BR {d:Nat} {ps:List PT} {j:Nat} {p:PT} (h:ps[j]? =some p):jH d (ps.take (j+1))=jH d (ps.take j)++q7 d p:=by
 unfold jH
 rw [List.take_add_one,h,List.flatMap_append]
 simp
theorem BS {d:Nat} {ps:List PT} (j:Nat):(jH d (ps.take j)).length≤(jH d ps).length:=by
 have:jH d ps=jH d (ps.take j)++jH d (ps.drop j):=by
  unfold jH
  rw [←List.flatMap_append,List.take_append_drop]
 rw [this,List.length_append]
 omega
theorem ll {d:Nat}
  (IH:∀d',d=d' +1→∀{wq w:World} {A:Option Addr} {c:Nat} {ps:List PT},Below wq.heap.size wq w→PL (d' +1) wq A c ps→fU wq→mx d' ps→(jH d' ps).length≤40000→Calls Tryz.prog 9 #[.slice A ps.length c] w (RM wq w (jH d' ps)))
  {wq w:World} {A:Option Addr} {c:Nat} {ps:List PT} (hq:Below wq.heap.size wq w) (h:PL (d+1) wq A c ps) (hT:fU wq) (hv:mx d ps) (u4:(jH d ps).length≤40000):
  Calls Tryz.prog 9 #[.slice A ps.length c] w (RM wq w (jH d ps)):=by
 have hl:=h.len
 have HH:=am (And.intro h (And.intro hq hT))
 have HV:=am (And.intro hv u4)
 have HI:=am @IH
 have qf:PW wq w (w.alloc (.cells #[] 55)) (.slice (some ⟨w.heap.size,0,none⟩) 0 0) (jH d (ps.take 0)):=by
  refine⟨⟨[],⟨by simp [jH],.inr ⟨w.heap.size,0,#[],rfl,Nat.le_refl _,?_,by simp [jH],by simp [maxLen,jH],by simp [jH],by simp [jH]⟩⟩,(fun e=>by cases e),?_⟩,au (Below.refl _ _) _⟩
  ·simpa using heap_alloc_new w (.cells #[] 55)
  ·simpa [jH] using BL.nil wq (w.alloc (.cells #[] 55))
 have rV:=am qf
 clear h hv IH qf hq hT u4
 go_enter Tryz.func9,Tryz.ntmps9
 go_wp2_with (fail)
 refine cZ 66 (fun g l wr=>∃(j:Nat) (o:Value),j≤ps.length∧g=ps.length - j∧PH A ps.length c (j:Int) o l∧PW wq w wr o (jH d (ps.take j))) ps.length _ (by kernel_rfl)
  ⟨0,_,Nat.zero_le _,rfl,⟨by kernel_rfl,rfl,rfl,rfl,rfl⟩,rV.out⟩ ?_
 clear rV
 rintro m l wr hlen ⟨j,o,D8,hm,qc,hO⟩ J hJ
 show Code.wp Tryz.prog d9 _ _ _
 rcases Nat.lt_or_ge j ps.length with hj|hj
 ·obtain⟨ad,A1,c1,A2,c2,A3,c3,A4,c4,kind,name,words,decls,parts,rfl,hx,x0,x1,x2,x3,x4,k1,k2,k3,k4⟩:=HH.out.1.get (j:=(j:Int)) (by omega) (by omega)
  rw [Int.toNat_natCast] at hx
  have hpv:=HV.out.1.2 _ (List.mem_of_getElem? hx)
  have ng:=BS (d:=d) (ps:=ps) (j+1)
  have GH:=HV.out.2
  rw [BR hx,List.length_append] at ng
  have hbW:=HH.out.2.1.trans (hO.be.mono HH.out.2.1.size)
  have qM:name.length≤1000000000:=by
   have h1:=tU (st:=0) d _ hpv
   cases hpv with
   | p9 _ _ _ hs ht Q4 hdo=>
    obtain⟨qs,Hf⟩:=hs.vw
    have:=Hf.len
    omega
   | yK _ _ _ hn hw nj VA=>simp [fL] at hn;rcases hn with rfl|rfl|rfl<;>simp
   | eC d' _ _ _ hn hw nj VA Wk hp=>simp [jG] at hn;rcases hn with rfl|rfl|rfl<;>simp
  refine Ie (w:=w) hpv (fun d' hd VC hc' W hb=>HI.out d' hd hb (by subst hd;exact k4) HH.out.2.2 VC hc') qc (by omega) (by omega) (by have:=HV.out.1.1;omega) (al hbW x0) (al hbW x1) (al hbW x2) (al hbW x3) (al hbW x4) k1 k2 k3 HH.out.2.1 HH.out.2.2 qM hO (by omega) ?_
  intro l' W o' s' hO'
  refine hJ (ps.length - (j+1)) l' W (by omega) s'.1 ⟨j+1,o',by omega,rfl,?_,?_⟩
  ·rw [show ((j+1:Nat):Int)=(j:Int)+1 by omega]
   exact s'
  ·rw [BR hx]
   exact hO'
 ·have rC:j=ps.length:=by omega
  subst rC
  rw [RS]
  refine wp_seq_k fun K1 gv=> ?_
  refine Mj (b:=false) qc (by simp) fun l1 s1 t1=>gv _ _ ?_
  refine wp_seq_k fun K2 ik=> ?_
  refine wp_cond_false (D5 t1 s1.1 (by decide)) (wp_exit ?_)
  obtain⟨oz,h8,h9,dG,h3⟩:=s1
  obtain⟨f,hf,rfl⟩:=lk l1 oz
  rw [hf] at h3
  rw [h3]
  rw [List.take_length] at hO
  obtain⟨Ao,no,co,rfl⟩:=hO.slice
  have HO:=am hO
  clear hf oz h8 h9 dG t1 h3 gv ik hJ qc hO
  simp only [Exit.inBlock,Exit.then]
  go_wp2_with (fail)
  go_ret
  exact⟨_,rfl,HO.out.1,HO.out.2⟩
theorem rF:∀(d:Nat) {wq w:World} {A:Option Addr} {c:Nat} {ps:List PT},Below wq.heap.size wq w→PL (d+1) wq A c ps→fU wq→mx d ps→(jH d ps).length≤40000→Calls Tryz.prog 9 #[.slice A ps.length c] w (RM wq w (jH d ps)):=by
 intro d
 induction d with
 | zero=>intro wq w A c ps hq h hT hv hc;exact ll (fun d' e=>by omega) hq h hT hv hc
 | succ d ih=>intro wq w A c ps hq h hT hv hc;exact ll (fun d' e=>by obtain rfl:d=d':=(by omega);exact ih) hq h hT hv hc
theorem BU {B B2:Nat} {wq w:World} {va vb:Value} {qs ps:List Pc} (hlen:qs.length=ps.length) (ha:rX B w va qs) (hb:ir B2 wq w vb ps) (Ue:Below wq.heap.size wq w) (hk:∀(i:Nat) (a b:Pc),qs[i]? =some a→ps[i]? =some b→LN a b∧Bz b.kind) (hl:ps.length≤1000000):
  Calls Tryz.prog 8 #[va,vb] w fun e w' =>e= .returned (.bool true)∧Below w.heap.size w w':=by
 obtain⟨Ab,cb,rfl⟩:=hb.slice
 obtain⟨Aa,ca,rfl⟩:∃A c,va= .slice A ps.length c:=by
  obtain⟨A,c,e⟩:=ha.DS
  exact⟨A,c,by rw [e,hlen]⟩
 have HA:=am (And.intro ha (And.intro hb (And.intro Ue (And.intro hk hlen))))
 clear ha hb Ue hk hlen
 go_enter Tryz.func8,Tryz.ntmps8
 go_wp2
 go_loopg [14] (ps.length+1) (fun gk W9 wr=>∃j:Int,W9= .int .i64 j∧0≤j∧j≤ps.length∧ak (Below w.heap.size w wr)∧gk=((ps.length:Int) - j).toNat+1)
 case atStart=>exact⟨0,rfl,by omega,by omega,⟨Below.refl _ _⟩,by omega⟩
 case round=>
  obtain⟨j,rfl,h0,h1,HR,rfl⟩:=hrel
  by_cases hj:j<ps.length
  ·obtain⟨ad,cap,a,A1,c1,A2,c2,e,hp,x0,x1,x2,x3,x4,x5,k1,k2⟩:=HA.out.1.at h0 (by rw [HA.out.2.2.2.2];exact hj)
   rw [HA.out.2.2.2.2] at e
   injection e with e1 e2 e3
   subst e1;subst e3;clear e2
   obtain⟨bd,ahC,b,B1,d1,B2,d2,e,hp',z0,z1,z2,l1,l2⟩:=HA.out.2.1.at HA.out.2.2.1 h0 hj
   injection e with e1 e2 e3
   subst e1;subst e3;clear e2
   obtain⟨⟨hkd,Wx,MJ⟩,re,YC,abt⟩:=HA.out.2.2.2.1 _ _ _ hp hp'
   rw [hkd] at x0
   replace x0:=al HR.out x0
   replace x1:=al HR.out x1
   replace x2:=al HR.out x2
   replace x3:=al HR.out x3
   replace x4:=al HR.out x4
   replace x5:=al HR.out x5
   have Mg:Below w.heap.size w (wr.alloc (.cells #[.string b.kind,.slice A1 a.data.length c1,.slice A2 a.text.length c2,.slice none 0 0,.slice none 0 0,.string ⟨#[]⟩] 55)):=au HR.out _
   replace z0:=al Mg z0
   replace z1:=al Mg z1
   replace z2:=al Mg z2
   have xM:=heap_alloc_new wr (.cells #[.string b.kind,.slice A1 a.data.length c1,.slice A2 a.text.length c2,.slice none 0 0,.slice none 0 0,.string ⟨#[]⟩] 55)
   have uW:Sm (wr.alloc (.cells #[.string b.kind,.slice A1 a.data.length c1,.slice A2 a.text.length c2,.slice none 0 0,.slice none 0 0,.string ⟨#[]⟩] 55)) b.kind re a.data.length a.text.length b.data.length b.text.length A1 A2 B1 B2 c1 c2 d1 d2:=by
    have hq:=fun n=>bn Mg n
    refine⟨fun n=>(lL.calls b.kind re _ YC).mono fun e w' ⟨he,hn⟩=>⟨he,hn.out⟩,fun hm n=> ?_,fun hr n=> ?_⟩
    ·rcases Wx with Wx|Wx
     ·rw [Wx] at hm
      simp at hm
     ·exact LQ Wx (Kd.cG k1 (hq n)) (Kd.cG l1 (hq n))
    ·rcases MJ with MJ|MJ
     ·rw [abt.2 MJ] at hr
      cases hr
     ·exact LQ MJ (Kd.cG k2 (hq n)) (Kd.cG l2 (hq n))
   have oC:=am Mg
   have B7:=eq_true h0
   clear hp hp' hkd Wx MJ YC abt k1 k2 l1 l2 Mg
   generalize a.data.length=n1 at*
   generalize a.text.length=n2 at*
   generalize b.data.length=m1 at*
   generalize b.text.length=m2 at*
   generalize b.kind=kb at*
   have y0:(wr.alloc (.cells #[.string kb,.slice A1 n1 c1,.slice A2 n2 c2,.slice none 0 0,.slice none 0 0,.string ⟨#[]⟩] 55)).cell? ⟨wr.heap.size,0,none⟩=some (.string kb):=by rw [ao xM];rfl
   have y1:(wr.alloc (.cells #[.string kb,.slice A1 n1 c1,.slice A2 n2 c2,.slice none 0 0,.slice none 0 0,.string ⟨#[]⟩] 55)).cell? ⟨wr.heap.size,1,none⟩=some (.slice A1 n1 c1):=by rw [ao xM];rfl
   have y2:(wr.alloc (.cells #[.string kb,.slice A1 n1 c1,.slice A2 n2 c2,.slice none 0 0,.slice none 0 0,.string ⟨#[]⟩] 55)).cell? ⟨wr.heap.size,2,none⟩=some (.slice A2 n2 c2):=by rw [ao xM];rfl
   clear xM
   have SE:=am uW.e
   by_cases Q4:0<m1
   ·have SD:=am (uW.d Q4)
    have hdz:(m1:Int)>0:=by omega
    cases re with
    | true=>
     clear uW
     go_upto_region 6 with (fail)
     go_quiet (first
      | (go_at_call 26;exact Calls.quiet_of (SE.out _))
      | (go_at_call 25;exact Calls.quiet_of (SD.out _)))
     rename_i nq
     go_wp2_with fail
     go_roundg (((ps.length:Int) - (j+1)).toNat+1)
     case measure=>omega
     case rel=>exact⟨j+1,rfl,by omega,by omega,⟨bn oC.out nq⟩,rfl⟩
    | false=>
     have ST:=am (uW.t rfl)
     clear uW
     go_upto_region 6 with (fail)
     go_quiet (first
      | (go_at_call 26;exact Calls.quiet_of (SE.out _))
      | (go_at_call 25;exact Calls.quiet_of (SD.out _))
      | (go_at_call 25;exact Calls.quiet_of (ST.out _)))
     rename_i nq
     go_wp2_with fail
     go_roundg (((ps.length:Int) - (j+1)).toNat+1)
     case measure=>omega
     case rel=>exact⟨j+1,rfl,by omega,by omega,⟨bn oC.out nq⟩,rfl⟩
   ·have hdz:¬(m1:Int)>0:=by omega
    cases re with
    | true=>
     clear uW
     go_upto_region 6 with (fail)
     go_quiet (first
      | (go_at_call 26;exact Calls.quiet_of (SE.out _)))
     rename_i nq
     go_wp2_with fail
     go_roundg (((ps.length:Int) - (j+1)).toNat+1)
     case measure=>omega
     case rel=>exact⟨j+1,rfl,by omega,by omega,⟨bn oC.out nq⟩,rfl⟩
    | false=>
     have ST:=am (uW.t rfl)
     clear uW
     go_upto_region 6 with (fail)
     go_quiet (first
      | (go_at_call 26;exact Calls.quiet_of (SE.out _))
      | (go_at_call 25;exact Calls.quiet_of (ST.out _)))
     rename_i nq
     go_wp2_with fail
     go_roundg (((ps.length:Int) - (j+1)).toNat+1)
     case measure=>omega
     case rel=>exact⟨j+1,rfl,by omega,by omega,⟨bn oC.out nq⟩,rfl⟩
  ·have rC:j=ps.length:=by omega
   subst rC
   go_wp2
   go_ret
   exact⟨rfl,HR.out⟩
end Go.Proofs.YtlglijnaeaonpaaGreatDoor.Lx
end
