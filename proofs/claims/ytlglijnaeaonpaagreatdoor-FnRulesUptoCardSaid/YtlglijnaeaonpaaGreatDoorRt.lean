/- FnRules: a part of the proof (Rt). -/
import Derived.Test.YtlglijnaeaonpaaGreatDoorRs
import Derived.StillTailTactics
import Derived.Lib.SlBytesConst
import Derived.Deep.LoopGhost
import Derived.Deep.DeepCutAuto
import Derived.ArgAppend
section
set_option maxHeartbeats 8000000
set_option maxRecDepth 100000
set_option linter.unusedVariables false
set_option linter.unusedSimpArgs false
namespace Go.Proofs.YtlglijnaeaonpaaGreatDoor.Lx
open Go.RowKit Go.Proofs.YtlglijnaeaonpaaGreatDoorW.aC
variable {w0 w wr:World} {c:lQ} {p:Int} {B:Nat} {gp:Nat} {v:PV} {ts:List Tk} {fs:List Nat} {ds:List Int} {k q:Int} {xs:List Int} {K:Act→World→Prop} {Q:Exit→Act→World→Prop} {l:List Value} {off:Int}
noncomputable def dr:Code:=(Tryz.f7.body.bind dT).getD .skip
theorem ns (l:List Value) (hl:l.length=64):∃f:Nat→Value,(∀i,l.getD i default=f i)∧l=f 0::f 1::f 2::f 3::f 4::f 5::f 6::f 7::f 8::f 9::f 10::f 11::f 12::f 13::f 14::f 15::f 16::f 17::f 18::f 19::f 20::f 21::f 22::f 23::f 24::f 25::f 26::f 27::f 28::f 29::f 30::f 31::f 32::f 33::f 34::f 35::f 36::f 37::f 38::f 39::f 40::f 41::f 42::f 43::f 44::f 45::f 46::f 47::f 48::f 49::f 50::f 51::f 52::f 53::f 54::f 55::f 56::f 57::f 58::f 59::f 60::f 61::f 62::f 63:: []:=by
 refine⟨fun i=>l.getD i default,fun _=>rfl,?_⟩
 conv=>lhs;rw [iP l,hl]
 kernel_rfl
def bars (ts:List Tk):List Int:=(bH ts).flatMap (fun t=>t.bs++ [124])
theorem Hm (ts:List Tk) (t:Tk):bars (ts++ [t])=bars ts++(if t.tt==20 then [] else t.bs++ [124]):=by
 unfold bars bH
 rw [List.filter_append,List.flatMap_append]
 congr 1
 by_cases h:t.tt=20<;>simp [h]
def RI (S:Nat) (w:World) (buf:Value) (ts:List Tk) (g11:Nat) (kv dv a6 a7 a20:Value) (i:Nat) (l:List Value) (wr:World):Prop:=
 ∃tv,l.length=64∧l.getD 6 default=a6∧l.getD 7 default=a7∧l.getD 20 default=a20∧l.getD 11 default= .pointer (some ⟨g11,0,none⟩)∧l.getD 36 default=buf∧l.getD 37 default= .int .i64 ts.length∧l.getD 38 default= .int .i64 i∧
  Below S w wr∧S≤w.heap.size∧S≤g11∧i≤ts.length∧wr.heap[g11]? =some (.cells #[kv,dv,tv,.slice none 0 0,.slice none 0 0,.string ⟨#[]⟩] 55 (0,0))∧wr.ownsRow S 5 1 tv (bars (ts.take i)).length (bp .u8 (bars (ts.take i)))
theorem Lt {S g11 i:Nat} {buf kv dv a6 a7 a20:Value} (h:RI S w buf ts g11 kv dv a6 a7 a20 i l wr) (hT:Tb B w buf ts) (hS:S=w.heap.size) (hi:i<ts.length) (hn:ts.length≤100000000) (hb:(bars ts).length≤100000000000)
  (hK:∀l' wx,RI S w buf ts g11 kv dv a6 a7 a20 (i+1) l' wx→K ⟨l'.toArray,[]⟩ wx):Code.wp Tryz.prog (bI [1,1,0,0,1,1,1,0,1,0,0] dr) (Exit.then K Q) ⟨l.toArray,[]⟩ wr:=by
 obtain⟨tv,hl,h6,h7,je,im,O3,O4,O5,lX,hSw,hg,uk,bl,Wo⟩:=h
 obtain⟨f,hf,rfl⟩:=ns l hl
 rw [hf] at h6 h7 je im O3 O4 O5
 rw [h6,h7,je,im,O3,O4,O5]
 obtain⟨t,ht⟩:∃t,ts[i]? =some t:=⟨_,List.getElem?_eq_getElem hi⟩
 have Q6:=hT.below (hS▸lX)
 obtain⟨g,o,n,cap,dv2,rfl,e1,e2,e3,e4,e5,e6⟩:=Q6.at_ ht
 obtain⟨A,nd,cd,rfl,-,-,-⟩:=id e6
 have qL:(i:Int)<(ts.length:Int):=by omega
 have aho:(i:Int)<(n:Int):=by omega
 have Uw:i≤100000000:=by omega
 have Oo:=cT bl
 have HH:=am (And.intro lX (And.intro hSw (And.intro hg (And.intro bl Wo))))
 have HK:=am hK
 have HT:=am (And.intro ht e6)
 clear hf hl h6 h7 je im O3 O4 O5 hT Q6 hK lX ht e6 bl Wo
 have qZ:ts.take (i+1)=ts.take i++ [t]:=by rw [List.take_add_one,HT.out.1];rfl
 have om:=Hm (ts.take i) t
 rw [←qZ] at om
 have uU:=am om
 clear qZ om
 by_cases hk:t.tt=20
 ·have hkb:(t.tt !=20)=false:=by simp [hk]
  have HKK:=am hk
  clear hk
  conv=>arg 2;whnf
  go_wp2_with (fail)
  obtain⟨x1,x2,x3,x4,x5⟩:=HH.out
  refine HK.out _ _ ⟨tv,by kernel_rfl,rfl,rfl,rfl,rfl,rfl,rfl,rfl,au (hS▸x1) _ |> (hS▸·),x2,x3,by omega,bm x4 _,?_⟩
  have e:bars (ts.take (i+1))=bars (ts.take i):=by rw [uU.out];simp [HKK.out]
  rw [e]
  exact cX x5 (au (Below.refl _ _) _)
 ·have hkb:(t.tt !=20)=true:=by simp [hk]
  have HKK:=am hk
  clear hk
  have hg4:=HH.out.2.2.2.1
  have ahp:(wr.alloc (.cells #[.int .u32 t.tt,.slice A nd cd] 59)).cell? ⟨g11,2,none⟩=some tv:=by rw [ao (bm hg4 _)];rfl
  clear hg4
  obtain⟨x1,x2,x3,x4,x5⟩:=HH.out
  have oD:=bm x4 (.cells #[.int .u32 t.tt,.slice A nd cd] 59)
  have HO2:=cX x5 (au (Below.refl _ wr) (.cells #[.int .u32 t.tt,.slice A nd cd] 59))
  have kY:Below S w (wr.alloc (.cells #[.int .u32 t.tt,.slice A nd cd] 59)):=by
   subst hS
   exact au x1 _
  have uR:dU (wr.alloc (.cells #[.int .u32 t.tt,.slice A nd cd] 59)) .u8 A nd t.bs:=by
   obtain⟨A',n',cp',e,r1,r2,r3⟩:=(HT.out.2.below (au (Below.refl _ wr) (.cells #[.int .u32 t.tt,.slice A nd cd] 59))).reads
   injection e with e e' e''
   subst e;subst e'
   exact r3
  have ahq:nd≤1099511627776:=by
   obtain⟨A',n',cp',e,r1,r2,r3⟩:=HT.out.2
   injection e with e e' e''
   omega
  have hbi:(bars (ts.take i)).length≤100000000000:=by
   have e:ts=ts.take i++ts.drop i:=(List.take_append_drop i ts).symm
   have e2:bars ts=bars (ts.take i)++bars (ts.drop i):=by
    conv=>lhs;rw [e]
    unfold bars bH
    rw [List.filter_append,List.flatMap_append]
   rw [e2,List.length_append] at hb
   omega
  have hSz:S≤(wr.alloc (.cells #[.int .u32 t.tt,.slice A nd cd] 59)).heap.size:=by have:=kY.size;omega
  have P:=am (And.intro oD (And.intro HO2 (And.intro kY uR)))
  clear x1 x4 x5 oD HO2 kY uR hb
  conv=>arg 2;whnf
  go_wp2_with (first
   | (at_builtin
      refine cA (w0:=w) S rfl (.tmp 46) (.tmp 48) 24 5 .u8 1 (by rfl) Tryz.underlying24 cF (by decide) tv (bars (ts.take i)) t.bs A nd cd (by rfl) (by rfl) P.out.2.1 P.out.2.2.2 P.out.2.2.1 hSz (by omega) ?_
      intro v1 w1 dW mv jm mq
      have aaz:=(jm.block g11 (cT P.out.1) (dJ P.out.2.1 P.out.1 (by decide))).trans P.out.1
      have oz:(bars (ts.take i)++t.bs).length=(bars (ts.take i)).length+nd:=by rw [List.length_append,P.out.2.2.2.1]
      have P1:=am (And.intro aaz (And.intro dW (And.intro mv oz)))
      clear aaz dW mv jm mq oz)
   | (at_builtin
      refine cz (w0:=w) S rfl (.tmp 49) (.tmp 50) 24 5 .u8 1 (by rfl) Tryz.underlying24 cF (by decide) v1 (bars (ts.take i)++t.bs) 124 (by rfl) (by rfl) P1.out.2.1 P1.out.2.2.1 (by have:=P1.out.2.2.1.size;omega) (by have:=P1.out.2.2.2;omega) ?_
      intro v2 w2 tq KQ rT afO
      have O6:=(rT.block g11 (cT P1.out.1) (dJ P1.out.2.1 P1.out.1 (by decide))).trans P1.out.1
      have c2:w2.cell? ⟨g11,2,none⟩=some tv:=by rw [ao O6];rfl
      have f2:w2.frozen? ⟨g11,2,none⟩=false:=ai O6 2
      obtain⟨g5,n5,Lu,rfl⟩:∃g5 n5 Lu,v2= .slice (some ⟨g5,0,none⟩) n5 Lu:=by
       rcases tq.2 with ⟨_,hz⟩|⟨g5,Lu,ahr,e5,_⟩
       ·simp at hz
       ·exact⟨g5,_,Lu,e5⟩
      have P2:=am (And.intro O6 (And.intro tq KQ))
      clear O6 tq KQ rT afO))
  have e:bars (ts.take (i+1))=bars (ts.take i)++t.bs++ [124]:=by rw [uU.out];simp [HKK.out]
  refine HK.out _ _ ⟨.slice (some ⟨g5,0,none⟩) n5 Lu,by kernel_rfl,rfl,rfl,rfl,rfl,rfl,by rw [e1];rfl,rfl,P2.out.2.2.setCell hg _,hSw,hg,by omega,cj P2.out.1 2 _,?_⟩
  rw [e]
  exact de P2.out.2.1 (dJ P2.out.2.1 P2.out.1 (by decide)) _
theorem Hn {S g11:Nat} {buf kv dv a6 a7 a20:Value} (h:RI S w buf ts g11 kv dv a6 a7 a20 ts.length l wr) (hn:ts.length≤100000000)
  (hQ:∀l',RI S w buf ts g11 kv dv a6 a7 a20 ts.length l' wr→Q (.exit 2) ⟨l'.toArray,[]⟩ wr):Code.wp Tryz.prog (bI [1,1,0,0,1,1,1,0,1,0,0] dr) (Exit.then K Q) ⟨l.toArray,[]⟩ wr:=by
 obtain⟨tv,hl,h6,h7,je,im,O3,O4,O5,hr⟩:=h
 obtain⟨f,hf,rfl⟩:=ns l hl
 rw [hf] at h6 h7 je im O3 O4 O5
 rw [h6,h7,je,im,O3,O4,O5]
 have HH:=am hr
 have HQ:=am hQ
 have qL:¬(ts.length:Int)<(ts.length:Int):=by omega
 clear hf hl h6 h7 je im O3 O4 O5 hr hQ
 conv=>arg 2;whnf
 go_wp2_with (fail)
 exact HQ.out _ ⟨tv,by kernel_rfl,rfl,rfl,rfl,rfl,rfl,rfl,rfl,HH.out⟩
theorem O7:bI [1,1,0,0,1,1,1,0,1] dr= .block 2 (.loop (bI [1,1,0,0,1,1,1,0,1,0,0] dr)):=by kernel_rfl
theorem Ho {S g11:Nat} {buf kv dv a6 a7 a20:Value} (h:RI S w buf ts g11 kv dv a6 a7 a20 0 l wr) (hT:Tb B w buf ts) (hS:S=w.heap.size) (hn:ts.length≤100000000) (hb:(bars ts).length≤100000000000)
  (hK:∀l' wx,RI S w buf ts g11 kv dv a6 a7 a20 ts.length l' wx→K ⟨l'.toArray,[]⟩ wx):Code.wp Tryz.prog (bI [1,1,0,0,1,1,1,0,1] dr) (Exit.then K Q) ⟨l.toArray,[]⟩ wr:=by
 rw [O7]
 refine wp_block ?_
 refine cZ 64 (fun g l' wx=>∃i,g=ts.length - i∧RI S w buf ts g11 kv dv a6 a7 a20 i l' wx) ts.length l (by obtain⟨_,hl,_⟩:=h;exact hl) ⟨0,rfl,h⟩ ?_
 rintro n l1 wx oz ⟨i,Wl,hr⟩ J hJ
 have uk:i≤ts.length:=by obtain⟨_,_,_,_,_,_,_,_,_,_,_,_,h,_⟩:=hr;exact h
 rcases Nat.lt_or_ge i ts.length with hi|hi
 ·exact Lt hr hT hS hi hn hb fun l' w' Wp =>hJ (ts.length - (i+1)) l' w' (by omega) (by obtain⟨_,hl,_⟩:=Wp;exact hl) ⟨i+1,rfl,Wp⟩
 ·have hie:i=ts.length:=by omega
  subst hie
  exact Hn hr hn fun l' Wp =>hK l' wx Wp
theorem Ps.pieces {w' :World} {row:Option Nat} (h:Ps B w0 c gp w p v ts fs ds) (hB0:B=w0.heap.size) (h0:0<B) (hg:w.grownBy w' row) (hr:∀k,row=some k→B≤k∧∃cs,w.heap[k]? =some (.cells cs 55 (0,0))):Ps B w0 c gp w' p v ts fs ds:=by
 have hb:∀(k:Nat) (cs:Array Value) (t:TypeId) (fr:Nat×Nat),w.heap[k]? =some (.cells cs t fr)→t≠55→w'.heap[k]? =some (.cells cs t fr):=by
  intro k cs t fr hk ht
  refine(hg.block k (cT hk) ?_).trans hk
  intro e
  obtain⟨_,Is,jF⟩:=hr k e.symm
  rw [hk] at jF
  injection jF with jF
  injection jF with _ jF
  exact ht jF
 have rD:∀k,k<B→w'.heap[k]? =w.heap[k]?:=by
  intro k hk
  refine hg.block k (by have:=h.hB;omega) ?_
  intro e
  have:=(hr k e.symm).1
  omega
 have oT:∀v xs,Rd w v xs→Rd w' v xs:=by
  rintro v xs ⟨A,n,cp,rfl,h1,h2,h3⟩
  refine⟨A,n,cp,rfl,h1,h2,fun hp=> ?_⟩
  obtain⟨g,o,cs,fr,e,hg,hc⟩:=h3 hp
  exact⟨g,o,cs,fr,e,hb _ _ _ _ hg (by decide),hc⟩
 obtain⟨cur,fr,O8⟩:=h.Ik
 have dc:=hb _ _ _ _ O8 (by decide)
 refine⟨⟨hb _ _ _ _ h.lx.lex (by decide),hb _ _ _ _ h.lx.uT (by decide),fun j hj=> ?_,?_,h.lx.nl,h.lx.nb,h.lx.ne,Kp.refl _ _,h.lx.dK,h.lx.ei,h.lx.dS,h.lx.ej,h.lx.ME,h.lx.ok⟩,hb _ _ _ _ h.par (by decide),⟨cur,fr,dc⟩,h.tb.xL (fun g cs hg=>hb _ _ _ _ hg (by decide)) oT,?_,oT _ _ h.Dy,?_,h.Bp,h.Bi⟩
 ·have:=h.lx.buf j hj
  unfold World.cell? at this⊢
  rw [O8] at this
  rw [dc]
  exact this
 ·have:=h.lx.eof
  unfold World.cell? at this⊢
  rw [show w'.heap[(⟨0,0,none⟩:Addr).block]? =w.heap[(⟨0,0,none⟩:Addr).block]? from rD 0 h0]
  exact this
 ·obtain⟨h1,h2⟩:=h.rS
  refine⟨h1,?_⟩
  rcases h2 with h2|⟨g,cap,T3,e,hB,rT,r⟩
  ·exact .inl h2
  ·exact .inr ⟨g,cap,T3,e,hB,hb _ _ _ _ rT (by decide),r⟩
 ·have hk:=h.kt
  refine⟨hg.os.trans hk.os,hg.tape.trans hk.tape,hg.output.trans hk.output,Nat.le_trans hk.size hg.size,fun k hkB=>(rD k hkB).trans (hk.low k hkB),fun k o ho _=> ?_⟩
  have hkB:k<B:=by rw [hB0];exact cT ho
  exact((rD k hkB).trans (hk.low k hkB)).trans ho
structure Pc where
 kind:ByteArray
 data:List Int
 text:List Int
def rX (B:Nat) (w:World) (v:Value) (ps:List Pc):Prop:=
 ∃vs:List Value,w.ownsRow B 55 6 v ps.length vs∧∀(i:Nat) (q:Pc),ps[i]? =some q→∃dv tv,vs[i*6]? =some (.string q.kind)∧vs[i*6+1]? =some dv∧vs[i*6+2]? =some tv∧vs[i*6+3]? =some (.slice none 0 0)∧vs[i*6+4]? =some (.slice none 0 0)∧vs[i*6+5]? =some (.string ⟨#[]⟩)∧Rd w dv q.data∧Rd w tv q.text
theorem UH {g11:Nat} {kv dv a7 a20:Value} (hl:l.length=64) (h6:l.getD 6 default= .pointer (some ⟨gp,0,none⟩)) (h7:l.getD 7 default=a7) (je:l.getD 20 default=a20) (im:l.getD 11 default= .pointer (some ⟨g11,0,none⟩))
  (hP:Ps B w0 c gp wr p v ts fs ds) {S:Nat} {wb:World} (oQ:Below S wb wr) (hS:S≤wb.heap.size) (hg:S≤g11) (hgc:wr.heap[g11]? =some (.cells #[kv,dv,.slice none 0 0,.slice none 0 0,.slice none 0 0,.string ⟨#[]⟩] 55 (0,0)))
  (hK:∀l',RI S wb v.buf ts g11 kv dv (.pointer (some ⟨gp,0,none⟩)) a7 a20 0 l' wr→K ⟨l'.toArray,[]⟩ wr):Code.wp Tryz.prog (bI [1,1,0,0,1,1,1,0,0] dr) (Exit.then K Q) ⟨l.toArray,[]⟩ wr:=by
 obtain⟨f,hf,rfl⟩:=ns l hl
 rw [hf] at h6 h7 je im
 rw [h6,h7,je,im]
 obtain⟨A,n,cap,gu,e1,e2⟩:=hP.tb.getD
 have HP:=am hP
 have HK:=am hK
 have HB:=am gu
 have HG:=am hgc
 have HE:=am e1
 clear hf hl h6 h7 je im hP hK gu hgc e1
 conv=>arg 2;whnf
 go_wp2_with (fail)
 refine(values HP.out).mono ?_
 rintro e w1 ⟨rfl,rfl⟩
 rw [HB.out]
 go_wp2_with (fail)
 refine HK.out _ ⟨_,by kernel_rfl,rfl,rfl,rfl,rfl,by rw [HB.out];rfl,by rw [HE.out];rfl,rfl,oQ,hS,hg,Nat.zero_le _,HG.out,?_⟩
 exact⟨rfl,.inl ⟨rfl,rfl⟩⟩
def Lv:ByteArray:=⟨#[100,101,99,108,97,114,97,116,105,111,110]⟩
theorem FV:(Tryz.prog.info? 55).map (fun i=>(i.zero,i.size,i.bytes))=some (some (.agg #[.string ⟨#[]⟩,.slice none 0 0,.slice none 0 0,.slice none 0 0,.slice none 0 0,.string ⟨#[]⟩]),6,128):=by kernel_rfl
theorem nt {S n:Nat} {tv:Value} (h:w.ownsRow S 5 1 tv n (bp .u8 xs)) (hn:xs.length=n) (hb:n≤1099511627776):Rd w tv xs:=by
 rcases h.2 with ⟨rfl,h0⟩|⟨g,cap,cur,rfl,CX,hh,YO,hm,yB,qZ⟩
 ·subst h0
  have:xs= []:=List.eq_nil_of_length_eq_zero hn
  subst this
  exact Rd.nil _
 ·refine⟨_,_,_,rfl,hn,hb,fun hp=>⟨g,0,cur,_,rfl,hh,fun j hj=> ?_⟩⟩
  have:(cur.toList.take n)[j]? =(bp .u8 xs)[j]?:=by
   have h2:cur.toList.take n=bp .u8 xs:=by simpa using qZ
   rw [h2]
  rw [List.getElem?_take,if_pos hj] at this
  rw [Nat.zero_add,←Array.getElem?_toList,this]
  have D8:j<xs.length:=by omega
  simp [bp,List.getD_eq_getElem?_getD,List.getElem?_eq_getElem D8]
theorem O9 {S g11:Nat} {buf dv a6 a7 a20:Value} {kb:ByteArray} {ps:List Pc} (h:RI S w buf ts g11 (.string kb) dv a6 a7 a20 ts.length l wr) (yd:Rd wr dv xs) (hP:rX B wr a7 ps) (hB:B≤wr.heap.size) (FQ:ps.length≤100000) (hb:(bars ts).length≤100000000000)
  (hK:∀(l' :List Value) (wx:World) (Pa :Value),l'.length=64→l'.getD 6 default=a6→l'.getD 20 default=a20→l'.getD 7 default=Pa →rX B wx Pa (ps++ [⟨kb,xs,bars ts⟩])→wr.grownBy wx a7.ownBlock→K ⟨l'.toArray,[]⟩ wx):
  Code.wp Tryz.prog (bI [1,1,0,0,1,1,1,1] dr) (Exit.then K Q) ⟨l.toArray,[]⟩ wr:=by
 obtain⟨tv,hl,h6,h7,je,im,O3,O4,O5,lX,hSw,hg,uk,bl,Wo⟩:=h
 obtain⟨f,hf,rfl⟩:=ns l hl
 rw [hf] at h6 h7 je im
 rw [h6,h7,je,im]
 rw [List.take_length] at Wo
 have OK:=nt Wo rfl (by omega)
 obtain⟨A,n,cp,rfl,-,-,-⟩:=id yd
 obtain⟨A2,n2,Fw,rfl,-,-,-⟩:=id OK
 obtain⟨vs,ho,hc⟩:=hP
 have HK:=am hK
 have P:=am (And.intro yd (And.intro OK (And.intro ho hc)))
 clear hf hl h6 h7 je im O3 O4 O5 hK yd OK ho hc lX Wo
 conv=>arg 2;whnf
 have c0:wr.cell? ⟨g11,0,none⟩=some (.string kb):=by rw [ao bl];rfl
 have c1:wr.cell? ⟨g11,1,none⟩=some (.slice A n cp):=by rw [ao bl];rfl
 have c2:wr.cell? ⟨g11,2,none⟩=some (.slice A2 n2 Fw):=by rw [ao bl];rfl
 have c3:wr.cell? ⟨g11,3,none⟩=some (.slice none 0 0):=by rw [ao bl];rfl
 have c4:wr.cell? ⟨g11,4,none⟩=some (.slice none 0 0):=by rw [ao bl];rfl
 have c5:wr.cell? ⟨g11,5,none⟩=some (.string ⟨#[]⟩):=by rw [ao bl];rfl
 have uo:∀u∈ [Value.string kb,.slice A n cp,.slice A2 n2 Fw,.slice none 0 0,.slice none 0 0,.string ⟨#[]⟩],u.oneCell' =true:=by intro u hu;simp at hu;rcases hu with rfl|rfl|rfl|rfl|rfl<;>rfl
 go_wp2_with (at_builtin;refine di (w0:=wr) B rfl (.tmp 54) (.tmp 56) 26 55 _ 6 128 (by rfl) Tryz.underlying26 FV rfl (by decide) (by decide) a7 ps.length vs [.string kb,.slice A n cp,.slice A2 n2 Fw,.slice none 0 0,.slice none 0 0,.string ⟨#[]⟩] (by rfl) (by simp [Act.eval]) rfl uo P.out.2.2.1 ((Below.refl _ _).mono hB) hB (by omega) ?_;intro v1 w1 dW mv jm mq;have P1:=am (And.intro dW jm);clear dW mv jm mq)
 obtain⟨yd,OK,ho,hc⟩:=P.out
 obtain⟨NY,jm⟩:=P1.out
 have nj:vs.length=ps.length*6:=ho.1
 have oT:∀v xs,Rd wr v xs→Rd w1 v xs:=by
  rintro v xs ⟨A,n,cp,rfl,h1,h2,h3⟩
  refine⟨A,n,cp,rfl,h1,h2,fun hp=> ?_⟩
  obtain⟨g,o,cs,fr,e,Bj,yO⟩:=h3 hp
  refine⟨g,o,cs,fr,e,(jm.block g (cT Bj) ?_).trans Bj,yO⟩
  intro he
  rcases ho.2 with ⟨rfl,_⟩|⟨g',cap,cur,rfl,_,hh,_⟩
  ·cases he
  ·injection he with he
   subst he
   rw [hh] at Bj
   injection Bj with Bj
   injection Bj with _ Bj
   cases Bj
 refine HK.out _ _ v1 (by kernel_rfl) rfl rfl rfl ⟨vs++ [.string kb,.slice A n cp,.slice A2 n2 Fw,.slice none 0 0,.slice none 0 0,.string ⟨#[]⟩],by simpa using NY,fun i q hq=> ?_⟩ jm
 have uk:=(List.getElem?_eq_some_iff.1 hq).1
 rw [List.length_append] at uk
 simp only [List.length_cons,List.length_nil] at uk
 rcases Nat.lt_or_ge i ps.length with hi|hi
 ·rw [List.getElem?_append_left hi] at hq
  obtain⟨dv,tv,d1,d2,d3,e3,e4,e5,d4,d5⟩:=hc i q hq
  exact⟨dv,tv,by rw [List.getElem?_append_left (by omega)];exact d1,by rw [List.getElem?_append_left (by omega)];exact d2,by rw [List.getElem?_append_left (by omega)];exact d3,by rw [List.getElem?_append_left (by omega)];exact e3,by rw [List.getElem?_append_left (by omega)];exact e4,by rw [List.getElem?_append_left (by omega)];exact e5,oT _ _ d4,oT _ _ d5⟩
 ·have hie:i=ps.length:=by omega
  subst hie
  rw [List.getElem?_append_right (by omega),Nat.sub_self] at hq
  simp at hq
  subst hq
  refine⟨.slice A n cp,.slice A2 n2 Fw,?_,?_,?_,?_,?_,?_,oT _ _ yd,oT _ _ OK⟩
  ·rw [List.getElem?_append_right (by omega),nj,Nat.sub_self];rfl
  ·rw [List.getElem?_append_right (by omega),nj,show ps.length*6+1 - ps.length*6=1 by omega];rfl
  ·rw [List.getElem?_append_right (by omega),nj,show ps.length*6+2 - ps.length*6=2 by omega];rfl
  ·rw [List.getElem?_append_right (by omega),nj,show ps.length*6+3 - ps.length*6=3 by omega];rfl
  ·rw [List.getElem?_append_right (by omega),nj,show ps.length*6+4 - ps.length*6=4 by omega];rfl
  ·rw [List.getElem?_append_right (by omega),nj,show ps.length*6+5 - ps.length*6=5 by omega];rfl
theorem UI {a7 a20:Value} {gt tt:Int} {R:Value→World→Prop} (hl:l.length=64) (h6:l.getD 6 default= .pointer (some ⟨gp,0,none⟩)) (h7:l.getD 7 default=a7) (je:l.getD 20 default=a20)
  (hc:Calls Tryz.prog 21 #[.pointer (some ⟨gp,0,none⟩)] wr fun e w' =>∃dv,e= .returned (.tuple #[.int .u32 gt,.int .u32 tt,dv])∧R dv w')
  (hK:∀(l' :List Value) (wx:World) (dv:Value),l'.length=64→l'.getD 6 default= .pointer (some ⟨gp,0,none⟩)→l'.getD 7 default=a7→l'.getD 20 default=a20→l'.getD 8 default= .int .u32 gt→l'.getD 10 default=dv→R dv wx→K ⟨l'.toArray,[]⟩ wx):
  Code.wp Tryz.prog (bI [1,1,0,0,0] dr) (Exit.then K Q) ⟨l.toArray,[]⟩ wr:=by
 obtain⟨f,hf,rfl⟩:=ns l hl
 rw [hf] at h6 h7 je
 rw [h6,h7,je]
 have HC:=am hc
 have HK:=am hK
 clear hf hl h6 h7 je hc hK
 conv=>arg 2;whnf
 go_wp2_with (fail)
 refine HC.out.mono ?_
 rintro e w1 ⟨dv,rfl,hr⟩
 have HR:=am hr
 clear hr
 go_wp2_with (fail)
 exact HK.out _ _ dv (by kernel_rfl) rfl rfl rfl rfl rfl HR.out
theorem Pd {a6 a7:Value} {i:Nat} (hl:l.length=64) (h6:l.getD 6 default=a6) (h7:l.getD 7 default=a7) (je:l.getD 20 default= .int .i64 i) (hi:i<100000)
  (hK:∀(l' :List Value),l'.length=64→l'.getD 6 default=a6→l'.getD 7 default=a7→l'.getD 20 default= .int .i64 ((i+1:Nat):Int)→K ⟨l'.toArray,[]⟩ wr):
  Code.wp Tryz.prog (bI [1,1,1] dr) (Exit.then K Q) ⟨l.toArray,[]⟩ wr:=by
 obtain⟨f,hf,rfl⟩:=ns l hl
 rw [hf] at h6 h7 je
 rw [h6,h7,je]
 have HK:=am hK
 clear hf hl h6 h7 je hK
 conv=>arg 2;whnf
 go_wp2_with (fail)
 exact HK.out _ (by kernel_rfl) rfl rfl rfl
theorem Ly {a6 a7:Value} {i:Nat} (hl:l.length=64) (h6:l.getD 6 default=a6) (h7:l.getD 7 default=a7) (je:l.getD 20 default= .int .i64 i) (hi:i<100000)
  (hK:∀(l' :List Value),l'.length=64→l'.getD 6 default=a6→l'.getD 7 default=a7→l'.getD 20 default= .int .i64 i→l'.getD 21 default= .bool true→K ⟨l'.toArray,[]⟩ wr):
  Code.wp Tryz.prog (bI [0] dr) (Exit.then K Q) ⟨l.toArray,[]⟩ wr:=by
 obtain⟨f,hf,rfl⟩:=ns l hl
 rw [hf] at h6 h7 je
 rw [h6,h7,je]
 have HK:=am hK
 have eh:(i:Int)<100000:=by omega
 clear hf hl h6 h7 je hK
 conv=>arg 2;whnf
 go_wp2_with (fail)
 exact HK.out _ (by kernel_rfl) rfl rfl rfl rfl
theorem Lz {a6 a7 a20 dv:Value} {gt:Int} (hl:l.length=64) (h6:l.getD 6 default=a6) (h7:l.getD 7 default=a7) (je:l.getD 20 default=a20) (h8:l.getD 8 default= .int .u32 gt) (dG:l.getD 10 default=dv)
  (hK:∀(l' :List Value),l'.length=64→l'.getD 6 default=a6→l'.getD 7 default=a7→l'.getD 20 default=a20→l'.getD 8 default= .int .u32 gt→l'.getD 10 default=dv→l'.getD 29 default= .bool (gt==0)→K ⟨l'.toArray,[]⟩ wr):
  Code.wp Tryz.prog (bI [1,1,0,0,1,0,0] dr) (Exit.then K Q) ⟨l.toArray,[]⟩ wr:=by
 obtain⟨f,hf,rfl⟩:=ns l hl
 rw [hf] at h6 h7 je h8 dG
 rw [h6,h7,je,h8,dG]
 have HK:=am hK
 clear hf hl h6 h7 je h8 dG hK
 conv=>arg 2;whnf
 go_wp2_with (fail)
 exact HK.out _ (by kernel_rfl) rfl rfl rfl rfl rfl rfl
theorem Q8:dr= .seq (bI [0] dr) (.seq (.cond (.tmp 21) .skip (.exit 0)) (.seq (.block 1 (.seq (bI [1,1,0,0,0] dr) (.seq (.seq (bI [1,1,0,0,1,0,0] dr) (.cond (.tmp 29) (.exit 0) .skip)) (.seq (bI [1,1,0,0,1,1,0] dr) (.seq (.seq (bI [1,1,0,0,1,1,1,0,0] dr) (bI [1,1,0,0,1,1,1,0,1] dr)) (bI [1,1,0,0,1,1,1,1] dr)))))) (bI [1,1,1] dr))):=by kernel_rfl
theorem Hp {a7:Value} {i:Nat} {tt:Int} {R:Value→World→Prop} (hl:l.length=64) (h6:l.getD 6 default= .pointer (some ⟨gp,0,none⟩)) (h7:l.getD 7 default=a7) (je:l.getD 20 default= .int .i64 i) (hi:i<100000)
  (hc:Calls Tryz.prog 21 #[.pointer (some ⟨gp,0,none⟩)] wr fun e w' =>∃dv,e= .returned (.tuple #[.int .u32 0,.int .u32 tt,dv])∧R dv w')
  (hQ:∀(l' :List Value) (wx:World) (dv:Value),l'.length=64→l'.getD 6 default= .pointer (some ⟨gp,0,none⟩)→l'.getD 7 default=a7→R dv wx→Q (.exit 0) ⟨l'.toArray,[]⟩ wx):
  Code.wp Tryz.prog dr (Exit.then K Q) ⟨l.toArray,[]⟩ wr:=by
 have ev:∀{l:List Value} {i:Nat} {v:Value},l.getD i default=v→l.length=64→i<64→(⟨l.toArray,[]⟩:Act).eval (.tmp i)=v:=by
  intro l i v h hl hi
  have e:(⟨l.toArray,[]⟩:Act).eval (.tmp i)=l.toArray.getD i undef:=rfl
  rw [e,←h]
  simp [List.getD_eq_getElem?_getD,Array.getD_eq_getD_getElem?,List.getElem?_eq_getElem (show i<l.length by omega)]
 rw [Q8]
 refine wp_seq_k fun K1 gv=> ?_
 refine Ly hl h6 h7 je hi fun l1 a1 a2 a3 a4 a5=>gv _ _ ?_
 refine wp_seq_k fun K2 ik=> ?_
 refine wp_cond_true (ev a5 a1 (by decide)) (wp_skip (ik _ _ ?_))
 refine wp_seq_k fun K3 jK=>wp_block ?_
 refine wp_seq_k fun K4 lW=> ?_
 refine UI a1 a2 a3 a4 hc fun l2 w2 dv b1 b2 b3 b4 b5 b6 hr=>lW _ _ ?_
 refine wp_seq_k fun K5 oU=>wp_seq_k fun K6 Hj=> ?_
 refine Lz b1 b2 b3 b4 b5 b6 fun l3 c1 c2 c3 c4 c5 c6 c7=>Hj _ _ ?_
 refine wp_cond_true (ev c7 c1 (by decide)) (wp_exit ?_)
 exact hQ l3 w2 dv c1 c2 c3 hr
theorem aaA {l:List Value} {i:Nat} {v:Value} (h:l.getD i default=v) (hl:l.length=64) (hi:i<64):(⟨l.toArray,[]⟩:Act).eval (.tmp i)=v:=by
 have e:(⟨l.toArray,[]⟩:Act).eval (.tmp i)=l.toArray.getD i undef:=rfl
 rw [e,←h]
 simp [List.getD_eq_getElem?_getD,Array.getD_eq_getD_getElem?,List.getElem?_eq_getElem (show i<l.length by omega)]
theorem rX.kt {w' :World} {a7:Value} {ps:List Pc} (h:rX B wr a7 ps) (k:Kt B wr w'):rX B w' a7 ps:=by
 obtain⟨vs,ho,hc⟩:=h
 refine⟨vs,⟨ho.1,?_⟩,fun i q hq=> ?_⟩
 ·rcases ho.2 with h2|⟨g,cap,cur,e,hB,hg,r⟩
  ·exact .inl h2
  ·exact .inr ⟨g,cap,cur,e,hB,k.QL _ _ hg rfl,r⟩
 ·obtain⟨dv,tv,d1,d2,d3,e3,e4,e5,d4,d5⟩:=hc i q hq
  exact⟨dv,tv,d1,d2,d3,e3,e4,e5,d4.kt k,d5.kt k⟩
theorem rX.below {w' :World} {a7:Value} {ps:List Pc} (h:rX B wr a7 ps) (k:Below wr.heap.size wr w'):rX B w' a7 ps:=by
 obtain⟨vs,ho,hc⟩:=h
 refine⟨vs,cX ho k,fun i q hq=> ?_⟩
 obtain⟨dv,tv,d1,d2,d3,e3,e4,e5,d4,d5⟩:=hc i q hq
 exact⟨dv,tv,d1,d2,d3,e3,e4,e5,d4.below k,d5.below k⟩
theorem rX.row {a7:Value} {ps:List Pc} (h:rX B wr a7 ps):∀k,a7.ownBlock=some k→B≤k∧∃cs,wr.heap[k]? =some (.cells cs 55 (0,0)):=by
 obtain⟨vs,ho,hc⟩:=h
 intro k hk
 rcases ho.2 with ⟨rfl,_⟩|⟨g,cap,cur,rfl,hB,hg,_⟩
 ·cases hk
 ·injection hk with hk
  subst hk
  exact⟨hB,cur,hg⟩
end Go.Proofs.YtlglijnaeaonpaaGreatDoor.Lx
end
