/- FnRules: a part of the proof (Ry). -/
import Derived.Test.YtlglijnaeaonpaaGreatDoorRx
import Derived.StillTailTactics
import Derived.Test.YtlglijnaeaonpaaGreatDoorRu
import Derived.Lib.SlBytesConst
import Derived.Deep.RegionHeld3
import Derived.Deep.RegionWith
section
set_option maxHeartbeats 8000000
set_option maxRecDepth 100000
set_option linter.unusedVariables false
set_option linter.unusedSimpArgs false
namespace Go.Proofs.YtlglijnaeaonpaaGreatDoor.Lx
open Go.RowKit Go.Proofs.YtlglijnaeaonpaaGreatDoorW.aC Go.Proofs.YtlglijnaeaonpaaGreatDoor.bG
def yr:ByteArray:=⟨#[105,109,112,111,114,116]⟩
def yt:ByteArray:=⟨#[99,104,97,114,115,101,116]⟩
def yu:ByteArray:=⟨#[110,97,109,101,115,112,97,99,101]⟩
def BD:ByteArray:=⟨#[109,101,100,105,97]⟩
def BE:ByteArray:=⟨#[115,117,112,112,111,114,116,115]⟩
def BF:ByteArray:=⟨#[100,111,99,117,109,101,110,116]⟩
theorem lZ (w:World):Calls Tryz.prog 35 #[] w fun e w' =>e= .returned (.slice (some ⟨w.heap.size,0,none⟩) 3 3)∧w' =w.alloc (.cells #[.string yr,.string yt,.string yu] 9):=by
 go_enter Tryz.func35,Tryz.ntmps35
 go_wp2
 go_ret
 exact⟨rfl,rfl⟩
theorem yv (w:World):Calls Tryz.prog 36 #[] w fun e w' =>e= .returned (.slice (some ⟨w.heap.size,0,none⟩) 3 3)∧w' =w.alloc (.cells #[.string BD,.string BE,.string BF] 9):=by
 go_enter Tryz.func36,Tryz.ntmps36
 go_wp2
 go_ret
 exact⟨rfl,rfl⟩
theorem str_inj {xs:List Int} (hb:∀j:Nat,0≤xs.getD j 0∧xs.getD j 0≤255) {us:List UInt8} (h:us=(strOfNums xs).toList):xs=us.map (fun u=>(u.toNat:Int)):=by
 rw [ByteArray.toList_eq,strOfNums_data] at h
 subst h
 have hx:∀x∈xs,0≤x∧x≤255:=by
  intro x hx
  obtain⟨i,hi,rfl⟩:=List.getElem_of_mem hx
  have:=hb i
  rwa [List.getD_eq_getElem?_getD,List.getElem?_eq_getElem hi] at this
 rw [List.map_map]
 have e:∀x∈xs,((fun u:UInt8=>(u.toNat:Int)) ∘ fun n:Int=>UInt8.ofNat n.toNat) x=id x:=by
  intro x h
  have:=hx x h
  show ((UInt8.ofNat x.toNat).toNat:Int)=x
  rw [UInt8.toNat_ofNat']
  omega
 rw [List.map_congr_left e,List.map_id]
theorem PN {xs:List Int} {s:ByteArray} (hb:∀j:Nat,0≤xs.getD j 0∧xs.getD j 0≤255) (hs:s=yr∨s=yt∨s=yu) (h:s.toList=(strOfNums xs).toList):xs∈fL:=by
 have e:=str_inj hb h
 rw [ByteArray.toList_eq] at e
 rcases hs with rfl|rfl|rfl
 ·exact e▸ .head _
 ·exact e▸ .tail _ (.head _)
 ·exact e▸ .tail _ (.tail _ (.head _))
theorem PO {xs:List Int} {s:ByteArray} (hb:∀j:Nat,0≤xs.getD j 0∧xs.getD j 0≤255) (hs:s=BD∨s=BE∨s=BF) (h:s.toList=(strOfNums xs).toList):xs∈jG:=by
 have e:=str_inj hb h
 rw [ByteArray.toList_eq] at e
 rcases hs with rfl|rfl|rfl
 ·exact e▸ .head _
 ·exact e▸ .tail _ (.head _)
 ·exact e▸ .tail _ (.tail _ (.head _))
def u5 (t s0 s1 s2:ByteArray):ByteArray:=if s0.toList==t.toList then s0 else if s1.toList==t.toList then s1 else if s2.toList==t.toList then s2 else ⟨#[]⟩
theorem yw (t s0 s1 s2:ByteArray):u5 t s0 s1 s2=⟨#[]⟩∨(u5 t s0 s1 s2=s0∨u5 t s0 s1 s2=s1∨u5 t s0 s1 s2=s2)∧(u5 t s0 s1 s2).toList=t.toList:=by
 unfold u5
 split
 ·rename_i h;exact .inr ⟨.inl rfl,eq_of_beq h⟩
 ·split
  ·rename_i h;exact .inr ⟨.inr (.inl rfl),eq_of_beq h⟩
  ·split
   ·rename_i h;exact .inr ⟨.inr (.inr rfl),eq_of_beq h⟩
   ·exact .inl rfl
theorem tW {w:World} {A:Option Addr} {c g:Nat} {xs:List Int} {s0 s1 s2:ByteArray} (h:VB w A c xs) (hg:w.heap[g]? =some (.cells #[.string s0,.string s1,.string s2] 9 (0,0))):
  Calls Tryz.prog 34 #[.slice A xs.length c,.slice (some ⟨g,0,none⟩) 3 3] w fun e w' =>e= .returned (.string (u5 (strOfNums xs) s0 s1 s2))∧w' =w:=by
 have c0:w.cell? ⟨g,0,none⟩=some (.string s0):=by rw [ao hg];rfl
 have c1:w.cell? ⟨g,1,none⟩=some (.string s1):=by rw [ao hg];rfl
 have c2:w.cell? ⟨g,2,none⟩=some (.string s2):=by rw [ao hg];rfl
 have hcv:=Kd.se (P:=Tryz.prog) (A:=A) (c:=c) Tryz.underlying24 Tryz.underlying5 Tryz.underlying9 h.rd
 clear h hg
 generalize strOfNums xs=t at*
 generalize xs.length=n at*
 obtain⟨b0,h0⟩:∃b,(s0.toList==t.toList)=b:=⟨_,rfl⟩
 obtain⟨b1,h1⟩:∃b,(s1.toList==t.toList)=b:=⟨_,rfl⟩
 obtain⟨b2,h2⟩:∃b,(s2.toList==t.toList)=b:=⟨_,rfl⟩
 obtain⟨s,hs⟩:∃s,u5 t s0 s1 s2=s:=⟨_,rfl⟩
 have HS:ak (s=if b0 then s0 else if b1 then s1 else if b2 then s2 else ⟨#[]⟩):=⟨by rw [←hs,←h0,←h1,←h2];rfl⟩
 rw [hs]
 clear hs
 go_enter Tryz.func34,Tryz.ntmps34
 go_wp2
 go_loopg [6,9] 3 (fun gk v6 v9 wr=>∃j:Nat,j≤3∧v9= .int .i64 j∧wr=w∧gk=3 - j∧ak ((0<j→b0=false)∧(1<j→b1=false)∧(2<j→b2=false)))
 case atStart=>exact⟨0,by omega,rfl,rfl,by omega,⟨by omega,by omega,by omega⟩⟩
 case round=>
  obtain⟨j,hj,rfl,hw,hgk,HB⟩:=hrel
  subst hw
  have jX:j=0∨j=1∨j=2∨j=3:=by omega
  rcases jX with rfl|rfl|rfl|rfl
  ·cases b0 with
   | true=>
    go_wp2
    go_ret
    exact⟨by rw [HS.out];rfl,rfl⟩
   | false=>
    go_wp2
    go_roundg 2
    case measure=>omega
    case rel=>exact⟨1,by omega,rfl,rfl,rfl,⟨by simp,by simp,by simp⟩⟩
  ·have e0:=HB.out.1 (by omega)
   subst e0
   cases b1 with
   | true=>
    go_wp2
    go_ret
    exact⟨by rw [HS.out];rfl,rfl⟩
   | false=>
    go_wp2
    go_roundg 1
    case measure=>omega
    case rel=>exact⟨2,by omega,rfl,rfl,rfl,⟨by simp,by simp,by simp⟩⟩
  ·have e0:=HB.out.1 (by omega)
   have e1:=HB.out.2.1 (by omega)
   subst e0;subst e1
   cases b2 with
   | true=>
    go_wp2
    go_ret
    exact⟨by rw [HS.out];rfl,rfl⟩
   | false=>
    go_wp2
    go_roundg 0
    case measure=>omega
    case rel=>exact⟨3,by omega,rfl,rfl,rfl,⟨by simp,by simp,by simp⟩⟩
  ·have e0:=HB.out.1 (by omega)
   have e1:=HB.out.2.1 (by omega)
   have e2:=HB.out.2.2 (by omega)
   subst e0;subst e1;subst e2
   go_wp2
   go_ret
   exact⟨by rw [HS.out];rfl,rfl⟩
def Wu:Nat→World→Option Addr→List PT→Prop
 | 0,_,_,_=>True
 | d+1,w,A,ps=>∀(j:Nat) (p:PT),ps[j]? =some p→∃ad A1 c1 A2 c2 A3 c3 A4 c4,A=some ad∧w.cell? (ad.add (j*5))=some (.string p.kind)∧
   w.cell? ⟨(ad.add (j*5)).block,(ad.add (j*5)).off+1,none⟩=some (.slice A1 p.name.length c1)∧w.cell? ⟨(ad.add (j*5)).block,(ad.add (j*5)).off+2,none⟩=some (.slice A2 p.words.length c2)∧
   w.cell? ⟨(ad.add (j*5)).block,(ad.add (j*5)).off+3,none⟩=some (.slice A3 p.decls.length c3)∧w.cell? ⟨(ad.add (j*5)).block,(ad.add (j*5)).off+4,none⟩=some (.slice A4 p.parts.length c4)∧
   VB w A1 c1 p.name∧VL w A2 c2 p.words∧DL w A3 c3 p.decls∧p.parts.length≤c4∧p.parts.length≤2147483647∧Wu d w A4 p.parts
theorem Wu.below {w w' :World}:∀{d:Nat} {A:Option Addr} {ps:List PT},Wu d w A ps→Below w.heap.size w w' →Wu d w' A ps:=by
 intro d
 induction d with
 | zero=>intro _ _ _ _;trivial
 | succ d ih=>
  intro A ps h hb j p hp
  obtain⟨ad,A1,c1,A2,c2,A3,c3,A4,c4,e,x0,x1,x2,x3,x4,k1,k2,k3,k4,k5,k6⟩:=h j p hp
  exact⟨ad,A1,c1,A2,c2,A3,c3,A4,c4,e,al hb x0,al hb x1,al hb x2,al hb x3,al hb x4,k1.below hb,k2.below hb,k3.below hb,k4,k5,ih k6 hb⟩
structure PL (d:Nat) (w:World) (A:Option Addr) (c:Nat) (ps:List PT):Prop where
 cap:ps.length≤c
 len:ps.length≤2147483647
 rd:Wu d w A ps
theorem PL.below {d:Nat} {w w' :World} {A:Option Addr} {c:Nat} {ps:List PT} (h:PL d w A c ps) (hb:Below w.heap.size w w'):PL d w' A c ps:=⟨h.cap,h.len,h.rd.below hb⟩
theorem PL.get {d:Nat} {w:World} {A:Option Addr} {c:Nat} {ps:List PT} (h:PL (d+1) w A c ps) {j:Int} (h0:0≤j) (h1:j<ps.length):
  ∃ad A1 c1 A2 c2 A3 c3 A4 c4 kind name words decls parts,A=some ad∧ps[j.toNat]? =some (.mk kind name words decls parts)∧w.cell? (ad.add (j.toNat*5))=some (.string kind)∧
   w.cell? ⟨(ad.add (j.toNat*5)).block,(ad.add (j.toNat*5)).off+1,none⟩=some (.slice A1 name.length c1)∧w.cell? ⟨(ad.add (j.toNat*5)).block,(ad.add (j.toNat*5)).off+2,none⟩=some (.slice A2 words.length c2)∧
   w.cell? ⟨(ad.add (j.toNat*5)).block,(ad.add (j.toNat*5)).off+3,none⟩=some (.slice A3 decls.length c3)∧w.cell? ⟨(ad.add (j.toNat*5)).block,(ad.add (j.toNat*5)).off+4,none⟩=some (.slice A4 parts.length c4)∧
   VB w A1 c1 name∧VL w A2 c2 words∧DL w A3 c3 decls∧PL d w A4 c4 parts:=by
 have hl:j.toNat<ps.length:=by omega
 obtain⟨ad,A1,c1,A2,c2,A3,c3,A4,c4,e,x0,x1,x2,x3,x4,k1,k2,k3,k4,k5,k6⟩:=h.rd j.toNat _ (List.getElem?_eq_getElem hl)
 have hp:ps[j.toNat]? =some ps[j.toNat]:=List.getElem?_eq_getElem hl
 generalize ps[j.toNat]=p at*
 obtain⟨kind,name,words,decls,parts⟩:=p
 exact⟨ad,A1,c1,A2,c2,A3,c3,A4,c4,kind,name,words,decls,parts,e,hp,x0,x1,x2,x3,x4,k1,k2,k3,⟨k4,k5,k6⟩⟩
def H9:List Int:=[46,62,43,126,61,42]
theorem yH.agj {xs:List Int} {qs:List (ByteArray×List Int)} {i:Int} {o:Bool} (h:yH xs qs i o):∀q∈qs,0<q.2.length:=by
 induction h with
 | nil=>intro p hp;cases hp
 | snoc ps i kind i' o' h h0 h1 hk ih=>
  intro p hp
  rw [List.mem_append] at hp
  rcases hp with hp|hp
  ·exact ih p hp
  ·simp at hp
   subst hp
   have:=hk.2.1
   show 0<(mid xs i i').length
   rw [lP h0 (by omega) h1]
   omega
theorem abl (j:Nat):0≤H9.getD j 0∧H9.getD j 0≤255:=by
 have hj:j=0∨j=1∨j=2∨j=3∨j=4∨j=5∨6≤j:=by omega
 rcases hj with rfl|rfl|rfl|rfl|rfl|rfl|hj
 all_goals first|decide|(rw [List.getD_eq_getElem?_getD,List.getElem?_eq_none (by simpa [H9] using hj)];decide)
theorem Vm (y:Int):∃b,(∀(W:World) (g:Nat) (fr:Nat×Nat),W.heap[g]? =some (.cells (bp .u8 H9).toArray 5 fr)→Calls Tryz.prog 53 #[.slice (some ⟨g,0,none⟩) 6 6,.int .u8 y] W fun e w' =>e= .returned (.bool b)∧Below W.heap.size W w')∧(b=true→ja y):=by
 obtain⟨b,hb,dc⟩:=vO H9 y (by decide)
 refine⟨b,fun W g fr hg=> ?_,fun h=> ?_⟩
 ·have hr:Rd W (.slice (some ⟨g,0,none⟩) H9.length H9.length) H9:=
   ⟨_,_,_,rfl,rfl,by decide,fun _=>⟨g,0,_,_,rfl,hg,fun j hj=>by simp [bp,List.getD_eq_getElem?_getD,List.getElem?_eq_getElem hj]⟩⟩
  have hl:H9.length=6:=rfl
  have hv:VB W (some ⟨g,0,none⟩) H9.length H9:=⟨Nat.le_refl _,(LF hr).2,abl,by decide⟩
  rw [←hl]
  have key:=oS hv hb
  exact key
 ·obtain⟨m,hm,he⟩:=dc.1 h
  have hj:m=0∨m=1∨m=2∨m=3∨m=4∨m=5:=by simp [H9] at hm;omega
  unfold ja
  rcases hj with rfl|rfl|rfl|rfl|rfl|rfl<;>simp [H9] at he<;>omega
theorem PQ {w:World} {A:Option Addr} {t:List Int} (h:Kd.C (Kd.int .u8) w A t.length t) (hp:0<t.length):∃ad:Addr,A=some ad∧w.cell? ad=some (.int .u8 (t.getD 0 0)):=by
 obtain⟨ad,e,hc⟩:=h.2.2 hp
 obtain⟨cs,h1,h2,h3⟩:=hc 0 (t.getD 0 0) (by rw [List.getD_eq_getElem?_getD,List.getElem?_eq_getElem hp];rfl)
 refine⟨ad,e,?_⟩
 have h4:cs= [.int .u8 (t.getD 0 0)]:=h2
 subst h4
 have h5:=h3 0 _ rfl
 rw [show 0*(Kd.int .u8).sz+0=0 from rfl] at h5
 simpa [Addr.add] using h5
theorem tX {w:World} {A:Option Addr} {c:Nat} {xs:List Int} (h:VB w A c xs) (hT:fU w):
  Calls Tryz.prog 33 #[.slice A xs.length c] w (B6 w (Py xs)):=by
 have Wj:=h.len
 have key:Calls Tryz.prog 51 #[.slice A xs.length c,.string yl] w fun e w' =>(e= .returned (.bool false)∧Below w.heap.size w w')∨(e= .returned (.bool true)∧Below w.heap.size w w' ∧ak (∃qs,Vw yl xs qs)):=
  (oB yl (by decide) h hT).mono fun e w' ⟨r,he,hb,hr⟩=>by
   cases r with
   | false=>exact .inl ⟨he,hb⟩
   | true=>exact .inr ⟨he,hb,⟨hr rfl⟩⟩
 unfold yl at key
 have OG:=am key
 have HV:=am h
 have HT:=am hT
 clear key h hT
 go_enter Tryz.func33,Tryz.ntmps33
 go_wp2_with (first
  | (go_at_call 51;(with_reducible refine(OG.out).mono ?_);rintro e w1 (⟨rfl,eW⟩|⟨rfl,eW,HS⟩)<;>have pa:=am eW<;>clear eW)
  | (go_at_call 49;(with_reducible refine(tokens (AU HV.out.tx) HV.out pa.out (HT.out.below pa.out)).mono ?_);rintro e w2 ⟨A5,c5,ps,ok,rfl,⟨q1,-⟩,q2,q3,q4,q5,q6⟩;have HQ:=am (And.intro (pa.out.trans (q4.mono pa.out.size)) (And.intro q3 (And.intro q5 q6)));clear q3 q4 q5 q6))
 ·go_ret
  exact⟨false,rfl,pa.out,fun h=>by cases h⟩
 have hC:Kd.C BW w2 A5 ps.length ps:=KP HQ.out.2.1 HQ.out.1
 have hE:ps=(fK xs).map rB∧0<xs.length∧∀p∈ps,0<p.f1.length:=by
  obtain⟨qs,hv⟩:=HS.out
  have e:=(HQ.out.2.2.2.2 hv.n0 hv.nb).1
  refine⟨e,hv.pos,fun p hp=> ?_⟩
  rw [e] at hp
  obtain⟨q,hq,rfl⟩:=List.mem_map.1 hp
  have:q∈qs:=by rw [hv.eq];exact hq
  exact hv.tk.agj q this
 have HC:=am (And.intro hC hE)
 clear hC hE
 go_loopg [5,17] (ps.length+1) (fun gk v5 v17 wr=>∃j:Int,v17= .int .i64 j∧0≤j∧j≤ps.length∧ak (Below w2.heap.size w2 wr∧∀m:Nat,(m:Int)<j→∀p,ps[m]? =some p→p.f0=oO→ja (p.f1.getD 0 0))∧gk=((ps.length:Int) - j).toNat+1)
 case atStart=>exact⟨0,rfl,by omega,by omega,⟨Below.refl _ _,fun m hm=>by omega⟩,by omega⟩
 case round=>
  obtain⟨j,rfl,h0,h1,HR,rfl⟩:=hrel
  by_cases hj:j<ps.length
  ·obtain⟨p,hp⟩:∃p,ps[j.toNat]? =some p:=⟨_,List.getElem?_eq_getElem (by omega)⟩
   have oT:av ps j=p:=by unfold av;rw [List.getD_eq_getElem?_getD,hp];rfl
   obtain⟨ad,A1,c1,A2,c2,A3,c3,A4,c4,e4,x0,x1,x2,x3,x4,x5,l1,g1,-⟩:=Ch HC.out.1 j h0 hj
   cases e4
   rw [oT] at x0 x1 x2 x3 x4 x5 g1
   replace x0:=al HR.out.1 x0
   replace x1:=al HR.out.1 x1
   replace x2:=al HR.out.1 x2
   replace x3:=al HR.out.1 x3
   replace x4:=al HR.out.1 x4
   replace x5:=al HR.out.1 x5
   have OS:=HC.out.2.2.2 p (List.mem_of_getElem? hp)
   obtain⟨PR,rfl,y0⟩:=PQ g1 OS
   replace y0:=al (au HR.out.1 (.cells #[.string p.f0,.slice (some PR) p.f1.length c1,.slice A2 p.f2.length c2,.slice A3 p.f3.length c3,.slice A4 p.f4.length c4,.string p.f5] 55)) y0
   have B7:=eq_true h0
   have hpz:(0:Int)<(p.f1.length:Int):=by omega
   have HA:ak (Below w2.heap.size w2 (wr.alloc (.cells #[.string p.f0,.slice (some PR) p.f1.length c1,.slice A2 p.f2.length c2,.slice A3 p.f3.length c3,.slice A4 p.f4.length c4,.string p.f5] 55))):=⟨au HR.out.1 _⟩
   have HP:=am hp
   obtain⟨y,hy⟩:∃y,p.f1.getD 0 0=y:=⟨_,rfl⟩
   rw [hy] at y0
   have HY:=am hy
   obtain⟨bd,hbd⟩:∃b,(p.f0.toList==([100,101,108,105,109]:List UInt8))=b:=⟨_,rfl⟩
   obtain⟨bc,hbc⟩:∃b,(p.f0.toList==([58]:List UInt8))=b:=⟨_,rfl⟩
   have HBD:=am hbd
   obtain⟨bh,ZW,As⟩:=Vm y
   have hD:∀(W:World) (g:Nat),W.heap[g]? =some (.cells #[.int .u8 46,.int .u8 62,.int .u8 43,.int .u8 126,.int .u8 61,.int .u8 42] 5 (6,7))→Calls Tryz.prog 53 #[.slice (some ⟨g,0,none⟩) 6 6,.int .u8 y] W fun e w' =>e= .returned (.bool bh)∧Below W.heap.size W w':=fun W g h=>ZW W g (6,7) h
   have kc:(convert 24 24 (.slice (some ⟨wr.heap.size+1,0,none⟩) 6 6)).run Tryz.prog ((wr.alloc (.cells #[.string p.f0,.slice (some PR) p.f1.length c1,.slice A2 p.f2.length c2,.slice A3 p.f3.length c3,.slice A4 p.f4.length c4,.string p.f5] 55)).alloc (.cells #[.int .u8 46,.int .u8 62,.int .u8 43,.int .u8 126,.int .u8 61,.int .u8 42] 5))= .ok (.slice (some ⟨wr.heap.size+1,0,none⟩) 6 6) ((wr.alloc (.cells #[.string p.f0,.slice (some PR) p.f1.length c1,.slice A2 p.f2.length c2,.slice A3 p.f3.length c3,.slice A4 p.f4.length c4,.string p.f5] 55)).alloc (.cells #[.int .u8 46,.int .u8 62,.int .u8 43,.int .u8 126,.int .u8 61,.int .u8 42] 5 (6,7))):=by
    have e:=Lib.run_convert_bytes_const (P:=Tryz.prog) (wr.alloc (.cells #[.string p.f0,.slice (some PR) p.f1.length c1,.slice A2 p.f2.length c2,.slice A3 p.f3.length c3,.slice A4 p.f4.length c4,.string p.f5] 55)) 24 5 #[.int .u8 46,.int .u8 62,.int .u8 43,.int .u8 126,.int .u8 61,.int .u8 42] 6 6 Tryz.underlying24 Tryz.underlying5
    rw [show (wr.alloc (.cells #[.string p.f0,.slice (some PR) p.f1.length c1,.slice A2 p.f2.length c2,.slice A3 p.f3.length c3,.slice A4 p.f4.length c4,.string p.f5] 55)).heap.size=wr.heap.size+1 by simp] at e
    exact e
   have y1:((wr.alloc (.cells #[.string p.f0,.slice (some PR) p.f1.length c1,.slice A2 p.f2.length c2,.slice A3 p.f3.length c3,.slice A4 p.f4.length c4,.string p.f5] 55)).alloc (.cells #[.int .u8 46,.int .u8 62,.int .u8 43,.int .u8 126,.int .u8 61,.int .u8 42] 5 (6,7))).cell? PR=some (.int .u8 y):=al (au (Below.refl _ _) _) y0
   have K0:ak (((wr.alloc (.cells #[.string p.f0,.slice (some PR) p.f1.length c1,.slice A2 p.f2.length c2,.slice A3 p.f3.length c3,.slice A4 p.f4.length c4,.string p.f5] 55)).alloc (.cells #[.int .u8 46,.int .u8 62,.int .u8 43,.int .u8 126,.int .u8 61,.int .u8 42] 5 (6,7))).cell? ⟨wr.heap.size,0,none⟩=some (.string p.f0)):=⟨al (au (Below.refl _ _) _) (by rw [ao (heap_alloc_new wr _)];rfl)⟩
   have HD:=am (And.intro hD As)
   clear hp oT l1 g1 OS hy hD ZW As
   have Vn:ak (∀W,Below w2.heap.size w2 W→(bd=true→bh=true)→Below w2.heap.size w2 W∧∀m:Nat,(m:Int)<j+1→∀p,ps[m]? =some p→p.f0=oO→ja (p.f1.getD 0 0)):=by
    refine⟨fun W hb hbb=>⟨hb,fun m hm q hq hk=> ?_⟩⟩
    rcases Int.lt_or_le (m:Int) j with h|h
    ·exact HR.out.2 m h q hq hk
    ·obtain rfl:m=j.toNat:=by omega
     rw [HP.out] at hq
     injection hq with hq
     subst hq
     rw [HY.out]
     refine HD.out.2 (hbb ?_)
     rw [←HBD.out,hk]
     kernel_rfl
   cases bd with
   | true=>
    have ahy:(p.f0.toList==([58]:List UInt8))=false:=by rw [eq_of_beq hbd];decide
    clear hbc
    cases bh with
    | true=>
     go_wp2_with (first
      | (go_at_call 53;(with_reducible refine(HD.out.1 _ _ (heap_alloc2_new _ _ _)).mono ?_);rintro e w5 ⟨rfl,jT⟩;have oC:=am ((au HA.out _).trans (jT.mono (by have:=(au HA.out (.cells #[.int .u8 46,.int .u8 62,.int .u8 43,.int .u8 126,.int .u8 61,.int .u8 42] 5 (6,7))).size;omega)));have z0:=al jT K0.out;clear jT))
     go_roundg (((ps.length:Int) - (j+1)).toNat+1)
     case measure=>omega
     case rel=>exact⟨j+1,rfl,by omega,by omega,⟨Vn.out _ oC.out (by simp)⟩,rfl⟩
    | false=>
     go_wp2_with (first
      | (go_at_call 53;(with_reducible refine(HD.out.1 _ _ (heap_alloc2_new _ _ _)).mono ?_);rintro e w5 ⟨rfl,jT⟩;have oC:=am ((au HA.out _).trans (jT.mono (by have:=(au HA.out (.cells #[.int .u8 46,.int .u8 62,.int .u8 43,.int .u8 126,.int .u8 61,.int .u8 42] 5 (6,7))).size;omega)));clear jT))
     go_ret
     exact⟨false,rfl,HQ.out.1.trans (oC.out.mono HQ.out.1.size),fun h=>by cases h⟩
   | false=>
    cases bc with
    | false=>
     go_wp2
     go_roundg (((ps.length:Int) - (j+1)).toNat+1)
     case measure=>omega
     case rel=>exact⟨j+1,rfl,by omega,by omega,⟨Vn.out _ HA.out (fun h=>by cases h)⟩,rfl⟩
    | true=>
     by_cases pb:j=0
     ·have hjz:(j==0)=true:=by simpa using pb
      clear pb
      go_wp2
      go_ret
      exact⟨false,rfl,HQ.out.1.trans (HA.out.mono HQ.out.1.size),fun h=>by cases h⟩
     ·have hjz:(j==0)=false:=by simpa using pb
      clear pb
      go_wp2
      go_roundg (((ps.length:Int) - (j+1)).toNat+1)
      case measure=>omega
      case rel=>exact⟨j+1,rfl,by omega,by omega,⟨Vn.out _ HA.out (fun h=>by cases h)⟩,rfl⟩
  ·have rC:j=ps.length:=by omega
   subst rC
   have uV:=am (HQ.out.1.trans (HR.out.1.mono HQ.out.1.size))
   obtain⟨Z0,hA,hc⟩:=(HV.out.below uV.out).cells HC.out.2.2.1
   subst hA
   obtain⟨y,hy⟩:∃y,xs.getD 0 0=y:=⟨_,rfl⟩
   have y0:wr.cell? Z0=some (.int .u8 y):=by
    have:=hc 0 HC.out.2.2.1
    rw [hy] at this
    simpa [Addr.add] using this
   have hxz:(0:Int)<(xs.length:Int):=by have:=HC.out.2.2.1;omega
   have hS:Py xs:=by
    refine⟨HS.out,fun q hq hk=> ?_⟩
    have hm:rB q∈ps:=by rw [HC.out.2.1];exact List.mem_map.2 ⟨q,hq,rfl⟩
    obtain⟨m,hm,e⟩:=List.getElem_of_mem hm
    have:=HR.out.2 m (by omega) (rB q) (by rw [List.getElem?_eq_getElem hm,e]) hk
    exact this
   have HSL:=am hS
   obtain⟨bs,fY⟩:∃b,decide (Sn y)=b:=⟨_,rfl⟩
   have Iq:=am fY
   obtain⟨b1,eW⟩:∃b,(y==46)=b:=⟨_,rfl⟩
   obtain⟨b2,dc⟩:∃b,(y==91)=b:=⟨_,rfl⟩
   obtain⟨b3,kX⟩:∃b,(y==35)=b:=⟨_,rfl⟩
   obtain⟨b4,F4⟩:∃b,decide ((ps.length:Int)>1)=b:=⟨_,rfl⟩
   clear hc hy hS fY hj h0 h1
   cases bs with
   | true=>
    clear eW dc kX F4
    go_wp2_with (first
     | (go_at_call 32;(with_reducible refine(il true Iq.out).mono ?_);rintro e w6 ⟨rfl,gw⟩;have qg:=am (uV.out.trans (gw.mono uV.out.size));clear gw))
    go_ret
    exact⟨true,rfl,qg.out,fun _=>HSL.out⟩
   | false=>
    cases b4 with
    | false=>
     clear eW dc
     go_wp2_with (first
      | (go_at_call 32;(with_reducible refine(il false Iq.out).mono ?_);rintro e w6 ⟨rfl,gw⟩;have qg:=am (uV.out.trans (gw.mono uV.out.size));replace y0:=al gw y0;clear gw))
     go_ret
     exact⟨_,rfl,qg.out,fun _=>HSL.out⟩
    | true=>
     cases b1 with
     | true=>
      clear dc kX
      go_wp2_with (first
       | (go_at_call 32;(with_reducible refine(il false Iq.out).mono ?_);rintro e w6 ⟨rfl,gw⟩;have qg:=am (uV.out.trans (gw.mono uV.out.size));replace y0:=al gw y0;clear gw))
      go_ret
      exact⟨_,rfl,qg.out,fun _=>HSL.out⟩
     | false=>
      cases b2 with
      | true=>
       clear kX
       go_wp2_with (first
        | (go_at_call 32;(with_reducible refine(il false Iq.out).mono ?_);rintro e w6 ⟨rfl,gw⟩;have qg:=am (uV.out.trans (gw.mono uV.out.size));replace y0:=al gw y0;clear gw))
       go_ret
       exact⟨_,rfl,qg.out,fun _=>HSL.out⟩
      | false=>
       go_wp2_with (first
        | (go_at_call 32;(with_reducible refine(il false Iq.out).mono ?_);rintro e w6 ⟨rfl,gw⟩;have qg:=am (uV.out.trans (gw.mono uV.out.size));replace y0:=al gw y0;clear gw))
       go_ret
       exact⟨_,rfl,qg.out,fun _=>HSL.out⟩
theorem yx {a b:ByteArray} (h:(a.toList==b.toList)=true):a=b:=by
 have e:=eq_of_beq h
 rw [ByteArray.toList_eq,ByteArray.toList_eq] at e
 exact Go.WideShapes.bytes_inj e
def Bx (W:World) (g:Nat) (kind:ByteArray) (v1 v2 v3 v4:Value):Prop:=W.cell? ⟨g,0,none⟩=some (.string kind)∧W.cell? ⟨g,1,none⟩=some v1∧W.cell? ⟨g,2,none⟩=some v2∧W.cell? ⟨g,3,none⟩=some v3∧W.cell? ⟨g,4,none⟩=some v4
theorem Bx.below {W W' :World} {g:Nat} {kind:ByteArray} {v1 v2 v3 v4:Value} (h:Bx W g kind v1 v2 v3 v4) (hb:Below W.heap.size W W'):Bx W' g kind v1 v2 v3 v4:=
 ⟨al hb h.1,al hb h.2.1,al hb h.2.2.1,al hb h.2.2.2.1,al hb h.2.2.2.2⟩
theorem Bx.new (w:World) (kind:ByteArray) (v1 v2 v3 v4:Value):Bx (w.alloc (.cells #[.string kind,v1,v2,v3,v4] 38)) w.heap.size kind v1 v2 v3 v4:=by
 have h:=heap_alloc_new w (.cells #[.string kind,v1,v2,v3,v4] 38)
 exact⟨by rw [ao h];rfl,by rw [ao h];rfl,by rw [ao h];rfl,by rw [ao h];rfl,by rw [ao h];rfl⟩
theorem Ia {d:Nat} {w:World} {A1 A2 A3 A4:Option Addr} {c1 c2 c3 c4:Nat} {name:List Int} {words:List (List Int)} {decls:List gx} {parts:List PT} (k1:VB w A1 c1 name) (wi:words.length≤2147483647) (hl3:decls.length≤2147483647) (We:parts.length≤2147483647):
  Calls Tryz.prog 15 #[.agg #[.string ⟨#[97,116]⟩,.slice A1 name.length c1,.slice A2 words.length c2,.slice A3 decls.length c3,.slice A4 parts.length c4],.int .i64 d] w (B6 w (name∈fL∧words≠ []∧decls= []∧parts= [])):=by
 have dR:=am k1
 obtain⟨s,hs⟩:∃s,u5 (strOfNums name) yr yt yu=s:=⟨_,rfl⟩
 have HM:ak (s≠⟨#[]⟩→name∈fL):=⟨fun hb=>by
  rcases yw (strOfNums name) yr yt yu with h|⟨h,he⟩
  ·exact absurd (hs.symm.trans h) hb
  ·exact PN k1.oj h he⟩
 have Zn:s=⟨#[]⟩∨s=⟨#[105,109,112,111,114,116]⟩∨s=⟨#[99,104,97,114,115,101,116]⟩∨s=⟨#[110,97,109,101,115,112,97,99,101]⟩:=by
  rcases yw (strOfNums name) yr yt yu with h|⟨h|h|h,he⟩
  ·exact .inl (hs.symm.trans h)
  ·exact .inr (.inl (hs.symm.trans h))
  ·exact .inr (.inr (.inl (hs.symm.trans h)))
  ·exact .inr (.inr (.inr (hs.symm.trans h)))
 have HW:ak (0<words.length→words≠ []):=⟨fun h e=>by rw [e] at h;exact absurd h (by decide)⟩
 have HZ:ak ((IntKind.i64.wrap ((decls.length:Int)+(parts.length:Int))==0)=true→decls= []∧parts= []):=⟨fun h=>by
  have e:=eq_of_beq h
  rw [IntWalk.i64_in _ (by omega)] at e
  exact⟨List.length_eq_zero_iff.1 (by omega),List.length_eq_zero_iff.1 (by omega)⟩⟩
 generalize JR:words.length=n2 at*
 generalize hn3:decls.length=n3 at*
 generalize hn4:parts.length=n4 at*
 have L8:=am (Bx.new w ⟨#[97,116]⟩ (.slice A1 name.length c1) (.slice A2 n2 c2) (.slice A3 n3 c3) (.slice A4 n4 c4))
 have HA:=am (au (Below.refl w.heap.size w) (.cells #[.string ⟨#[97,116]⟩,.slice A1 name.length c1,.slice A2 n2 c2,.slice A3 n3 c3,.slice A4 n4 c4] 38))
 have HA2:ak (Below w.heap.size w ((w.alloc (.cells #[.string ⟨#[97,116]⟩,.slice A1 name.length c1,.slice A2 n2 c2,.slice A3 n3 c3,.slice A4 n4 c4] 38)).alloc (.cells #[.string yr,.string yt,.string yu] 9)).drew):=⟨bn (au HA.out _) 1⟩
 have abm:ak (Bx ((w.alloc (.cells #[.string ⟨#[97,116]⟩,.slice A1 name.length c1,.slice A2 n2 c2,.slice A3 n3 c3,.slice A4 n4 c4] 38)).alloc (.cells #[.string yr,.string yt,.string yu] 9)).drew w.heap.size ⟨#[97,116]⟩ (.slice A1 name.length c1) (.slice A2 n2 c2) (.slice A3 n3 c3) (.slice A4 n4 c4)):=⟨L8.out.below (bn (au (Below.refl _ _) _) 1)⟩
 have HG:ak (((w.alloc (.cells #[.string ⟨#[97,116]⟩,.slice A1 name.length c1,.slice A2 n2 c2,.slice A3 n3 c3,.slice A4 n4 c4] 38)).alloc (.cells #[.string yr,.string yt,.string yu] 9)).drew.heap[w.heap.size+1]? =some (.cells #[.string yr,.string yt,.string yu] 9 (0,0))):=⟨heap_alloc2_new w _ _⟩
 obtain⟨x0,x1,x2,x3,x4⟩:=L8.out
 obtain⟨z0,z1,z2,z3,z4⟩:=abm.out
 have hC:Calls Tryz.prog 34 #[.slice A1 name.length c1,.slice (some ⟨w.heap.size+1,0,none⟩) 3 3] _ _:=tW (dR.out.below HA2.out) HG.out
 rw [hs] at hC
 have HC:=am hC
 clear hC hs k1 JR hn3 hn4 L8 abm
 clear Zn
 have YQ:ak (s.toList.isEmpty=false→name∈fL):=⟨fun h=>HM.out (fun e=>by rw [e,ByteArray.toList_eq] at h;simp at h)⟩
 obtain⟨eb,abn⟩:∃b,s.toList.isEmpty=b:=⟨_,rfl⟩
 have heb:(!s.toList.isEmpty)= !eb:=by rw [abn]
 cases eb with
 | true=>
  go_enter Tryz.func15,Tryz.ntmps15
  go_wp2_with (fail)
  first
   | (go_region_with (first
    | (go_at_call 35;(with_reducible refine(lZ _).mono ?_);rintro e w5 ⟨rfl,rfl⟩)
    | (go_at_call 34;(with_reducible refine HC.out.mono ?_);rintro e w6 ⟨rfl,rfl⟩)))
   | fail
  all_goals go_wp2_with (fail)
  all_goals go_ret
  all_goals exact⟨false,rfl,HA2.out,fun h=>by cases h⟩
 | false=>
  rcases n2 with _|k
  ·go_enter Tryz.func15,Tryz.ntmps15
   go_wp2_with (fail)
   first
    | (go_region_with (first
     | (go_at_call 35;(with_reducible refine(lZ _).mono ?_);rintro e w5 ⟨rfl,rfl⟩)
     | (go_at_call 34;(with_reducible refine HC.out.mono ?_);rintro e w6 ⟨rfl,rfl⟩)))
    | fail
   all_goals go_wp2_with (fail)
   all_goals go_ret
   all_goals exact⟨false,rfl,HA2.out,fun h=>by cases h⟩
  ·go_enter Tryz.func15,Tryz.ntmps15
   go_wp2_with (fail)
   go_region_held3 (fun w' =>w'.cell? ⟨w.heap.size,1,none⟩=some (.slice A1 name.length c1)∧w'.cell? ⟨w.heap.size,2,none⟩=some (.slice A2 (k+1) c2)∧w'.cell? ⟨w.heap.size,3,none⟩=some (.slice A3 n3 c3)∧w'.cell? ⟨w.heap.size,4,none⟩=some (.slice A4 n4 c4)) (first|exact⟨x1,x2,x3,x4⟩|exact⟨z1,z2,z3,z4⟩|go_keep) (first
    | (go_at_call 35;(with_reducible refine(lZ _).mono ?_);rintro e w5 ⟨rfl,rfl⟩)
    | (go_at_call 34;(with_reducible refine HC.out.mono ?_);rintro e w6 ⟨rfl,rfl⟩))
   go_wp2_with (fail)
   go_ret
   exact⟨_,rfl,HA2.out,fun h=>⟨YQ.out abn,HW.out (by omega),HZ.out h⟩⟩
end Go.Proofs.YtlglijnaeaonpaaGreatDoor.Lx
end
