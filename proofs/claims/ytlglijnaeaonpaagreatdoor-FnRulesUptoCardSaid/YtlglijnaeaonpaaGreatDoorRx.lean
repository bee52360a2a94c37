/- FnRules: a part of the proof (Rx). -/
import Derived.Test.YtlglijnaeaonpaaGreatDoorRu
import Derived.Test.YtlglijnaeaonpaaGreatDoorRv
import Derived.StillTailTactics
import Derived.Lib.SlBytesConst
import Derived.Deep.LoopGhost
import Derived.Deep.DeepCutAuto
import Derived.ArgAppend
import Derived.Test.YtlglijnaeaonpaaGreatDoorRt
import Derived.Test.YtlglijnaeaonpaaGreatDoorRw
import Derived.Deep.RegionHeld3
section
set_option maxHeartbeats 8000000
set_option maxRecDepth 100000
set_option linter.unusedVariables false
set_option linter.unusedSimpArgs false
namespace Go.Proofs.YtlglijnaeaonpaaGreatDoor.Lx
open Go.RowKit Go.Proofs.YtlglijnaeaonpaaGreatDoorW.aC Go.Proofs.YtlglijnaeaonpaaGreatDoor.bG
def yl:ByteArray:=⟨#[32,105,100,101,110,116,32,104,97,115,104,32,100,101,108,105,109,32,58,32,91,32,93,32,115,116,114,105,110,103,32,124,61,32,94,61,32,36,61,32,42,61,32,126,61,32,102,117,110,99,116,105,111,110,32,40,32,41,32]⟩
def Bv (t:Int):Prop:=(t==21)=false∧(t==22)=false∧(t==3)=false∧(t==32)=false∧(t==34)=false∧(t==0)=false∧(t==31)=false
instance:DecidablePred Bv:=fun t=>by unfold Bv;infer_instance
def ClK (k:ByteArray) (t:Int):Prop:=((lT k∧(t=28∨t=2))∨(k.data.toList= [91]∧t=26)∨((k.data.toList= [41]∧t=29)∨(k.data.toList= [93]∧t=27))∨(¬lT k∧k.data.toList≠ [91]∧k.data.toList≠ [41]∧k.data.toList≠ [93]∧rM t))∧t≠20∧t≠32∧Bv t
theorem U3 {x:List Int} {i i' :Int} {k:ByteArray} (h:GQ x i k i') (hs:mw yl.data.toList ([32]++k.data.toList++ [32])=true) (hd:k=oO→ja (at_ x i)):∃t,ClK k t∧Tok (x++ [0]) i t i':=by
 have no:∀{k:ByteArray} {P:Prop},mw yl.data.toList ([32]++k.data.toList++ [32])=false→mw yl.data.toList ([32]++k.data.toList++ [32])=true→P:=by
  intro k P h1 h2;rw [h1] at h2;cases h2
 have ot:∀{k:ByteArray} {t:Int},¬lT k→k.data.toList≠ [91]→k.data.toList≠ [41]→k.data.toList≠ [93]→rM t→t≠20→t≠32→Bv t→ClK k t:=fun h1 h2 h3 h4 h5 h6 h7 h8=>⟨.inr (.inr (.inr ⟨h1,h2,h3,h4,h5⟩)),h6,h7,h8⟩
 rcases h with ⟨t,hk,ht⟩|h|⟨rfl,rfl,ht⟩
 ·refine⟨t,?_,ht⟩
  clear ht hd
  cases hk with
  | fn=>exact⟨.inl ⟨by decide,.inr rfl⟩,by decide,by decide,by decide⟩
  | lp=>exact⟨.inl ⟨by decide,.inl rfl⟩,by decide,by decide,by decide⟩
  | lb=>exact⟨.inr (.inl ⟨rfl,rfl⟩),by decide,by decide,by decide⟩
  | rp=>exact⟨.inr (.inr (.inl (.inl ⟨rfl,rfl⟩))),by decide,by decide,by decide⟩
  | rb=>exact⟨.inr (.inr (.inl (.inr ⟨rfl,rfl⟩))),by decide,by decide,by decide⟩
  | ident=>exact ot (by decide) (by decide) (by decide) (by decide) (by unfold rM;decide) (by decide) (by decide) (by decide)
  | hash=>exact ot (by decide) (by decide) (by decide) (by decide) (by unfold rM;decide) (by decide) (by decide) (by decide)
  | str=>exact ot (by decide) (by decide) (by decide) (by decide) (by unfold rM;decide) (by decide) (by decide) (by decide)
  | colon=>exact ot (by decide) (by decide) (by decide) (by decide) (by unfold rM;decide) (by decide) (by decide) (by decide)
  | m1=>exact ot (by decide) (by decide) (by decide) (by decide) (by unfold rM;decide) (by decide) (by decide) (by decide)
  | m2=>exact ot (by decide) (by decide) (by decide) (by decide) (by unfold rM;decide) (by decide) (by decide) (by decide)
  | m3=>exact ot (by decide) (by decide) (by decide) (by decide) (by unfold rM;decide) (by decide) (by decide) (by decide)
  | m4=>exact ot (by decide) (by decide) (by decide) (by decide) (by unfold rM;decide) (by decide) (by decide) (by decide)
  | m5=>exact ot (by decide) (by decide) (by decide) (by decide) (by unfold rM;decide) (by decide) (by decide) (by decide)
  | url=>exact no (by kernel_rfl) hs
  | num=>exact no (by kernel_rfl) hs
  | pct=>exact no (by kernel_rfl) hs
  | dim=>exact no (by kernel_rfl) hs
  | comma=>exact no (by kernel_rfl) hs
  | at_=>exact no (by kernel_rfl) hs
  | lc=>exact no (by kernel_rfl) hs
  | rc=>exact no (by kernel_rfl) hs
  | sV=>exact no (by kernel_rfl) hs
 ·cases h with
  | blank=>exact no (by kernel_rfl) hs
  | com=>exact no (by kernel_rfl) hs
  | ran=>exact no (by kernel_rfl) hs
  | cdc=>exact no (by kernel_rfl) hs
  | cdo=>exact no (by kernel_rfl) hs
  | col=>exact no (by kernel_rfl) hs
 ·exact⟨9,ot (by decide) (by decide) (by decide) (by decide) (by unfold rM;decide) (by decide) (by decide) (by decide),ht (hd rfl)⟩
inductive TG (xs:List Int):Int→List (ByteArray×List Int)→Prop where
 | nil:TG xs xs.length []
 | cons {i i' t:Int} {kind:ByteArray} {r:List (ByteArray×List Int)} (h0:0≤i) (h1:i<i') (h2:i' ≤xs.length) (hk:ClK kind t) (ht:Tok (xs++ [0]) i t i') (hr:TG xs i' r):TG xs i ((kind,mid xs i i')::r)
theorem TG.head {xs:List Int} {i:Int} {qs:List (ByteArray×List Int)} (h:TG xs i qs) (jJ:qs≠ []):∃i' t kind,ClK kind t∧Tok (xs++ [0]) i t i':=by
 cases h with
 | nil=>exact absurd rfl jJ
 | cons h0 h1 h2 hk ht hr=>exact⟨_,_,_,hk,ht⟩
theorem Px {x:List Int} {i i' :Int} (h0:0≤i) (h1:i<i') (h2:i' ≤x.length):(mid x i i').getD 0 0=at_ x i:=by
 rw [pL h0 (by omega) h2]
 have:=nc (bs:=x++ [0]) (s:=i) (p:=i') h0 0 (by omega)
 rw [this,aY]
 simp
theorem yH.tg {xs:List Int} {ps:List (ByteArray×List Int)} {i:Int} {o:Bool} (h:yH xs ps i o) (hn:N0 xs) (hb:Nb xs):o=false→(∀q∈ps,mw yl.data.toList ([32]++q.1.data.toList++ [32])=true∧(q.1=oO→ja (q.2.getD 0 0)))→∀r,TG xs i r→TG xs 0 (ps++r):=by
 induction h with
 | nil=>intro _ _ r hr;exact hr
 | snoc ps i kind i' o' h h0 h1 kV ih=>
  intro ho hk r hr
  have hq:=hk (kind,mid xs i i') (by simp)
  obtain⟨t,hkc,ht⟩:=U3 (kV.2.2 hb hn ho) hq.1 (fun e=>by have:=hq.2 e;rwa [Px h0 kV.2.1 h1] at this)
  rw [List.append_assoc]
  exact ih rfl (fun q hq=>hk q (by simp [hq])) _ (.cons h0 kV.2.1 h1 hkc ht hr)
theorem DV {x bs:List Int} {o q:Int} (hI:mu x bs o) {qs:List (ByteArray×List Int)} {i:Int} (h:TG x i qs):∀st,xZ st (qs.map (·.1))→∀r,eJ bs q 0 (o+x.length) r→
  ∃ts:List Tk,ts.map Tk.bs=qs.map (·.2)∧(∀t∈ts,t.tt≠20∧Bv t.tt)∧eJ bs q st.length (o+i) (ts.map (fun t=>(t,false))++r):=by
 induction h with
 | nil=>
  intro st hl r hr
  have:=hl.GG
  subst this
  exact⟨[],rfl,(fun t ht=>by cases ht),hr⟩
 | @cons i i' t kind r0 h0 h1 h2 hk ht hr ih=>
  intro st hl r hR
  have jN:=ht.shift hI h0 hk.2.1
  have cW:eo bs (o+i) t (o+i') (mid x i i') false:=
   ⟨hk.2.1,hk.2.2.1,.inl ⟨rfl,.inl ⟨jN.1,by rw [pL h0 (by omega) h2,jf hI h0 (by omega) h2]⟩⟩⟩
  have fin:∀(jD :List ByteArray),xZ jD (r0.map (·.1))→(∀rs,eJ bs q jD.length (o+i') rs→eJ bs q st.length (o+i) ((⟨t,mid x i i'⟩,false)::rs))→∃ts:List Tk,ts.map Tk.bs=((kind,mid x i i')::r0).map (·.2)∧(∀t∈ts,t.tt≠20∧Bv t.tt)∧eJ bs q st.length (o+i) (ts.map (fun t=>(t,false))++r):=by
   intro jD Ir hc
   obtain⟨ts,e1,e2,e3⟩:=ih jD Ir r hR
   refine⟨⟨t,mid x i i'⟩::ts,by simp [e1],?_,hc _ e3⟩
   intro z hz
   rcases List.mem_cons.1 hz with rfl|hz
   ·exact⟨hk.2.1,hk.2.2.2⟩
   ·exact e2 z hz
  simp only [List.map_cons] at hl
  rcases hk.1 with ⟨rh,vJ⟩|⟨QW,rfl⟩|kx|⟨n1,n2,n3,n4,ho⟩
  ·have hO:Ih t:=by unfold Ih;omega
   cases hl with
   | par _ _ _ _ h=>exact fin _ h fun rs Hr=> .V6 _ _ _ _ _ _ cW hO (by simpa using Hr)
   | QU _ _ _ jF _=>exfalso;unfold lT at rh;rw [jF] at rh;simp at rh
   | cls _ _ _ _ jF _=>exfalso;unfold lT at rh;rcases jF with e|e<;>rw [e] at rh<;>simp at rh
   | uP _ _ _ QH _ _ _ _=>exact absurd rh QH
  ·have hO:Ih 26:=by unfold Ih;omega
   cases hl with
   | par _ _ _ jF _=>exfalso;unfold lT at jF;rw [QW] at jF;simp at jF
   | QU _ _ _ _ h=>exact fin _ h fun rs Hr=> .V6 _ _ _ _ _ _ cW hO (by simpa using Hr)
   | cls _ _ _ _ jF _=>exfalso;rw [QW] at jF;simp at jF
   | uP _ _ _ _ h2' _ _ _=>exact absurd QW h2'
  ·have hC:NX t:=by unfold NX;rcases kx with ⟨_,e⟩|⟨_,e⟩<;>simp [e]
   cases hl with
   | par _ _ _ jF _=>exfalso;unfold lT at jF;rcases kx with ⟨e,_⟩|⟨e,_⟩<;>rw [e] at jF <;>simp at jF
   | QU _ _ _ jF _=>exfalso;rcases kx with ⟨e,_⟩|⟨e,_⟩<;>rw [e] at jF <;>simp at jF
   | cls jD c _ _ _ h=>
    refine fin _ h fun rs Hr=> ?_
    rw [List.length_append]
    exact .cls _ _ _ _ _ _ cW hC Hr
   | uP _ _ _ _ _ h3 h4 _=>
    rcases kx with ⟨e,_⟩|⟨e,_⟩
    ·exact absurd e h3
    ·exact absurd e h4
  ·cases hl with
   | par _ _ _ jF _=>exact absurd jF n1
   | QU _ _ _ jF _=>exact absurd jF n2
   | cls _ _ _ _ jF _=>rcases jF with e|e;exact absurd e n3;exact absurd e n4
   | uP _ _ _ _ _ _ _ h=>exact fin _ h fun rs Hr=> .uP _ _ _ _ _ _ cW ho Hr
structure Py (x:List Int):Prop where
 vw:∃qs,Vw yl x qs
 dl:∀q∈fK x,q.1=oO→ja (q.2.getD 0 0)
theorem LL {bs pre g x suf:List Int} {t:Int} (fY:bs=pre++g++x++t::suf) (hx:Py x) (hg:∀b∈g,Ws b) (ht:dk t):
  ∃rs:List (Tk×Bool),rs≠ []∧rs.map (·.1.bs)=(fK x).map (·.2)∧(∀z∈rs,z.1.tt≠20∧Bv z.1.tt)∧eJ bs ((pre.length:Int)+g.length+x.length) 0 pre.length rs:=by
 subst fY
 obtain⟨qs,hv⟩:=hx.vw
 have hI:mu x (pre++g++x++t::suf) ((pre.length:Int)+g.length):=by
  have:=ye (pre:=pre++g) (x:=x) (suf:=suf) ht
  rw [List.length_append] at this
  rwa [show ((pre.length+g.length:Nat):Int)=(pre.length:Int)+g.length by omega] at this
 have ng:=hv.tk.tg hv.n0 hv.nb rfl (fun q hq=>⟨hv.ks q hq,hx.dl q (hv.eq▸hq)⟩) [] .nil
 rw [List.append_nil] at ng
 obtain⟨ts,e1,e2,e3⟩:=DV hI ng [] hv.cl [] .done
 rw [←hv.eq]
 rw [Int.add_zero,List.append_nil] at e3
 have jJ:ts≠ []:=by
  intro e
  subst e
  have:=hv.ne
  cases qs with
  | nil=>exact this rfl
  | cons a b=>simp at e1
 cases vR :g with
 | nil=>
  subst vR
  refine⟨ts.map (fun t=>(t,false)),by simpa using jJ,by simp [←e1],fun z hz=> ?_,by simpa using e3⟩
  obtain⟨y,hy,rfl⟩:=List.mem_map.1 hz
  exact e2 y hy
 | cons b0 g0=>
  cases ts with
  | nil=>exact absurd rfl jJ
  | cons t0 bN =>
   have afZ:g≠ []:=by rw [vR];simp
   have DN:¬Ws (at_ (pre++g++x++t::suf) ((pre.length:Int)+g.length)):=by
    have hp:=hv.pos
    have:=hI.eq 0 (by omega) (by omega)
    rw [Int.add_zero] at this
    rw [this,←aY]
    obtain⟨i',t',kind,hk,Il⟩:=ng.head hv.ne
    exact Il.nws hk.2.1
   have hw:=yf (pre:=pre) (g:=g) (suf:=x++t::suf) hg afZ
   have bZ:=rY (pre:=pre) (g:=g) (suf:=x++t::suf) hg (by simpa [List.append_assoc] using DN)
   rw [←List.append_assoc] at hw bZ
   rw [←vR]
   simp only [List.map_cons] at e3
   refine⟨(t0,true)::bN.map (fun t=>(t,false)),by simp,by simp [←e1],fun z hz=> ?_,e3.Wq hw bZ⟩
   rcases List.mem_cons.1 hz with rfl|hz
   ·exact e2 _ (List.mem_cons_self ..)
   ·obtain⟨y,hy,rfl⟩:=List.mem_map.1 hz
    exact e2 y (List.mem_cons_of_mem _ hy)
def uZ:ByteArray:=⟨#[97,116]⟩
def Bw:ByteArray:=⟨#[98,101,103,105,110,32,97,116]⟩
def tO:ByteArray:=⟨#[101,110,100,32,97,116]⟩
def ym:ByteArray:=⟨#[98,101,103,105,110]⟩
def p8:ByteArray:=⟨#[101,110,100]⟩
inductive PT where
 | mk (kind:ByteArray) (name:List Int) (words:List (List Int)) (decls:List gx) (parts:List PT):PT
def PT.kind:PT→ByteArray | .mk k _ _ _ _=>k
def PT.name:PT→List Int | .mk _ n _ _ _=>n
def PT.words:PT→List (List Int) | .mk _ _ w _ _=>w
def PT.decls:PT→List gx | .mk _ _ _ d _=>d
def PT.parts:PT→List PT | .mk _ _ _ _ p=>p
def tP:ByteArray:=⟨#[114,117,108,101]⟩
def LM:ByteArray:=⟨#[98,108,111,99,107]⟩
def fL:List (List Int):=[[105,109,112,111,114,116],[99,104,97,114,115,101,116],[110,97,109,101,115,112,97,99,101]]
def jG:List (List Int):=[[109,101,100,105,97],[115,117,112,112,111,114,116,115],[100,111,99,117,109,101,110,116]]
inductive qi:Nat→PT→Prop where
 | p9 (d:Nat) (name:List Int) (decls:List gx) (hs:Py name) (ht:Tx name) (hl:decls.length≤10) (hd:∀x∈decls,Bo x):qi d (.mk tP name [] decls [])
 | yK (d:Nat) (name:List Int) (words:List (List Int)) (hn:name∈fL) (hw:words≠ []) (hv:MG words) (hx:∀x∈words,Tx x):qi d (.mk uZ name words [] [])
 | eC (d:Nat) (name:List Int) (words:List (List Int)) (parts:List PT) (hn:name∈jG) (hw:words≠ []) (hv:MG words) (hx:∀x∈words,Tx x) (hl:parts.length≤10) (hp:∀x∈parts,qi d x):qi (d+1) (.mk LM name words [] parts)
def ptB (st:Int) (inner:List Int) (p:PT):List Int:=
 if p.kind=tP then p.name++bw st++ [123]++bw st++dh st p.decls++bw st++ [125]
 else if p.kind=uZ then [64]++p.name++aX p.words++ [59]
 else [64]++p.name++aX p.words++bw st++ [123]++bw st++inner++bw st++ [125]
def pf (st:Int):Nat→PT→List Int
 | 0,p=>ptB st [] p
 | d+1,p=>ptB st (p.parts.flatMap (fun x=>pf st d x++bw st)) p
def iT (st:Int) (d:Nat) (l:List PT):List Int:=l.flatMap (fun x=>pf st d x++bw st)
noncomputable def ptQ (inner:List Pc) (p:PT):List Pc:=
 if p.kind=tP then ⟨ym,[],dE ((fK p.name).map (·.2))⟩::(p.decls.map iS++ [⟨p8,[],[]⟩])
 else if p.kind=uZ then [⟨uZ,64::p.name,dE (cI p.words)⟩]
 else ⟨Bw,64::p.name,dE (cI p.words)⟩::(inner++ [⟨tO,[],[]⟩])
noncomputable def q7:Nat→PT→List Pc
 | 0,p=>ptQ [] p
 | d+1,p=>ptQ (p.parts.flatMap (q7 d)) p
noncomputable def jH (d:Nat) (l:List PT):List Pc:=l.flatMap (q7 d)
end Go.Proofs.YtlglijnaeaonpaaGreatDoor.Lx
end
section
set_option maxHeartbeats 8000000
set_option maxRecDepth 100000
set_option linter.unusedVariables false
set_option linter.unusedSimpArgs false
namespace Go.Proofs.YtlglijnaeaonpaaGreatDoor.Lx
open Go.RowKit Go.Proofs.YtlglijnaeaonpaaGreatDoorW.aC
variable {w0 w wr:World} {c:lQ} {p:Int} {B:Nat} {gp:Nat} {v:PV} {ts:List Tk} {fs:List Nat} {ds:List Int} {k q:Int} {xs:List Int} {gt:Int} {R:World→Prop} {f:Nat}
structure U4 (k:Int):Prop where
 a:(k==21)=false
 b:(k==22)=false
 c:(k==3)=false
 d:(k==32)=false
 e:(k==34)=false
 f:(k==0)=false
 g:(k==31)=false
theorem U5 (h:Ps B w0 c gp w p v ts fs ds) (hk:U4 v.tt) (hc:Calls Tryz.prog 62 #[.pointer (some ⟨gp,0,none⟩)] w fun e w' =>e= .returned (.int .u32 gt)∧R w'):
  Calls Tryz.prog 39 #[.pointer (some ⟨gp,0,none⟩)] w fun e w' =>e= .returned (.int .u32 gt)∧R w':=by
 have c7:=h.c7
 obtain⟨k1,k2,k3,k4,k5,k6,k7⟩:=hk
 generalize v.tt=k at*
 have HC:=am hc
 clear h hc
 go_enter Tryz.func39,Tryz.ntmps39
 go_wp2_with (first|(go_at_call 62;(with_reducible refine HC.out.mono ?_);rintro e w1 ⟨rfl,hr⟩;have HR:=am hr;clear hr))
 go_ret
 exact⟨rfl,HR.out⟩
theorem U6 (h:Ps B w0 c gp w p v ts fs ds) (hk:v.tt=3) (hc:Calls Tryz.prog 54 #[.pointer (some ⟨gp,0,none⟩)] w fun e w' =>e= .returned (.int .u32 gt)∧R w'):
  Calls Tryz.prog 39 #[.pointer (some ⟨gp,0,none⟩)] w fun e w' =>e= .returned (.int .u32 gt)∧R w':=by
 have c7:=h.c7
 rw [hk] at c7
 have HC:=am hc
 clear h hc hk
 go_enter Tryz.func39,Tryz.ntmps39
 go_wp2_with (first|(go_at_call 54;(with_reducible refine HC.out.mono ?_);rintro e w1 ⟨rfl,hr⟩;have HR:=am hr;clear hr))
 go_ret
 exact⟨rfl,HR.out⟩
theorem U7 (h:Ps B w0 c gp w p v ts fs ds) (hk:v.tt=0):
  Calls Tryz.prog 39 #[.pointer (some ⟨gp,0,none⟩)] w fun e w' =>e= .returned (.int .u32 0)∧w=w':=by
 have c7:=h.c7
 rw [hk] at c7
 clear h hk
 go_enter Tryz.func39,Tryz.ntmps39
 go_wp2_with (fail)
 go_ret
 exact⟨rfl,rfl⟩
theorem aaQ (h:Ps B w0 c gp w p v ts fs ds) (hk:U4 v.tt) (hc:Calls Tryz.prog 62 #[.pointer (some ⟨gp,0,none⟩)] w fun e w' =>e= .returned (.int .u32 gt)∧R w'):
  Calls Tryz.prog 75 #[.pointer (some ⟨gp,0,none⟩)] w fun e w' =>e= .returned (.int .u32 gt)∧R w':=by
 have c7:=h.c7
 obtain⟨k1,k2,k3,k4,k5,k6,k7⟩:=hk
 generalize v.tt=k at*
 have HC:=am hc
 clear h hc
 go_enter Tryz.func75,Tryz.ntmps75
 go_wp2_with (first|(go_at_call 62;(with_reducible refine HC.out.mono ?_);rintro e w1 ⟨rfl,hr⟩;have HR:=am hr;clear hr))
 go_ret
 exact⟨rfl,HR.out⟩
theorem aaR (h:Ps B w0 c gp w p v ts fs ds) (hk:v.tt=3) (hc:Calls Tryz.prog 54 #[.pointer (some ⟨gp,0,none⟩)] w fun e w' =>e= .returned (.int .u32 gt)∧R w'):
  Calls Tryz.prog 75 #[.pointer (some ⟨gp,0,none⟩)] w fun e w' =>e= .returned (.int .u32 gt)∧R w':=by
 have c7:=h.c7
 rw [hk] at c7
 have HC:=am hc
 clear h hc hk
 go_enter Tryz.func75,Tryz.ntmps75
 go_wp2_with (first|(go_at_call 54;(with_reducible refine HC.out.mono ?_);rintro e w1 ⟨rfl,hr⟩;have HR:=am hr;clear hr))
 go_ret
 exact⟨rfl,HR.out⟩
theorem yJ.refl (B:Nat) (w:World):yJ B w w:=⟨rfl,rfl,rfl,Nat.le_refl _,fun _ _=>rfl,fun _ _ _ _ h _=>h,fun _ _ h _=>h⟩
theorem Ps.F5 (h:Ps B w0 c gp w p v ts (fs++ [f]) ds) (h0:0<B) {g cap:Nat} (e:v.st= .slice (some ⟨g,0,none⟩) (fs.length+1) cap):
  Pk B w0 c gp w (w.setCell ⟨gp,1,none⟩ (.slice (some ⟨g,0,none⟩) fs.length cap)) p {v with st:=.slice (some ⟨g,0,none⟩) fs.length cap} ts fs ds:=
 h.yh h0 (yJ.refl B w) (Pn h e)
theorem aaS (h:Ps B w0 c gp w p v ts (fs++ [f]) ds) (h0:0<B) (hk:v.tt=31) (jE:fs.length≤1000):
  Calls Tryz.prog 75 #[.pointer (some ⟨gp,0,none⟩)] w fun e w' =>e= .returned (.int .u32 4)∧∃v',(v'.err=v.err∧v'.kw=v.kw∧v'.pe=v.pe∧v'.lvl=v.lvl∧v'.tt=v.tt)∧Pk B w0 c gp w w' p v' ts fs ds:=by
 have c7:=h.c7
 have c1:=h.c1
 have f1:=h.f 1
 rw [hk] at c7
 obtain⟨g,cap,fT,lS,yS,-⟩:=qN h
 have hP:=h.F5 h0 fT
 rw [fT] at c1
 obtain⟨n,hn⟩:∃n:Nat,n=fs.length:=⟨_,rfl⟩
 obtain⟨m,hm⟩:∃m:Nat,m=fs.length+1:=⟨_,rfl⟩
 rw [←hm] at c1
 rw [←hn] at hP
 have hwz:IntKind.i64.wrap ((m:Int) - 1)=(n:Int):=by rw [IntWalk.i64_in _ (by omega)];omega
 have pb:(0:Int)≤(n:Int):=by omega
 have pJ:(n:Int)≤(cap:Int):=by omega
 have Oi:n≤cap:=by omega
 have HP:=am hP
 have HT:=am hk
 clear h fT hP hk hm hn lS jE
 go_enter Tryz.func75,Tryz.ntmps75
 go_wp2_with (fail)
 go_still_tail 14,(by kernel_rfl)
 have c1d:w.drew.cell? ⟨gp,1,none⟩=some (.slice (some ⟨g,0,none⟩) m cap):=c1
 have f1d:w.drew.frozen? ⟨gp,1,none⟩=false:=f1
 change wpList _ _ _ _ _ w.drew
 go_wp2_with (fail)
 go_ret
 refine⟨rfl,{v with st:=.slice (some ⟨g,0,none⟩) n cap},⟨rfl,rfl,rfl,rfl,rfl⟩,HP.out.1.drew,HP.out.2.drew⟩
theorem RD (h:Ps B w0 c gp w p v ts (fs++ [f]) ds) (h0:0<B) (hk:v.tt=31) (jE:fs.length≤1000):
  Calls Tryz.prog 79 #[.pointer (some ⟨gp,0,none⟩)] w fun e w' =>e= .returned (.int .u32 7)∧∃v',(v'.err=v.err∧v'.kw=v.kw∧v'.pe=v.pe∧v'.lvl=v.lvl∧v'.tt=v.tt)∧Pk B w0 c gp w w' p v' ts fs ds:=by
 have c7:=h.c7
 have c1:=h.c1
 have f1:=h.f 1
 rw [hk] at c7
 obtain⟨g,cap,fT,lS,yS,-⟩:=qN h
 have hP:=h.F5 h0 fT
 rw [fT] at c1
 obtain⟨n,hn⟩:∃n:Nat,n=fs.length:=⟨_,rfl⟩
 obtain⟨m,hm⟩:∃m:Nat,m=fs.length+1:=⟨_,rfl⟩
 rw [←hm] at c1
 rw [←hn] at hP
 have hwz:IntKind.i64.wrap ((m:Int) - 1)=(n:Int):=by rw [IntWalk.i64_in _ (by omega)];omega
 have pb:(0:Int)≤(n:Int):=by omega
 have pJ:(n:Int)≤(cap:Int):=by omega
 have Oi:n≤cap:=by omega
 have HP:=am hP
 have HT:=am hk
 clear h fT hP hk hm hn lS jE
 go_enter Tryz.func79,Tryz.ntmps79
 go_wp2_with (fail)
 go_loopg [] 0 (fun k wr=>wr=w)
 case atStart=>rfl
 case round=>
 subst hrel
 go_wp2_with (fail)
 go_still_tail 14,(by kernel_rfl)
 have c1d:wr.drew.cell? ⟨gp,1,none⟩=some (.slice (some ⟨g,0,none⟩) m cap):=c1
 have f1d:wr.drew.frozen? ⟨gp,1,none⟩=false:=f1
 change wpList _ _ _ _ _ wr.drew
 go_wp2_with (fail)
 go_ret
 refine⟨rfl,{v with st:=Value.slice (some ⟨g,0,none⟩) n cap},⟨rfl,rfl,rfl,rfl,rfl⟩,HP.out.1.drew,HP.out.2.drew⟩
theorem aaT (h:Ps B w0 c gp w p v ts fs ds) (hk:v.tt=1) (hc:Calls Tryz.prog 38 #[.pointer (some ⟨gp,0,none⟩)] w fun e w' =>e= .returned (.int .u32 gt)∧R w'):
  Calls Tryz.prog 79 #[.pointer (some ⟨gp,0,none⟩)] w fun e w' =>e= .returned (.int .u32 gt)∧R w':=by
 have c7:=h.c7
 rw [hk] at c7
 have HC:=am hc
 clear h hc hk
 go_enter Tryz.func79,Tryz.ntmps79
 go_wp2_with (fail)
 go_loopg [] 0 (fun k wr=>wr=w)
 case atStart=>rfl
 case round=>
  subst hrel
  go_wp2_with (first|(go_at_call 38;(with_reducible refine HC.out.mono ?_);rintro e w1 ⟨rfl,hr⟩;have HR:=am hr;clear hr))
  go_ret
  exact⟨rfl,HR.out⟩
end Go.Proofs.YtlglijnaeaonpaaGreatDoor.Lx
end
section
set_option maxHeartbeats 8000000
set_option maxRecDepth 100000
set_option linter.unusedVariables false
set_option linter.unusedSimpArgs false
namespace Go.Proofs.YtlglijnaeaonpaaGreatDoor.Lx
open Go.RowKit Go.Proofs.YtlglijnaeaonpaaGreatDoorW.aC
variable {w0 w wr:World} {c:lQ} {p:Int} {B:Nat} {gp:Nat} {v:PV} {ts:List Tk} {fs:List Nat} {ds:List Int} {k q:Int} {xs:List Int} {K:Act→World→Prop} {Q:Exit→Act→World→Prop} {l:List Value} {off:Int}
def RNm (gt:Int) (kb:ByteArray):Prop:=∀w:World,Calls Tryz.prog 22 #[.int .u32 gt] w fun e w' =>e= .returned (.string kb)∧Below w.heap.size w w'
theorem Ht (w:World):Calls Tryz.prog 22 #[.int .u32 2] w fun e w' =>e= .returned (.string ⟨#[97,116]⟩)∧Below w.heap.size w w':=by
 go_enter Tryz.func22,Tryz.ntmps22
 go_wp2_with (fail)
 go_ret
 exact⟨rfl,au (Below.refl _ _) _⟩
theorem Hu (w:World):Calls Tryz.prog 22 #[.int .u32 3] w fun e w' =>e= .returned (.string ⟨#[98,101,103,105,110,32,97,116]⟩)∧Below w.heap.size w w':=by
 go_enter Tryz.func22,Tryz.ntmps22
 go_wp2_with (fail)
 go_ret
 exact⟨rfl,au (Below.refl _ _) _⟩
theorem Hv (w:World):Calls Tryz.prog 22 #[.int .u32 4] w fun e w' =>e= .returned (.string ⟨#[101,110,100,32,97,116]⟩)∧Below w.heap.size w w':=by
 go_enter Tryz.func22,Tryz.ntmps22
 go_wp2_with (fail)
 go_ret
 exact⟨rfl,au (Below.refl _ _) _⟩
theorem Hw (w:World):Calls Tryz.prog 22 #[.int .u32 6] w fun e w' =>e= .returned (.string ⟨#[98,101,103,105,110]⟩)∧Below w.heap.size w w':=by
 go_enter Tryz.func22,Tryz.ntmps22
 go_wp2_with (fail)
 go_ret
 exact⟨rfl,au (Below.refl _ _) _⟩
theorem vV (w:World):Calls Tryz.prog 22 #[.int .u32 7] w fun e w' =>e= .returned (.string ⟨#[101,110,100]⟩)∧Below w.heap.size w w':=by
 go_enter Tryz.func22,Tryz.ntmps22
 go_wp2_with (fail)
 go_ret
 exact⟨rfl,au (Below.refl _ _) _⟩
theorem DW (w:World):Calls Tryz.prog 22 #[.int .u32 8] w fun e w' =>e= .returned (.string ⟨#[100,101,99,108,97,114,97,116,105,111,110]⟩)∧Below w.heap.size w w':=by
 go_enter Tryz.func22,Tryz.ntmps22
 go_wp2_with (fail)
 go_ret
 exact⟨rfl,au (Below.refl _ _) _⟩
theorem Pz {a7 a20:Value} {gt:Int} {R:Value→World→Prop} (hl:l.length=64) (h6:l.getD 6 default= .pointer (some ⟨gp,0,none⟩)) (h7:l.getD 7 default=a7) (je:l.getD 20 default=a20)
  (hc:Calls Tryz.prog 21 #[.pointer (some ⟨gp,0,none⟩)] wr fun e w' =>∃dv tt,e= .returned (.tuple #[.int .u32 gt,.int .u32 tt,dv])∧R dv w')
  (hK:∀(l' :List Value) (wx:World) (dv:Value),l'.length=64→l'.getD 6 default= .pointer (some ⟨gp,0,none⟩)→l'.getD 7 default=a7→l'.getD 20 default=a20→l'.getD 8 default= .int .u32 gt→l'.getD 10 default=dv→R dv wx→K ⟨l'.toArray,[]⟩ wx):
  Code.wp Tryz.prog (bI [1,1,0,0,0] dr) (Exit.then K Q) ⟨l.toArray,[]⟩ wr:=by
 obtain⟨f,hf,rfl⟩:=ns l hl
 rw [hf] at h6 h7 je
 rw [h6,h7,je]
 have HC:=am hc
 have HK:=am hK
 clear hf hl h6 h7 je hc hK
 conv=>arg 2;whnf
 go_wp2_with (fail)
 refine HC.out.mono ?_
 rintro e w1 ⟨dv,tt,rfl,hr⟩
 have HR:=am hr
 clear hr
 go_wp2_with (fail)
 exact HK.out _ _ dv (by kernel_rfl) rfl rfl rfl rfl rfl HR.out
theorem PA {a6 a7 a20 dv:Value} {gt:Int} {kb:ByteArray} (qM:RNm gt kb) (hl:l.length=64) (h6:l.getD 6 default=a6) (h7:l.getD 7 default=a7) (je:l.getD 20 default=a20) (h8:l.getD 8 default= .int .u32 gt) (dG:l.getD 10 default=dv) (hd:Rd wr dv xs)
  (hK:∀(l' :List Value) (wb:World) (yF :Value),l'.length=64→l'.getD 6 default=a6→l'.getD 7 default=a7→l'.getD 20 default=a20→l'.getD 11 default= .pointer (some ⟨wb.heap.size,0,none⟩)→Below wr.heap.size wr wb→Rd wb yF xs→
   K ⟨l'.toArray,[]⟩ (wb.alloc (.cells #[.string kb,yF,.slice none 0 0,.slice none 0 0,.slice none 0 0,.string ⟨#[]⟩] 55))):Code.wp Tryz.prog (bI [1,1,0,0,1,1,0] dr) (Exit.then K Q) ⟨l.toArray,[]⟩ wr:=by
 obtain⟨f,hf,rfl⟩:=ns l hl
 rw [hf] at h6 h7 je h8 dG
 rw [h6,h7,je,h8,dG]
 have HD:=am hd
 have HK:=am hK
 obtain⟨A,n,cp,rfl,-,-,-⟩:=hd
 clear hf hl h6 h7 je h8 dG hK
 conv=>arg 2;whnf
 go_wp2_with (fail)
 refine(qM _).mono ?_
 rintro e w1 ⟨rfl,eW⟩
 obtain⟨A',n',cp',e,r1,r2,r3⟩:=(HD.out.below eW).reads
 injection e with e e' e''
 subst e;subst e';subst e''
 have pa:=am eW
 have HR:=am r3
 clear eW r3
 go_wp2_with (fail)
 refine(QK A n cp xs w1 HR.out r2).mono ?_
 rintro e w2 ⟨g,rfl,hB,hg,dc⟩
 have kY:=am (And.intro hB (pa.out.trans (dc.mono pa.out.size)))
 clear hB dc
 go_wp2_with (fail)
 have lX:=kY.out.2
 refine HK.out _ w2 (.slice (some ⟨g,0,none⟩) n n) (by kernel_rfl) rfl rfl rfl rfl lX ?_
 refine⟨_,_,_,rfl,r1,r2,fun hp=>⟨g,0,_,_,rfl,kY.out.1,fun j hj=> ?_⟩⟩
 have D8:j<xs.length:=by omega
 simp [bp,List.getD_eq_getElem?_getD,List.getElem?_eq_getElem D8]
theorem By {a7:Value} {i:Nat} {gt tt:Int} {kb:ByteArray} {R:PV→List Tk→List Nat→List Int→Int→Prop} {ps:List Pc} (qM:RNm gt kb) (hgt:(gt==0)=false) (hB0:B=w0.heap.size) (h0:0<B) (hl:l.length=64) (h6:l.getD 6 default= .pointer (some ⟨gp,0,none⟩)) (h7:l.getD 7 default=a7) (je:l.getD 20 default= .int .i64 i) (hi:i<100000)
  (hPc:rX B wr a7 ps) (FQ:ps.length≤100000)
  (hc:Calls Tryz.prog 21 #[.pointer (some ⟨gp,0,none⟩)] wr fun e w' =>∃v' bN fs' fI p',e= .returned (.tuple #[.int .u32 gt,.int .u32 v'.tt,v'.data])∧R v' bN fs' fI p' ∧(bN.length≤100000000∧(bars bN).length≤100000000000)∧Pk B w0 c gp wr w' p' v' bN fs' fI)
  (hK:∀(l' :List Value) (wx:World) (Pa :Value) (v' :PV) (bN :List Tk) (fs' :List Nat) (fI :List Int) (p' :Int),l'.length=64→l'.getD 6 default= .pointer (some ⟨gp,0,none⟩)→l'.getD 7 default=Pa →l'.getD 20 default= .int .i64 ((i+1:Nat):Int)→R v' bN fs' fI p' →Ps B w0 c gp wx p' v' bN fs' fI →rX B wx Pa (ps++ [⟨kb,fI,bars bN⟩])→K ⟨l'.toArray,[]⟩ wx):
  Code.wp Tryz.prog dr (Exit.then K Q) ⟨l.toArray,[]⟩ wr:=by
 rw [Q8]
 refine wp_seq_k fun K1 gv=> ?_
 refine Ly hl h6 h7 je hi fun l1 a1 a2 a3 a4 a5=>gv _ _ ?_
 refine wp_seq_k fun K2 ik=> ?_
 refine wp_cond_true (aaA a5 a1 (by decide)) (wp_skip (ik _ _ ?_))
 refine wp_seq_k fun K3 jK=>wp_block ?_
 refine wp_seq_k fun K4 lW=> ?_
 refine Pz (gt:=gt) (R:=fun dv w' =>∃v' bN fs' fI p',dv=v'.data∧R v' bN fs' fI p' ∧(bN.length≤100000000∧(bars bN).length≤100000000000)∧Pk B w0 c gp wr w' p' v' bN fs' fI) a1 a2 a3 a4 (hc.mono ?_) fun l2 w2 dv b1 b2 b3 b4 b5 b6 hr=>lW _ _ ?_
 ·rintro e w' ⟨v',bN,fs',fI,p',rfl,r⟩
  exact⟨_,_,rfl,v',bN,fs',fI,p',rfl,r⟩
 obtain⟨v',bN,fs',fI,p',rfl,hR,⟨hlen,lX⟩,hP,hKt⟩:=hr
 refine wp_seq_k fun K5 oU=>wp_seq_k fun K6 Hj=> ?_
 refine Lz b1 b2 b3 b4 b5 b6 fun l3 c1 c2 c3 c4 c5 c6 c7=>Hj _ _ ?_
 refine wp_cond_false (aaA (c7.trans (by rw [hgt])) c1 (by decide)) (wp_skip (oU _ _ ?_))
 refine wp_seq_k fun K7 Lq=> ?_
 refine PA qM c1 c2 c3 c4 c5 c6 hP.Dy fun l4 wb yF d1 d2 d3 d4 d5 d6 d7=>Lq _ _ ?_
 have hPb:=hP.below d6
 have oD:=au (Below.refl _ wb) (.cells #[.string kb,yF,.slice none 0 0,.slice none 0 0,.slice none 0 0,.string ⟨#[]⟩] 55)
 have aga:=(hPc.kt hKt).below d6
 refine wp_seq_k fun K8 DP=>wp_seq_k fun K9 UD=> ?_
 refine UH (S:=wb.heap.size) (wb:=wb) d1 d2 d3 d4 d5 (hPb.below oD) oD (Nat.le_refl _) (Nat.le_refl _) (heap_alloc_new wb _) fun l5 hr5=>UD _ _ ?_
 refine Ho hr5 hPb.tb rfl hlen lX fun l6 w6 hr6=>DP _ _ ?_
 have gw:Below wb.heap.size wb w6:=by obtain⟨_,_,_,_,_,_,_,_,_,h,_⟩:=hr6;exact h
 have aaU:=aga.below gw
 refine wp_mono (O9 (K:=K3) (Q:=Exit.inBlock 1 (Exit.then K3 (Exit.then K Q))) hr6 (d7.below gw) aaU (by have:=hPb.hB;have:=gw.size;omega) FQ lX fun l7 w7 Pa e1 e2 e3 e4 e5 e6=>jK _ _ ?_) (fun e a w' hq=>by cases e<;>exact hq)
 refine Pd e1 e2 e4 e3 hi fun l8 g1 g2 g3 g4=> ?_
 exact hK l8 w7 Pa v' bN fs' fI p' g1 g2 g3 g4 hR ((hPb.below gw).pieces hB0 h0 e6 aaU.row) e5
end Go.Proofs.YtlglijnaeaonpaaGreatDoor.Lx
end
section
set_option maxHeartbeats 8000000
set_option maxRecDepth 100000
set_option linter.unusedVariables false
set_option linter.unusedSimpArgs false
namespace Go.Proofs.YtlglijnaeaonpaaGreatDoor.Lx
open Go.RowKit Go.Proofs.YtlglijnaeaonpaaGreatDoorW.aC
variable {w0 w wr:World} {c:lQ} {p:Int} {B:Nat} {gp:Nat} {v:PV} {ts:List Tk} {fs:List Nat} {ds:List Int} {q:Int}
inductive Ev (bs:List Int):Bool→List Nat→Nat→Int→List Pc→Prop where
 | fin {p q:Int} {xs:List Int} {ws:Bool} (h:eo bs p 0 q xs ws):Ev bs false [] 39 p []
 | yK {fs:List Nat} {f:Nat} {p q1 q q2 hv:Int} {nm uj:List Int} {ws tF:Bool} {r:List (Tk×Bool)} {ps:List Pc} (hf:f=39∨f=75) (h1:eo bs p 3 q1 (64::nm) ws) (hn:Wr nm hv) (oD:r.length<10000000) (hb:(bars (flat r)).length≤100000000000)
   (hs:eJ bs q 0 q1 r) (h2:eo bs q 24 q2 uj tF) (ht:Ev bs false fs f q2 ps):Ev bs false fs f p (⟨uZ,64::nm,bars (flat r)⟩::ps)
 | eC {fs:List Nat} {f:Nat} {p q1 q q2 hv:Int} {nm uj:List Int} {ws tF:Bool} {r:List (Tk×Bool)} {ps:List Pc} (hf:f=39∨f=75) (h1:eo bs p 3 q1 (64::nm) ws) (hn:Wr nm hv) (lX:Pt hv) (oD:r.length<10000000) (hb:(bars (flat r)).length≤100000000000)
   (hs:eJ bs q 0 q1 r) (h2:eo bs q 30 q2 uj tF) (jE:fs.length≤100) (ht:Ev bs false (fs++ [f]) 75 q2 ps):Ev bs false fs f p (⟨Bw,64::nm,bars (flat r)⟩::ps)
 | rul {fs:List Nat} {f:Nat} {p q1 q q2 k:Int} {xs uj:List Int} {ws tF:Bool} {tL:Nat} {r:List (Tk×Bool)} {ps:List Pc} (hf:f=39∨f=75) (h1:eo bs p k q1 xs ws) (hk:U4 k) (fT:step 0 k tL) (oD:r.length<10000000) (hb:(bars (⟨k,xs⟩::flat r)).length≤100000000000)
   (hs:eJ bs q tL q1 r) (h2:eo bs q 30 q2 uj tF) (jE:fs.length≤100) (ht:Ev bs false (fs++ [f]) 79 q2 ps):Ev bs false fs f p (⟨ym,[],bars (⟨k,xs⟩::flat r)⟩::ps)
 | dcl {fs:List Nat} {p q1 q q2 k2:Int} {xs uj:List Int} {ws tF:Bool} {cl:Tk} {b:Bool} {rest:List (Tk×Bool)} {ps:List Pc} (h1:eo bs p 1 q1 xs ws) (hx:∀x∈xs,0≤x∧x≤255) (kx:cl.tt=23) (oD:rest.length<10000000)
   (hb:(bars (flat rest)).length≤100000000000) (hs:eJ bs q 0 q1 ((cl,b)::rest)) (h2:eo bs q k2 q2 uj tF) (kV:k2=24∨k2=31) (jE:fs.length≤100) (ht:Ev bs (k2==31) fs 79 q2 ps):Ev bs false fs 79 p (⟨Lv,xs.map low,bars (flat rest)⟩::ps)
 | U8 {fs:List Nat} {f:Nat} {p:Int} {ps:List Pc} (jE:fs.length≤100) (ht:Ev bs false fs f p ps):Ev bs true (fs++ [f]) 79 p (⟨p8,[],[]⟩::ps)
 | U9 {fs:List Nat} {f:Nat} {p q:Int} {xs:List Int} {ws:Bool} {ps:List Pc} (h1:eo bs p 31 q xs ws) (jE:fs.length≤100) (ht:Ev bs false fs f q ps):Ev bs false (fs++ [f]) 79 p (⟨p8,[],[]⟩::ps)
 | Va {fs:List Nat} {f:Nat} {p q:Int} {xs:List Int} {ws:Bool} {ps:List Pc} (h1:eo bs p 31 q xs ws) (jE:fs.length≤100) (ht:Ev bs false fs f q ps):Ev bs false (fs++ [f]) 75 p (⟨tO,[],[]⟩::ps)
def LN (a b:Pc):Prop:=a.kind=b.kind∧(b.data= []∨a.data=b.data)∧((b.kind=p8∨b.kind=tO)∨a.text=b.text)
def Fok (pe:Bool) (v:PV) (ts:List Tk):Prop:=v.pe=pe∧v.kw=false∧v.lvl=0∧ts.length≤100000000∧(bars ts).length≤100000000000
def EvR (bs:List Int) (pc:Pc) (ps:List Pc) (v' :PV) (bN :List Tk) (fs' :List Nat) (fI :List Int) (p' :Int):Prop:=
 ∃pe' fs1 f1,fs' =fs1++ [f1]∧Ev bs pe' fs1 f1 p' ps∧Fok pe' v' bN ∧LN ⟨pc.kind,fI,bars bN⟩ pc
theorem fb {a b:List Tk} (h:bH a=bH b):bars a=bars b:=by unfold bars;rw [h]
theorem tQ {f:Nat} {k:Int} {xs:List Int} {ws:Bool} {gt:Int} {Rel:PV→List Tk→List Nat→List Int→Int→Prop} (hf:f=39∨f=75) (h:Ps B w0 c gp w p v ts (fs++ [f]) ds) (h0:0<B) (mB:v.pe=false) (ij:v.kw=false) (jE:fs.length≤1000) (cW:eo c.bs p k q xs ws) (hk:k=3∨U4 k)
  (hA:k=3→∀dv W,Ps B w0 c gp W q {v with err:=⟨#[]⟩,pw:=ws,pc:=false,tt:=k,data:=dv} ts (fs++ [f]) xs→Calls Tryz.prog 54 #[.pointer (some ⟨gp,0,none⟩)] W fun e w' =>e= .returned (.int .u32 gt)∧∃v' bN fs' fI p',Rel v' bN fs' fI p' ∧Pk B w0 c gp W w' p' v' bN fs' fI)
  (hQ:U4 k→∀dv W,Ps B w0 c gp W q {v with err:=⟨#[]⟩,pw:=ws,pc:=false,tt:=k,data:=dv} ts (fs++ [f]) xs→Calls Tryz.prog 62 #[.pointer (some ⟨gp,0,none⟩)] W fun e w' =>e= .returned (.int .u32 gt)∧∃v' bN fs' fI p',Rel v' bN fs' fI p' ∧Pk B w0 c gp W w' p' v' bN fs' fI):
  Calls Tryz.prog 21 #[.pointer (some ⟨gp,0,none⟩)] w fun e w' =>∃v' bN fs' fI p',e= .returned (.tuple #[.int .u32 gt,.int .u32 v'.tt,v'.data])∧Rel v' bN fs' fI p' ∧Pk B w0 c gp w w' p' v' bN fs' fI:=by
 rcases hf with rfl|rfl
 ·refine LG h h0 mB ij jE cW fun dv W hP=> ?_
  rcases hk with rfl|hk
  ·exact U6 hP rfl (hA rfl dv W hP)
  ·exact U5 hP hk (hQ hk dv W hP)
 ·refine LI h h0 mB ij jE cW fun dv W hP=> ?_
  rcases hk with rfl|hk
  ·exact aaR hP rfl (hA rfl dv W hP)
  ·exact aaQ hP hk (hQ hk dv W hP)
theorem Vb:¬U4 3:=fun h=>by have:=h.c;simp at this
theorem Vc {pe:Bool} {f:Nat} {pc:Pc} {ps:List Pc} (he:Ev c.bs pe fs f p (pc::ps)) (h:Ps B w0 c gp w p v ts (fs++ [f]) ds) (hT:ld w0) (mv:1<B) (Wt:Fok pe v ts) (ahv:fs.length≤900):
  ∃gt,(gt==0)=false∧RNm gt pc.kind∧Calls Tryz.prog 21 #[.pointer (some ⟨gp,0,none⟩)] w fun e w' =>∃v' bN fs' fI p',e= .returned (.tuple #[.int .u32 gt,.int .u32 v'.tt,v'.data])∧EvR c.bs pc ps v' bN fs' fI p' ∧Pk B w0 c gp w w' p' v' bN fs' fI:=by
 have h0:0<B:=by omega
 have jE:fs.length≤1000:=by omega
 obtain⟨mB,ij,iW,oz,wi⟩:=Wt
 cases he with
 | yK hf h1 hn oD hb hs h2 ht=>
  refine⟨2,rfl,Ht,tQ hf h h0 mB ij jE h1 (.inl rfl) (fun _ dv W hP=> ?_) (fun hr=>absurd hr Vb)⟩
  refine(F3 hP hT mv hn ij iW mB (by simp;omega) oD hs h2 (.inl ⟨rfl,rfl,rfl⟩)).mono ?_
  rintro e w' ⟨rfl,v',bN,n1,n2,⟨a1,a2,a3,a4,a5⟩,hp⟩
  exact⟨rfl,v',bN,_,_,_,⟨false,_,_,rfl,ht,⟨a4,a3,a5,n2,by rw [fb n1];exact hb⟩,rfl,.inr rfl,.inr (fb n1)⟩,hp⟩
 | eC hf h1 hn lX oD hb hs h2 LP ht=>
  refine⟨3,rfl,Hu,tQ hf h h0 mB ij jE h1 (.inl rfl) (fun _ dv W hP=> ?_) (fun hr=>absurd hr Vb)⟩
  refine(F3 hP hT mv hn ij iW mB (by simp;omega) oD hs h2 (.inr ⟨rfl,rfl,lX,rfl⟩)).mono ?_
  rintro e w' ⟨rfl,v',bN,n1,n2,⟨a1,a2,a3,a4,a5⟩,hp⟩
  exact⟨rfl,v',bN,_,_,_,⟨false,_,_,rfl,ht,⟨a4,a3,a5,n2,by rw [fb n1];exact hb⟩,rfl,.inr rfl,.inr (fb n1)⟩,hp⟩
 | @rul _ _ _ _ _ _ k xs _ _ _ _ r _ hf h1 hk fT oD hb hs h2 LP ht=>
  refine⟨6,rfl,Hw,tQ hf h h0 mB ij jE h1 (.inr hk) (fun h3=>absurd hk (h3▸Vb)) (fun _ dv W hP=> ?_)⟩
  refine(Hs hP h0 ij iW (by simp;omega) oD fT hs h2).mono ?_
  rintro e w' ⟨rfl,v',bN,n1,n2,⟨a1,a2,a3,a4,a5⟩,hp⟩
  have n3:bH bN =bH (⟨k,xs⟩::flat r):=by
   rw [n1,show (⟨k,xs⟩::flat r:List Tk)= [⟨k,xs⟩]++flat r from rfl,gE]
  exact⟨rfl,v',bN,_,_,_,⟨false,_,_,rfl,ht,⟨a4.trans mB,a3,a5,n2,by rw [fb n3];exact hb⟩,rfl,.inl rfl,.inr (fb n3)⟩,hp⟩
 | @dcl _ _ _ _ _ k2 _ _ _ _ _ _ _ _ h1 hx kx oD hb hs h2 kV LP ht=>
  refine⟨8,rfl,DW,LJ h h0 mB ij jE h1 fun dv W hP=> ?_⟩
  refine aaT hP rfl ?_
  refine(Lr hP h0 ij iW rfl oD kx hx hs h2 (by rcases kV with h|h<;>simp [h])).mono ?_
  rintro e w' ⟨rfl,v2,bN,n1,⟨_,b2,_,b4,b5,_,b7,_,b9⟩,hp⟩
  exact⟨rfl,v2,bN,_,_,_,⟨(k2==31),_,_,rfl,ht,⟨b9,b5,b7,n1.2,by rw [fb n1.1];exact hb⟩,rfl,.inr rfl,.inr (fb n1.1)⟩,hp⟩
 | @U8 fs f _ _ LP ht=>
  refine⟨7,rfl,vV,Po h h0 mB jE fun dv W hP=> ?_⟩
  refine(RD hP h0 rfl (by omega)).mono ?_
  rintro e w' ⟨rfl,v',⟨a1,a2,a3,a4,a5⟩,hp⟩
  exact⟨rfl,v',ts,_,_,_,⟨false,_,_,rfl,ht,⟨a3,a2.trans ij,a4.trans iW,oz,wi⟩,rfl,.inl rfl,.inl (.inl rfl)⟩,hp⟩
 | @U9 fs f _ _ _ _ _ h1 LP ht=>
  refine⟨7,rfl,vV,LJ h h0 mB ij jE h1 fun dv W hP=> ?_⟩
  refine(RD hP h0 rfl (by omega)).mono ?_
  rintro e w' ⟨rfl,v',⟨a1,a2,a3,a4,a5⟩,hp⟩
  exact⟨rfl,v',ts,_,_,_,⟨false,_,_,rfl,ht,⟨a3.trans mB,a2.trans ij,a4.trans iW,oz,wi⟩,rfl,.inl rfl,.inl (.inl rfl)⟩,hp⟩
 | @Va fs f _ _ _ _ _ h1 LP ht=>
  refine⟨4,rfl,Hv,LI h h0 mB ij jE h1 fun dv W hP=> ?_⟩
  refine(aaS hP h0 rfl (by omega)).mono ?_
  rintro e w' ⟨rfl,v',⟨a1,a2,a3,a4,a5⟩,hp⟩
  exact⟨rfl,v',ts,_,_,_,⟨false,_,_,rfl,ht,⟨a3.trans mB,a2.trans ij,a4.trans iW,oz,wi⟩,rfl,.inl rfl,.inl (.inr rfl)⟩,hp⟩
end Go.Proofs.YtlglijnaeaonpaaGreatDoor.Lx
end
section
set_option maxHeartbeats 8000000
set_option maxRecDepth 100000
set_option linter.unusedVariables false
set_option linter.unusedSimpArgs false
namespace Go.Proofs.YtlglijnaeaonpaaGreatDoor.Lx
open Go.RowKit Go.Proofs.YtlglijnaeaonpaaGreatDoorW.aC Go.Proofs.YtlglijnaeaonpaaGreatDoor.bG
structure Sm (W:World) (kb:ByteArray) (re:Bool) (n1 n2 m1 m2:Nat) (A1 A2 B1 B2:Option Addr) (c1 c2 d1 d2:Nat):Prop where
 e:∀n,Calls Tryz.prog 26 #[.string kb] (W.drewN n) fun e w' =>e= .returned (.bool re)∧∃m,w' =(W.drewN n).drewN m
 d:0<m1→∀n,Calls Tryz.prog 25 #[.slice A1 n1 c1,.slice B1 m1 d1] (W.drewN n) fun e w' =>e= .returned (.bool true)∧∃m,w' =(W.drewN n).drewN m
 t:re=false→∀n,Calls Tryz.prog 25 #[.slice A2 n2 c2,.slice B2 m2 d2] (W.drewN n) fun e w' =>e= .returned (.bool true)∧∃m,w' =(W.drewN n).drewN m
theorem LQ {w:World} {A0 A1:Option Addr} {c0 c1:Nat} {l l' :List Int} (e:l=l') (mE:Kd.C (Kd.int .u8) w A0 l.length l) (wo:Kd.C (Kd.int .u8) w A1 l'.length l'):
  Calls Tryz.prog 25 #[.slice A0 l.length c0,.slice A1 l'.length c1] w fun e w' =>e= .returned (.bool true)∧∃m,w' =w.drewN m:=by
 subst e
 exact UO mE wo
def Bz (kb:ByteArray):Prop:=∃re,lL.f kb=some re∧(re=true↔(kb=p8∨kb=tO))
theorem PC:Bz uZ:=⟨false,by kernel_rfl,by decide⟩
theorem LR:Bz Bw:=⟨false,by kernel_rfl,by decide⟩
theorem LS:Bz tO:=⟨true,by kernel_rfl,by decide⟩
theorem LU:Bz ym:=⟨false,by kernel_rfl,by decide⟩
theorem LV:Bz p8:=⟨true,by kernel_rfl,by decide⟩
theorem LW:Bz Lv:=⟨false,by kernel_rfl,by decide⟩
theorem tR (st:Int) {t:Int} {suf:List Int} (ht:dk t):∃t' oV,bw st++t::suf=t' ::oV ∧dk t':=by
 unfold bw
 split
 ·exact⟨t,suf,rfl,ht⟩
 ·split
  ·exact⟨32,t::suf,rfl,by unfold dk;omega⟩
  ·exact⟨10,32::t::suf,rfl,by unfold dk;omega⟩
theorem lf {bs pre g suf:List Int} {b t:Int} (fY:bs=pre++g++b::suf) (hg:∀x∈g,Ws x) (hb:Bk b t) (je:t≠20) (h32:t≠32):∃ws,eo bs pre.length t ((pre.length:Int)+g.length+1) [b] ws:=by
 have dz:at_ bs ((pre.length:Int)+g.length)=b:=by
  have:=at_next (pre++g) suf b
  rw [List.length_append] at this
  rw [fY,show ((pre.length:Int)+g.length)=((pre.length+g.length:Nat):Int) by omega]
  exact this
 have eh:((pre.length:Int)+g.length)<bs.length:=by rw [fY];simp;omega
 exact eo.WA (suf:=b::suf) (by rw [fY]) hg (.bracket t (by rw [dz];exact hb)) je h32 (by rw [UK (by omega) eh,dz])
theorem F6 {bs pre g nm suf:List Int} {t:Int} (fY:bs=pre++g++ [64]++nm++t::suf) (hg:∀x∈g,Ws x) (qM:∀x∈nm,97≤x∧x≤122) (jJ:0<nm.length) (ht:dk t):∃ws,eo bs pre.length 3 ((pre.length:Int)+g.length+1+nm.length) (64::nm) ws:=by
 have hI:mu (64::nm) bs ((pre.length:Int)+g.length):=by
  have:=ye (pre:=pre++g) (x:=64::nm) (suf:=suf) ht
  rw [List.length_append] at this
  rw [fY]
  simpa [show ((pre.length+g.length:Nat):Int)=(pre.length:Int)+g.length by omega] using this
 have dz:∀i:Int,1≤i→i<nm.length+1→97≤at_ (64::nm) i∧at_ (64::nm) i≤122:=by
  intro i h0 h1
  have hm:at_ (64::nm) i∈nm:=by
   unfold at_
   obtain⟨m,rfl⟩:∃m:Nat,i=(m:Int)+1:=⟨(i - 1).toNat,by omega⟩
   rw [show ((m:Int)+1).toNat=m+1 by omega,List.getD_eq_getElem?_getD,List.getElem?_cons_succ,List.getElem?_eq_getElem (by omega)]
   exact List.getElem_mem _
  exact qM _ hm
 have bZ:run Nm ((64::nm)++ [0]) 1=((nm.length:Int)+1):=iM (by omega) (by omega) (by simp;omega) (fun i a b=>by
  rw [aY]
  have:=dz i a b
  unfold Nm
  omega) (.inr (by rw [aY,fN (by simp)];decide))
 have agb:Tok ((64::nm)++ [0]) 0 3 ((nm.length:Int)+1):=by
  have h:=Tok.TH (bs:=(64::nm)++ [0]) (p:=0) (by rfl) (.inl (by
   rw [aY]
   have:=dz 1 (by omega) (by omega)
   unfold Sn
   simpa using by omega))
  rw [show (0:Int)+1=1 by omega,bZ] at h
  exact h
 have hs:=agb.shift hI (by omega) (by omega)
 rw [Int.add_zero] at hs
 have e:(pre.length:Int)+g.length+((nm.length:Int)+1)=(pre.length:Int)+g.length+1+nm.length:=by omega
 rw [e] at hs
 refine eo.WA (suf:=64::nm++t::suf) (by rw [fY];simp) hg hs.1 (by omega) (by omega) ?_
 have:=jf hI (p:=0) (q:=(nm.length:Int)+1) (by omega) (by omega) (by simp)
 rw [Int.add_zero,e] at this
 rw [this]
 simp [oM]
theorem BA {bs pre suf:List Int} (fY:bs=pre++59::suf):eo bs pre.length 24 ((pre.length:Int)+1) [59] false:=by
 have dz:at_ bs pre.length=59:=by rw [fY];exact at_next pre suf 59
 have eh:(pre.length:Int)<bs.length:=by rw [fY];simp;omega
 exact⟨by decide,by decide,.inl ⟨rfl,.inl ⟨.sV dz,by rw [UK (by omega) eh,dz]⟩⟩⟩
theorem LX {bs:List Int} {st:Int} {fs:List Nat} {f:Nat} {ps:List Pc} (jE:fs.length≤99):∀(r:List gx) (d:gx) (pre g suf:List Int),bs=pre++g++dx st d++dF st r++bw st++125::suf→(∀b∈g,Ws b)→Bo d→(∀y∈r,Bo y)→
  Ev bs false fs f (((pre++g++dx st d++dF st r++bw st).length:Int)+1) ps→Ev bs false (fs++ [f]) 79 pre.length ((d::r).map iS++⟨p8,[],[]⟩::ps):=by
 intro r
 induction r with
 | nil=>
  intro d pre g suf fY hg hd _ hE
  obtain⟨t',oV,et,vJ⟩:=tR st (t:=125) (suf:=suf) (by unfold dk;omega)
  obtain⟨ws,hn⟩:=Bn (bs:=bs) (pre:=pre) (g:=g) (suf:=bw st++(aX d.f1).drop 1++bw st++125::suf) hd.1.name (by rw [fY];simp [dx,dF]) hg
  obtain⟨rest,e1,e2,e3⟩:=tI (bs:=bs) (pre:=pre++g++d.f0) (st:=st) (t:=t') (suf:=oV) (ws:=d.f1) (by rw [←et,fY];simp [dx,dF]) hd.1.ne hd.1.words.ok vJ
  have el:((pre++g++d.f0).length:Int)=(pre.length:Int)+g.length+d.f0.length:=by simp;omega
  rw [el] at e3
  have hb:=hd.FX
  have eb:=k9 e2 e1
  have eq:(pre.length:Int)+g.length+d.f0.length+1+(bw st).length+((aX d.f1).drop 1).length=(pre++g++dx st d).length:=by simp [dx];omega
  rw [eq] at e3
  obtain⟨tF,Ve⟩:=lf (bs:=bs) (pre:=pre++g++dx st d) (g:=bw st) (suf:=suf) (b:=125) (t:=31) (by rw [fY];simp [dF]) (fQ st) (by unfold Bk;omega) (by omega) (by omega)
  have hl:=congrArg List.length e1
  rw [List.length_map] at hl
  have rD:=hd.UL
  have eE:((pre++g++dx st d++dF st []++bw st).length:Int)+1=((pre++g++dx st d).length:Int)+(bw st).length+1:=by simp [dF];omega
  rw [eE] at hE
  have key:=Ev.dcl (fs:=fs++ [f]) hn rD.2 (cl:=⟨23,[58]⟩) rfl (by omega) (by rw [eb];omega) e3 Ve (.inr rfl) (by simp;omega) (Ev.U8 (by omega) hE)
  rw [rD.1,eb] at key
  exact key
 | cons d2 r ih=>
  intro d pre g suf fY hg hd hr hE
  obtain⟨ws,hn⟩:=Bn (bs:=bs) (pre:=pre) (g:=g) (suf:=bw st++(aX d.f1).drop 1++dF st (d2::r)++bw st++125::suf) hd.1.name (by rw [fY];simp [dx]) hg
  obtain⟨rest,e1,e2,e3⟩:=tI (bs:=bs) (pre:=pre++g++d.f0) (st:=st) (t:=59) (suf:=bw st++dx st d2++dF st r++bw st++125::suf) (ws:=d.f1) (by rw [fY];simp [dx,dF]) hd.1.ne hd.1.words.ok (by unfold dk;omega)
  have el:((pre++g++d.f0).length:Int)=(pre.length:Int)+g.length+d.f0.length:=by simp;omega
  rw [el] at e3
  have hb:=hd.FX
  have eb:=k9 e2 e1
  have eq:(pre.length:Int)+g.length+d.f0.length+1+(bw st).length+((aX d.f1).drop 1).length=(pre++g++dx st d).length:=by simp [dx];omega
  rw [eq] at e3
  have LY:=BA (bs:=bs) (pre:=pre++g++dx st d) (suf:=bw st++dx st d2++dF st r++bw st++125::suf) (by rw [fY];simp [dF])
  have e59:((pre++g++dx st d++ [59]).length:Int)=((pre++g++dx st d).length:Int)+1:=by rw [List.length_append];rfl
  have ih':=ih d2 (pre++g++dx st d++ [59]) (bw st) suf (by rw [fY];simp [dF]) (fQ st) (hr d2 (List.mem_cons_self ..)) (fun y hy=>hr y (List.mem_cons_of_mem _ hy)) (by
   have:(pre++g++dx st d++ [59]++bw st++dx st d2++dF st r++bw st)=(pre++g++dx st d++dF st (d2::r)++bw st):=by simp [dF]
   rw [this]
   exact hE)
  rw [e59] at ih'
  have hl:=congrArg List.length e1
  rw [List.length_map] at hl
  have rD:=hd.UL
  have key:=Ev.dcl (fs:=fs++ [f]) hn rD.2 (cl:=⟨23,[58]⟩) rfl (by omega) (by rw [eb];omega) e3 LY (.inl rfl) (by simp;omega) ih'
  rw [rD.1,eb] at key
  exact key
theorem yn {nm:List Int} (h:nm∈fL):∃hv,Wr nm hv:=by
 simp only [fL,List.mem_cons,List.not_mem_nil,or_false] at h
 rcases h with rfl|rfl|rfl
 ·exact⟨0,by decide,by decide,by decide,fun W g hT hB=>Bt hT hB (by simp [maxLen]) (by simp)⟩
 ·exact⟨0,by decide,by decide,by decide,fun W g hT hB=>yk hT hB (by simp [maxLen]) (by simp)⟩
 ·exact⟨0,by decide,by decide,by decide,fun W g hT hB=>tN hT hB (by simp [maxLen]) (by simp)⟩
theorem yo {nm:List Int} (h:nm∈jG):∃hv,Wr nm hv∧Pt hv:=by
 simp only [jG,List.mem_cons,List.not_mem_nil,or_false] at h
 rcases h with rfl|rfl|rfl
 ·exact⟨9733,⟨by decide,by decide,by decide,fun W g hT hB=>DU hT hB (by simp [maxLen]) (by simp)⟩,.inr (.inl rfl)⟩
 ·exact⟨6408,⟨by decide,by decide,by decide,fun W g hT hB=>uX hT hB (by simp [maxLen]) (by simp)⟩,.inr (.inr rfl)⟩
 ·exact⟨8,⟨by decide,by decide,by decide,fun W g hT hB=>uY hT hB (by simp [maxLen]) (by simp)⟩,.inl rfl⟩
theorem lY {ws:List (List Int)} (hv:MG ws) (hx:∀x∈ws,Tx x):(cI ws).length≤480∧(dE (cI ws)).length≤100000:=by
 have hw:∀x∈ws,(fK x).length≤60∧∀q∈fK x,q.2.length≤60:=fun x hx' =>by
  obtain⟨qs,h⟩:=hv.ok x hx'
  exact h.pZ (hx x hx')
 have h1:=tH (fun x hx=>(hw x hx).1)
 have h2:=hv.len
 have h3:(dE (cI ws)).length≤(60+1)*(cI ws).length:=nu fun y hy=>by
  unfold cI at hy
  obtain⟨x,hx,hy⟩:=List.mem_flatMap.1 hy
  obtain⟨q,hq,rfl⟩:=List.mem_map.1 hy
  exact(hw x hx).2 q hq
 have h4:60*ws.length≤480:=by omega
 exact⟨by omega,by omega⟩
theorem Vf {k:Int} (h:Bv k):U4 k:=⟨h.1,h.2.1,h.2.2.1,h.2.2.2.1,h.2.2.2.2.1,h.2.2.2.2.2.1,h.2.2.2.2.2.2⟩
variable {bs:List Int} {st:Int}
theorem PD {fs:List Nat} {f:Nat} {ps:List Pc} {name:List Int} {decls:List gx} (hf:f=39∨f=75) (hs:Py name) (ht:Tx name) (hd:∀x∈decls,Bo x) (jE:fs.length≤90) {pre g suf:List Int}
  (fY:bs=pre++g++(name++bw st++ [123]++bw st++dh st decls++bw st++ [125])++suf) (hg:∀b∈g,Ws b)
  (hE:Ev bs false fs f ((pre++g++(name++bw st++ [123]++bw st++dh st decls++bw st++ [125])).length:Int) ps):
  Ev bs false fs f pre.length ((⟨ym,[],dE ((fK name).map (·.2))⟩::(decls.map iS++ [⟨p8,[],[]⟩]))++ps):=by
 obtain⟨t',oV,et,vJ⟩:=tR st (t:=123) (suf:=bw st++dh st decls++bw st++125::suf) (by unfold dk;omega)
 obtain⟨rs,jJ,e1,e2,e3⟩:=LL (bs:=bs) (pre:=pre) (g:=g) (x:=name) (suf:=oV) (t:=t') (by rw [fY,List.append_assoc (pre++g),←et];simp) hs hg vJ
 obtain⟨⟨t0,ws0⟩,r,rfl⟩:∃z r,rs=z::r:=by cases rs with|nil=>exact absurd rfl jJ|cons z r=>exact⟨z,r,rfl⟩
 obtain⟨q1,lvl',cW,fT,hr⟩:=e3.cons
 have h0:=e2 (t0,ws0) (List.mem_cons_self ..)
 have Yq:r.length+1=(fK name).length:=by
  have:=congrArg List.length e1
  simpa using this
 obtain⟨qs,hv⟩:=hs.vw
 have ng:=hv.pZ ht
 have aaV:bars (t0::flat r)=dE ((fK name).map (·.2)):=
  k9 (rs:=(t0,false)::r) (fun z hz=>by
   rcases List.mem_cons.1 hz with rfl|hz
   ·exact h0.1
   ·exact(e2 z (List.mem_cons_of_mem _ hz)).1) (by simpa using e1)
 have lX:(dE ((fK name).map (·.2))).length≤100000:=by
  have:=nu (ws:=(fK name).map (·.2)) (n:=60) (fun y hy=>by
   obtain⟨q,hq,rfl⟩:=List.mem_map.1 hy
   exact ng.2 q hq)
  rw [List.length_map] at this
  have h4:(60+1)*(fK name).length≤61*60:=Nat.mul_le_mul_left _ ng.1
  omega
 have el:(pre.length:Int)+g.length+name.length=((pre++g++name).length:Int):=by simp;omega
 obtain⟨tF,Ve⟩:=lf (bs:=bs) (pre:=pre++g++name) (g:=bw st) (suf:=bw st++dh st decls++bw st++125::suf) (b:=123) (t:=30) (by rw [fY];simp) (fQ st) (by unfold Bk;omega) (by omega) (by omega)
 simp only at hr cW fT
 rw [el] at hr
 have hP:((pre++g++name).length:Int)+(bw st).length+1=((pre++g++name++bw st++ [123]).length:Int):=by simp;omega
 rw [hP] at Ve
 have OQ:Ev bs false (fs++ [f]) 79 ((pre++g++name++bw st++ [123]).length:Int) (decls.map iS++⟨p8,[],[]⟩::ps):=by
  cases decls with
  | nil=>
   obtain⟨ws3,kX⟩:=lf (bs:=bs) (pre:=pre++g++name++bw st++ [123]) (g:=bw st++bw st) (suf:=suf) (b:=125) (t:=31) (by rw [fY];simp [dh]) (fun b hb=>by rcases List.mem_append.1 hb with h|h<;>exact fQ st b h) (by unfold Bk;omega) (by omega) (by omega)
   have e5:((pre++g++name++bw st++ [123]).length:Int)+(bw st++bw st).length+1=((pre++g++(name++bw st++ [123]++bw st++dh st []++bw st++ [125])).length:Int):=by simp [dh];omega
   rw [e5] at kX
   exact .U9 kX (by omega) hE
  | cons d0 r0=>
   refine LX (st:=st) (by omega) r0 d0 (pre++g++name++bw st++ [123]) (bw st) suf (by rw [fY,nw];simp) (fQ st) (hd d0 (List.mem_cons_self ..)) (fun y hy=>hd y (List.mem_cons_of_mem _ hy)) ?_
   have e5:((pre++g++name++bw st++ [123]++bw st++dx st d0++dF st r0++bw st).length:Int)+1=((pre++g++(name++bw st++ [123]++bw st++dh st (d0::r0)++bw st++ [125])).length:Int):=by rw [nw];simp;omega
   rw [e5]
   exact hE
 have key:=Ev.rul hf cW (Vf h0.2) fT (by omega) (by rw [aaV];omega) hr Ve (by omega) OQ
 rw [aaV] at key
 simpa using key
theorem F7 {d:Nat} {fs:List Nat} {f:Nat} {ps:List Pc}
  (IH:∀p,qi d p→∀RE pre g suf,bs=pre++g++pf st d p++suf→(∀b∈g,Ws b)→Ev bs false fs f ((pre++g++pf st d p).length:Int) RE →Ev bs false fs f pre.length (q7 d p++RE)):
  ∀parts:List PT,(∀x∈parts,qi d x)→∀pre g suf,bs=pre++g++iT st d parts++suf→(∀b∈g,Ws b)→(∀ny g',bs=ny ++g' ++suf→(∀b∈g',Ws b)→Ev bs false fs f (ny.length:Int) ps)→Ev bs false fs f pre.length (jH d parts++ps):=by
 intro parts
 induction parts with
 | nil=>
  intro _ pre g suf fY hg hK
  exact hK pre g (by rw [fY];simp [iT]) hg
 | cons x r ih=>
  intro hp pre g suf fY hg hK
  have e:jH d (x::r)++ps=q7 d x++(jH d r++ps):=by simp [jH]
  rw [e]
  refine IH x (hp x (List.mem_cons_self ..)) _ pre g (bw st++iT st d r++suf) (by rw [fY];simp [iT]) hg ?_
  exact ih (fun y hy=>hp y (List.mem_cons_of_mem _ hy)) (pre++g++pf st d x) (bw st) suf (by rw [fY];simp [iT]) (fQ st) hK
theorem PE:∀(d:Nat) (p:PT),qi d p→∀(fs:List Nat) (f:Nat),f=39∨f=75→fs.length+d≤80→∀ps pre g suf,bs=pre++g++pf st d p++suf→(∀b∈g,Ws b)→Ev bs false fs f ((pre++g++pf st d p).length:Int) ps→Ev bs false fs f pre.length (q7 d p++ps):=by
 intro d
 have base:∀(d:Nat) (p:PT),(∀(name:List Int) (decls:List gx) (hs:Py name) (ht:Tx name) (hd:∀x∈decls,Bo x),p= .mk tP name [] decls []→∀(fs:List Nat) (f:Nat),f=39∨f=75→fs.length+d≤80→∀ps pre g suf,bs=pre++g++pf st d p++suf→(∀b∈g,Ws b)→Ev bs false fs f ((pre++g++pf st d p).length:Int) ps→Ev bs false fs f pre.length (q7 d p++ps)):=by
  intro d p name decls hs ht hd e fs f hf jE ps pre g suf fY hg hE
  subst e
  have ec:pf st d (.mk tP name [] decls [])=name++bw st++ [123]++bw st++dh st decls++bw st++ [125]:=by cases d<;>rfl
  have ep:q7 d (.mk tP name [] decls [])=⟨ym,[],dE ((fK name).map (·.2))⟩::(decls.map iS++ [⟨p8,[],[]⟩]):=by cases d<;>rfl
  rw [ec] at fY hE
  rw [ep]
  exact PD hf hs ht hd (by omega) fY hg hE
 have stmt:∀(d:Nat) (name:List Int) (words:List (List Int)),name∈fL→words≠ []→MG words→(∀x∈words,Tx x)→∀(fs:List Nat) (f:Nat),f=39∨f=75→∀ps pre g suf,bs=pre++g++pf st d (.mk uZ name words [] [])++suf→(∀b∈g,Ws b)→Ev bs false fs f ((pre++g++pf st d (.mk uZ name words [] [])).length:Int) ps→Ev bs false fs f pre.length (q7 d (.mk uZ name words [] [])++ps):=by
  intro d name words hn hw hv hx fs f hf ps pre g suf fY hg hE
  have ec:pf st d (.mk uZ name words [] [])= [64]++name++aX words++ [59]:=by cases d<;>rfl
  have ep:q7 d (.mk uZ name words [] [])= [⟨uZ,64::name,dE (cI words)⟩]:=by cases d<;>rfl
  rw [ec] at fY hE
  rw [ep]
  obtain⟨MA,hA⟩:=yn hn
  obtain⟨w0,wr,rfl⟩:∃x r,words=x::r:=by cases words with|nil=>exact absurd rfl hw|cons x r=>exact⟨x,r,rfl⟩
  obtain⟨ws,cW⟩:=F6 (bs:=bs) (pre:=pre) (g:=g) (nm:=name) (suf:=w0++aX wr++ [59]++suf) (t:=32) (by rw [fY];simp [aX]) hg hA.2.2.1 hA.2.1 (by unfold dk;omega)
  obtain⟨rs,e1,e2,e3⟩:=oW (bs:=bs) (t:=59) (suf:=suf) (by unfold dk;omega) (w0::wr) (pre++g++ [64]++name) (by rw [fY];simp) hv.ok
  have hb:=lY hv hx
  have eb:=k9 e2 e1
  have el:(pre.length:Int)+g.length+1+name.length=((pre++g++ [64]++name).length:Int):=by simp;omega
  rw [el] at cW
  have eq:((pre++g++ [64]++name).length:Int)+(aX (w0::wr)).length=((pre++g++ [64]++name++aX (w0::wr)).length:Int):=by simp only [List.length_append];omega
  rw [eq] at e3
  have LY:=BA (bs:=bs) (pre:=pre++g++ [64]++name++aX (w0::wr)) (suf:=suf) (by rw [fY];simp)
  have eE:((pre++g++([64]++name++aX (w0::wr)++ [59])).length:Int)=((pre++g++ [64]++name++aX (w0::wr)).length:Int)+1:=by simp;omega
  rw [eE] at hE
  have hl:=congrArg List.length e1
  rw [List.length_map] at hl
  have key:=Ev.yK hf cW hA (by omega) (by rw [eb];omega) e3 LY hE
  rw [eb] at key
  exact key
 induction d with
 | zero=>
  intro p hp fs f hf jE ps pre g suf fY hg hE
  cases hp with
  | p9 _ name decls hs ht hl hd=>exact base 0 _ name decls hs ht hd rfl fs f hf jE ps pre g suf fY hg hE
  | yK _ name words hn hw hv hx=>exact stmt 0 name words hn hw hv hx fs f hf ps pre g suf fY hg hE
 | succ d ih=>
  intro p hp fs f hf jE ps pre g suf fY hg hE
  cases hp with
  | p9 _ name decls hs ht hl hd=>exact base (d+1) _ name decls hs ht hd rfl fs f hf jE ps pre g suf fY hg hE
  | yK _ name words hn hw hv hx=>exact stmt (d+1) name words hn hw hv hx fs f hf ps pre g suf fY hg hE
  | eC _ name words parts hn hw hv hx hl hp=>
   have ec:pf st (d+1) (.mk LM name words [] parts)= [64]++name++aX words++bw st++ [123]++bw st++iT st d parts++bw st++ [125]:=rfl
   have ep:q7 (d+1) (.mk LM name words [] parts)=⟨Bw,64::name,dE (cI words)⟩::(jH d parts++ [⟨tO,[],[]⟩]):=rfl
   rw [ec] at fY hE
   rw [ep]
   obtain⟨MA,hA,lX⟩:=yo hn
   obtain⟨w0,wr,rfl⟩:∃x r,words=x::r:=by cases words with|nil=>exact absurd rfl hw|cons x r=>exact⟨x,r,rfl⟩
   obtain⟨ws,cW⟩:=F6 (bs:=bs) (pre:=pre) (g:=g) (nm:=name) (suf:=w0++aX wr++bw st++ [123]++bw st++iT st d parts++bw st++ [125]++suf) (t:=32) (by rw [fY];simp [aX]) hg hA.2.2.1 hA.2.1 (by unfold dk;omega)
   obtain⟨t',oV,et,vJ⟩:=tR st (t:=123) (suf:=bw st++iT st d parts++bw st++ [125]++suf) (by unfold dk;omega)
   obtain⟨rs,e1,e2,e3⟩:=oW (bs:=bs) (t:=t') (suf:=oV) vJ (w0::wr) (pre++g++ [64]++name) (by rw [List.append_assoc (pre++g++ [64]++name),List.append_assoc,←et,fY];simp) hv.ok
   have hb:=lY hv hx
   have eb:=k9 e2 e1
   have el:(pre.length:Int)+g.length+1+name.length=((pre++g++ [64]++name).length:Int):=by simp;omega
   rw [el] at cW
   have eq:((pre++g++ [64]++name).length:Int)+(aX (w0::wr)).length=((pre++g++ [64]++name++aX (w0::wr)).length:Int):=by simp only [List.length_append];omega
   rw [eq] at e3
   obtain⟨tF,Ve⟩:=lf (bs:=bs) (pre:=pre++g++ [64]++name++aX (w0::wr)) (g:=bw st) (suf:=bw st++iT st d parts++bw st++ [125]++suf) (b:=123) (t:=30) (by rw [fY];simp) (fQ st) (by unfold Bk;omega) (by omega) (by omega)
   have hP:((pre++g++ [64]++name++aX (w0::wr)).length:Int)+(bw st).length+1=((pre++g++ [64]++name++aX (w0::wr)++bw st++ [123]).length:Int):=by simp;omega
   rw [hP] at Ve
   have OQ:Ev bs false (fs++ [f]) 75 ((pre++g++ [64]++name++aX (w0::wr)++bw st++ [123]).length:Int) (jH d parts++(⟨tO,[],[]⟩::ps)):=by
    refine F7 (d:=d) (fun p hp RE ny g' oV CX vR hE' =>ih p hp (fs++ [f]) 75 (.inr rfl) (by simp;omega) RE ny g' oV CX vR hE') parts hp (pre++g++ [64]++name++aX (w0::wr)++bw st++ [123]) (bw st) (bw st++ [125]++suf) (by rw [fY];simp) (fQ st) ?_
    intro ny g' CX vR
    obtain⟨ws3,kX⟩:=lf (bs:=bs) (pre:=ny) (g:=g' ++bw st) (suf:=suf) (b:=125) (t:=31) (by rw [CX];simp) (fun b hb=>by
     rcases List.mem_append.1 hb with h|h
     ·exact vR b h
     ·exact fQ st b h) (by unfold Bk;omega) (by omega) (by omega)
    have e1:=congrArg List.length CX
    have e2:=congrArg List.length fY
    have e5:(ny.length:Int)+(g' ++bw st).length+1=((pre++g++([64]++name++aX (w0::wr)++bw st++ [123]++bw st++iT st d parts++bw st++ [125])).length:Int):=by
     simp only [List.length_append,List.length_cons,List.length_nil] at e1 e2⊢
     omega
    rw [e5] at kX
    exact .Va kX (by omega) hE
   have wi:=congrArg List.length e1
   rw [List.length_map] at wi
   have key:=Ev.eC hf cW hA lX (by omega) (by rw [eb];omega) e3 Ve (by omega) OQ
   rw [eb] at key
   simpa using key
theorem aaW {d:Nat} {parts:List PT} (hd:d≤50) (h:∀x∈parts,qi d x):Ev (iT st d parts++ [0]) false [] 39 0 (jH d parts):=by
 have:=F7 (bs:=iT st d parts++ [0]) (st:=st) (d:=d) (fs:=[]) (f:=39) (ps:=[]) (fun p hp RE pre g suf hb hg hE=>PE d p hp [] 39 (.inl rfl) (by simp;omega) RE pre g suf hb hg hE) parts h [] [] [0] (by simp) (fun b hb=>by cases hb) ?_
 ·simpa using this
 ·intro ny g' hb vR
  have dz:at_ (iT st d parts++ [0]) ((ny.length:Int)+g'.length)=0:=by
   have:=at_next (ny ++g') [] 0
   rw [List.length_append] at this
   rw [hb,show ((ny.length:Int)+g'.length)=((ny.length+g'.length:Nat):Int) by omega]
   exact this
  have hlen:=congrArg List.length hb
  have hl:(ny.length:Int)+g'.length+1=(iT st d parts++ [0]).length:=by
   rw [hlen];simp;omega
  by_cases hg0:g' = []
  ·subst hg0
   simp only [List.length_nil] at hl dz
   exact .fin (q:=ny.length) (xs:=[]) (ws:=false) ⟨by decide,by decide,.inl ⟨rfl,.inr ⟨by simpa using hl,rfl,rfl,rfl⟩⟩⟩
  ·refine .fin (q:=(ny.length:Int)+g'.length) (xs:=[]) (ws:=true) ⟨by decide,by decide,.inr ⟨rfl,?_,?_⟩⟩
   ·have:=yf (pre:=ny) (g:=g') (suf:=[0]) vR hg0
    rw [←hb] at this
    exact this
   ·have hr:=rY (pre:=ny) (g:=g') (suf:=[0]) vR (by rw [←hb,dz];decide)
    rw [←hb] at hr
    rw [hr]
    exact .inr ⟨hl,rfl,rfl,rfl⟩
theorem LZ {K:ByteArray} {x:List Int} (hx:∃qs,Vw K x qs) (ht:Tx x):∀b∈x,Gb b:=by
 obtain⟨qs,hv⟩:=hx
 intro b hb
 obtain⟨i,hi,rfl⟩:=List.getElem_of_mem hb
 have h1:=ht.byte i
 have h2:=hv.n0 i (by omega) (by omega)
 have h3:=hv.nb i
 unfold at_ at h2 h3
 rw [show ((i:Int)).toNat=i by omega] at h2 h3
 rw [List.getD_eq_getElem?_getD,List.getElem?_eq_getElem hi] at h1 h2 h3
 simp only [Option.getD_some] at h1 h2 h3
 unfold Gb
 omega
theorem oX (st:Int):∀b∈bw st,Gb b:=by
 intro b hb
 have:=fQ st b hb
 unfold Ws at this
 unfold Gb
 omega
theorem BB {ws:List (List Int)} (h:∀x∈ws,∃qs,Vw kZ x qs) (ht:∀x∈ws,Tx x):∀b∈aX ws,Gb b:=by
 intro b hb
 unfold aX at hb
 obtain⟨x,hx,dc⟩:=List.mem_flatMap.1 hb
 rcases List.mem_cons.1 dc with rfl|dc
 ·unfold Gb;omega
 ·exact FY (h x hx) (ht x hx) b dc
theorem F8 {nm:List Int} {hv:Int} (h:Wr nm hv):∀b∈nm,Gb b:=by
 intro b hb
 have:=h.2.2.1 b hb
 unfold Gb
 omega
theorem oY {t:Int} (h:Gb t):∀b∈ [t],Gb b:=by
 intro b hb
 rw [List.mem_singleton.1 hb]
 exact h
theorem fq {a b:List Int} (ha:∀x∈a,Gb x) (hb:∀x∈b,Gb x):∀x∈a++b,Gb x:=by
 intro x hx
 rcases List.mem_append.1 hx with h|h
 ·exact ha x h
 ·exact hb x h
def mx (d:Nat) (l:List PT):Prop:=l.length≤10∧∀x∈l,qi d x
theorem F9 {st:Int} {name:List Int} {decls:List gx} (hs:Py name) (ht:Tx name) (hd:∀x∈decls,Bo x):∀b∈name++bw st++ [123]++bw st++dh st decls++bw st++ [125],Gb b:=
 fq (fq (fq (fq (fq (fq (LZ hs.vw ht) (oX st)) (oY (by unfold Gb;omega))) (oX st)) (aaB hd)) (oX st)) (oY (by unfold Gb;omega))
theorem L0 {name:List Int} {words:List (List Int)} (hn:name∈fL) (hv:MG words) (hx:∀x∈words,Tx x):∀b∈ [64]++name++aX words++ [59],Gb b:=by
 obtain⟨MA,hA⟩:=yn hn
 exact fq (fq (fq (oY (by unfold Gb;omega)) (F8 hA)) (BB hv.ok hx)) (oY (by unfold Gb;omega))
theorem lh (st:Int) (d:Nat) (name:List Int) (decls:List gx):pf st d (.mk tP name [] decls [])=name++bw st++ [123]++bw st++dh st decls++bw st++ [125]:=by cases d<;>rfl
theorem oa (st:Int) (d:Nat) (name:List Int) (words:List (List Int)):pf st d (.mk uZ name words [] [])= [64]++name++aX words++ [59]:=by cases d<;>rfl
theorem rZ (st:Int) (d:Nat) (name:List Int) (words:List (List Int)) (parts:List PT):pf st (d+1) (.mk LM name words [] parts)= [64]++name++aX words++bw st++ [123]++bw st++iT st d parts++bw st++ [125]:=rfl
theorem tS (d:Nat) (name:List Int) (decls:List gx):q7 d (.mk tP name [] decls [])=⟨ym,[],dE ((fK name).map (·.2))⟩::(decls.map iS++ [⟨p8,[],[]⟩]):=by cases d<;>rfl
theorem yp (d:Nat) (name:List Int) (words:List (List Int)):q7 d (.mk uZ name words [] [])= [⟨uZ,64::name,dE (cI words)⟩]:=by cases d<;>rfl
theorem yq (d:Nat) (name:List Int) (words:List (List Int)) (parts:List PT):q7 (d+1) (.mk LM name words [] parts)=⟨Bw,64::name,dE (cI words)⟩::(jH d parts++ [⟨tO,[],[]⟩]):=rfl
theorem vW {st:Int} {d:Nat} {l:List PT} (IH:∀p,qi d p→∀b∈pf st d p,Gb b) (h:∀x∈l,qi d x):∀b∈iT st d l,Gb b:=by
 intro b hb
 unfold iT at hb
 obtain⟨x,hx,dc⟩:=List.mem_flatMap.1 hb
 exact fq (IH x (h x hx)) (oX st) b dc
theorem PF {st:Int}:∀(d:Nat) (p:PT),qi d p→∀b∈pf st d p,Gb b:=by
 intro d
 induction d with
 | zero=>
  intro p hp
  cases hp with
  | p9 _ name decls hs ht hl hd=>rw [lh];exact F9 hs ht hd
  | yK _ name words hn hw hv hx=>rw [oa];exact L0 hn hv hx
 | succ d ih=>
  intro p hp
  cases hp with
  | p9 _ name decls hs ht hl hd=>rw [lh];exact F9 hs ht hd
  | yK _ name words hn hw hv hx=>rw [oa];exact L0 hn hv hx
  | eC _ name words parts hn hw hv hx hl hp=>
   rw [rZ]
   obtain⟨MA,hA,_⟩:=yo hn
   exact fq (fq (fq (fq (fq (fq (fq (fq (oY (by unfold Gb;omega)) (F8 hA)) (BB hv.ok hx)) (oX st)) (oY (by unfold Gb;omega))) (oX st)) (vW ih hp)) (oX st)) (oY (by unfold Gb;omega))
theorem L1 {st:Int} {d:Nat} {l:List PT} (h:∀x∈l,qi d x):∀b∈iT st d l,Gb b:=vW (PF d) h
def LB:Nat→Nat
 | 0=>20000
 | d+1=>20000+10*(LB d+2)
theorem LB3:LB 3=22222220:=by decide
theorem Vg (d:Nat):20000≤LB d:=by cases d<;>simp [LB]
theorem vX {ws:List (List Int)} (h:MG ws):(aX ws).length≤488:=by
 have h3:=qA (ws:=ws) fun x hx=>by
  obtain⟨qs,hv⟩:=h.ok x hx
  exact hv.len
 have:=h.len
 omega
theorem BC {st:Int} {name:List Int} {decls:List gx} (hs:Py name) (hl:decls.length≤10) (hd:∀x∈decls,Bo x):(name++bw st++ [123]++bw st++dh st decls++bw st++ [125]).length≤20000:=by
 obtain⟨qs,hv⟩:=hs.vw
 have h1:=hv.len
 have h2:=eQ st
 have h3:=UM (st:=st) hd
 simp only [List.length_append,List.length_cons,List.length_nil]
 omega
theorem Ga {name:List Int} {words:List (List Int)} (hn:name∈fL) (hv:MG words):([64]++name++aX words++ [59]).length≤20000:=by
 obtain⟨MA,hA⟩:=yn hn
 have h1:=hA.1
 have h2:=vX hv
 simp only [List.length_append,List.length_cons,List.length_nil]
 omega
theorem tT {st:Int} {d:Nat}:∀{l:List PT} (IH:∀p,qi d p→(pf st d p).length≤LB d) (h:∀x∈l,qi d x),(iT st d l).length≤(LB d+2)*l.length:=by
 intro l IH
 induction l with
 | nil=>intro _;simp [iT]
 | cons x r ih=>
  intro h
  have h1:=ih fun y hy=>h y (List.mem_cons_of_mem _ hy)
  have h2:=IH x (h x (List.mem_cons_self ..))
  have h3:=eQ st
  have e:iT st d (x::r)=pf st d x++bw st++iT st d r:=by simp [iT]
  rw [e,List.length_append,List.length_append,List.length_cons,Nat.mul_add,Nat.mul_one]
  omega
theorem tU {st:Int}:∀(d:Nat) (p:PT),qi d p→(pf st d p).length≤LB d:=by
 intro d
 induction d with
 | zero=>
  intro p hp
  cases hp with
  | p9 _ name decls hs ht hl hd=>rw [lh];exact BC hs hl hd
  | yK _ name words hn hw hv hx=>rw [oa];exact Ga hn hv
 | succ d ih=>
  intro p hp
  have hL:=Vg (d+1)
  cases hp with
  | p9 _ name decls hs ht hl hd=>rw [lh];exact Nat.le_trans (BC hs hl hd) hL
  | yK _ name words hn hw hv hx=>rw [oa];exact Nat.le_trans (Ga hn hv) hL
  | eC _ name words parts hn hw hv hx hl hp=>
   rw [rZ]
   obtain⟨MA,hA,_⟩:=yo hn
   have h1:=hA.1
   have h2:=vX hv
   have h3:=tT ih hp
   have h4:=eQ st
   have h5:(LB d+2)*parts.length≤(LB d+2)*10:=Nat.mul_le_mul_left _ hl
   simp only [List.length_append,List.length_cons,List.length_nil,LB]
   omega
theorem Hy {st:Int} {d:Nat} {l:List PT} (h:mx d l):(iT st d l).length≤10*(LB d+2):=by
 have h1:=tT (st:=st) (tU d) h.2
 have h2:(LB d+2)*l.length≤(LB d+2)*10:=Nat.mul_le_mul_left _ h.1
 omega
theorem aaX {st:Int} (ds:List gx):ds.length≤(dh st ds).length:=by
 cases ds with
 | nil=>simp
 | cons d r=>
  rw [nw,List.length_append]
  have h2:∀l:List gx,l.length≤(dF st l).length:=by
   intro l
   induction l with
   | nil=>simp
   | cons y l ih=>
    unfold dF at*
    simp only [List.flatMap_cons,List.length_append,List.length_cons,List.length_nil]
    omega
  have h3:=h2 r
  unfold dx
  simp only [List.length_append,List.length_cons,List.length_nil]
  omega
theorem vY {st:Int} {d:Nat}:∀{l:List PT} (IH:∀p,qi d p→(q7 d p).length≤(pf st d p).length) (h:∀x∈l,qi d x),(jH d l).length≤(iT st d l).length:=by
 intro l IH
 induction l with
 | nil=>intro _;simp [iT,jH]
 | cons x r ih=>
  intro h
  have h1:=ih fun y hy=>h y (List.mem_cons_of_mem _ hy)
  have h2:=IH x (h x (List.mem_cons_self ..))
  have e:iT st d (x::r)=pf st d x++bw st++iT st d r:=by simp [iT]
  have e2:jH d (x::r)=q7 d x++jH d r:=by simp [jH]
  rw [e,e2,List.length_append,List.length_append,List.length_append]
  omega
theorem Gc {st:Int} {d:Nat} {name:List Int} {decls:List gx}:(q7 d (.mk tP name [] decls [])).length≤(pf st d (.mk tP name [] decls [])).length:=by
 rw [lh,tS]
 have:=aaX (st:=st) decls
 simp only [List.length_append,List.length_cons,List.length_nil,List.length_map]
 omega
theorem L2 {st:Int} {d:Nat} {name:List Int} {words:List (List Int)}:(q7 d (.mk uZ name words [] [])).length≤(pf st d (.mk uZ name words [] [])).length:=by
 rw [oa,yp]
 simp only [List.length_append,List.length_cons,List.length_nil]
 omega
theorem PG {st:Int}:∀(d:Nat) (p:PT),qi d p→(q7 d p).length≤(pf st d p).length:=by
 intro d
 induction d with
 | zero=>
  intro p hp
  cases hp with
  | p9 _ name decls hs ht hl hd=>exact Gc
  | yK _ name words hn hw hv hx=>exact L2
 | succ d ih=>
  intro p hp
  cases hp with
  | p9 _ name decls hs ht hl hd=>exact Gc
  | yK _ name words hn hw hv hx=>exact L2
  | eC _ name words parts hn hw hv hx hl hp=>
   rw [rZ,yq]
   have h3:=vY ih hp
   simp only [List.length_append,List.length_cons,List.length_nil]
   omega
theorem tV {st:Int} {d:Nat} {l:List PT} (h:∀x∈l,qi d x):(jH d l).length≤(iT st d l).length:=vY (PG d) h
def Vh (k:ByteArray):Prop:=k=uZ∨k=Bw∨k=tO∨k=ym∨k=p8∨k=Lv
theorem vZ {d:Nat} {l:List PT} (IH:∀p,qi d p→∀q∈q7 d p,Vh q.kind) (h:∀x∈l,qi d x):∀q∈jH d l,Vh q.kind:=by
 intro q hq
 unfold jH at hq
 obtain⟨x,hx,N5⟩:=List.mem_flatMap.1 hq
 exact IH x (h x hx) q N5
theorem Gd {d:Nat} {name:List Int} {decls:List gx}:∀q∈q7 d (.mk tP name [] decls []),Vh q.kind:=by
 intro q hq
 rw [tS] at hq
 rcases List.mem_cons.1 hq with rfl|hq
 ·exact .inr (.inr (.inr (.inl rfl)))
 ·rcases List.mem_append.1 hq with hq|hq
  ·obtain⟨y,_,rfl⟩:=List.mem_map.1 hq
   exact .inr (.inr (.inr (.inr (.inr rfl))))
  ·rw [List.mem_singleton.1 hq]
   exact .inr (.inr (.inr (.inr (.inl rfl))))
theorem L3 {d:Nat} {name:List Int} {words:List (List Int)}:∀q∈q7 d (.mk uZ name words [] []),Vh q.kind:=by
 intro q hq
 rw [yp] at hq
 rw [List.mem_singleton.1 hq]
 exact .inl rfl
theorem PJ:∀(d:Nat) (p:PT),qi d p→∀q∈q7 d p,Vh q.kind:=by
 intro d
 induction d with
 | zero=>
  intro p hp
  cases hp with
  | p9 _ name decls hs ht hl hd=>exact Gd
  | yK _ name words hn hw hv hx=>exact L3
 | succ d ih=>
  intro p hp
  cases hp with
  | p9 _ name decls hs ht hl hd=>exact Gd
  | yK _ name words hn hw hv hx=>exact L3
  | eC _ name words parts hn hw hv hx hl hp=>
   intro q hq
   rw [yq] at hq
   rcases List.mem_cons.1 hq with rfl|hq
   ·exact .inr (.inl rfl)
   ·rcases List.mem_append.1 hq with hq|hq
    ·exact vZ ih hp q hq
    ·rw [List.mem_singleton.1 hq]
     exact .inr (.inr (.inl rfl))
theorem L4 {d:Nat} {l:List PT} (h:∀x∈l,qi d x):∀q∈jH d l,Vh q.kind:=vZ (PJ d) h
end Go.Proofs.YtlglijnaeaonpaaGreatDoor.Lx
end
section
set_option maxHeartbeats 8000000
set_option maxRecDepth 100000
set_option linter.unusedVariables false
set_option linter.unusedSimpArgs false
namespace Go.Proofs.YtlglijnaeaonpaaGreatDoor.Lx
open Go.RowKit Go.Proofs.YtlglijnaeaonpaaGreatDoorW.aC
variable {B:Nat} {w0:World}
theorem DX (gi:Nat) (w:World):Calls Tryz.prog 18 #[.pointer (some ⟨gi,0,none⟩),.bool false] w fun e w' =>∃cap,e= .returned (.pointer (some ⟨w.heap.size+1+1,0,none⟩))∧Below w.heap.size w w' ∧
  w'.heap[w.heap.size]? =some (.cells #[.pointer (some ⟨gi,0,none⟩)] 93 (0,0))∧
  w'.heap[w.heap.size+1]? =some (.cells #[fv 39,.nilFunc,.nilFunc,.nilFunc] 88 (0,0))∧
  w'.heap[w.heap.size+1+1]? =some (.cells #[.pointer (some ⟨w.heap.size,0,none⟩),.slice (some ⟨w.heap.size+1,0,none⟩) 1 cap,.string ⟨#[]⟩,.int .i64 0,.slice none 0 0,.int .i64 0,.slice none 0 0,.int .u32 0,.bool false,.bool false,.bool false,.bool false,.bool true] 80 (0,0))∧cap=4:=by
 have km:=UG
 go_enter Tryz.func18,Tryz.ntmps18
 go_wp2_with (fail)
 refine(Ls gi w).mono ?_
 rintro e w1 ⟨rfl,rfl⟩
 go_upto_region 3 with (fail)
 generalize hW:(World.alloc _ _)=W
 have yB:W.heap.size=w.heap.size+1+1+1:=by rw [←hW];simp
 have eW:W.heap[w.heap.size]? =some (.cells #[.pointer (some ⟨gi,0,none⟩)] 93 (0,0)):=by
  rw [←hW]
  exact bm (bm (heap_alloc_new w _) _) _
 have dc:W.heap[w.heap.size+1]? =some (.cells #[.nilFunc,.nilFunc,.nilFunc,.nilFunc] 88 (0,0)):=by
  rw [←hW]
  exact bm (heap_alloc2_new w _ _) _
 have kX:W.heap[w.heap.size+1+1]? =some (.cells #[.pointer (some ⟨w.heap.size,0,none⟩),.slice (some ⟨w.heap.size+1,0,none⟩) 0 4,.string ⟨#[]⟩,.int .i64 0,.slice none 0 0,.int .i64 0,.slice none 0 0,.int .u32 0,.bool false,.bool false,.bool false,.bool false,.bool false] 80 (0,0)):=by
  rw [←hW]
  have:=heap_alloc_new ((w.alloc (.cells #[.pointer (some ⟨gi,0,none⟩)] 93)).alloc (.cells #[.nilFunc,.nilFunc,.nilFunc,.nilFunc] 88)) (.cells #[.pointer (some ⟨w.heap.size,0,none⟩),.slice (some ⟨w.heap.size+1,0,none⟩) 0 4,.string ⟨#[]⟩,.int .i64 0,.slice none 0 0,.int .i64 0,.slice none 0 0,.int .u32 0,.bool false,.bool false,.bool false,.bool false,.bool false] 80)
  simpa using this
 have lX:Below w.heap.size w W:=by
  rw [←hW]
  exact au (au (au (Below.refl _ _) _) _) _
 clear hW
 have c1:W.cell? ⟨w.heap.size+1+1,1,none⟩=some (.slice (some ⟨w.heap.size+1,0,none⟩) 0 4):=by rw [ao kX];rfl
 have PK:=bm dc (.cells #[.func (.func 39) #[] #[]] 88)
 have aaY:=bm kX (.cells #[.func (.func 39) #[] #[]] 88)
 have aaZ:=bm eW (.cells #[.func (.func 39) #[] #[]] 88)
 have f20:(W.alloc (.cells #[.func (.func 39) #[] #[]] 88)).frozen? ⟨w.heap.size+1,0,none⟩=false:=ai PK 0
 have pq:(W.alloc (.cells #[.func (.func 39) #[] #[]] 88)).cell? ⟨w.heap.size+1,0,none⟩=some .nilFunc:=by rw [ao PK];rfl
 have RF:=ee aaY (p:=⟨w.heap.size+1,0,none⟩) (by dsimp only;omega) (.func (.func 39) #[] #[])
 have aba:=ee aaZ (p:=⟨w.heap.size+1,0,none⟩) (by dsimp only;omega) (.func (.func 39) #[] #[])
 have abb:=cj PK 0 (.func (.func 39) #[] #[])
 have f31:=ai RF 1
 have F:=Value.func (.func 39) #[] #[]
 have Vi:=bm (cj (ee kX (p:=⟨w.heap.size+1,0,none⟩) (by dsimp only;omega) (.func (.func 39) #[] #[])) 1 (.slice (some ⟨w.heap.size+1,0,none⟩) 1 4)) (.cells #[.func (.func 39) #[] #[]] 88)
 have agc:=bm (ee (cj dc 0 (.func (.func 39) #[] #[])) (p:=⟨w.heap.size+1+1,1,none⟩) (by dsimp only;omega) (.slice (some ⟨w.heap.size+1,0,none⟩) 1 4)) (.cells #[.func (.func 39) #[] #[]] 88)
 have agd:=bm (ee (ee eW (p:=⟨w.heap.size+1,0,none⟩) (by dsimp only;omega) (.func (.func 39) #[] #[])) (p:=⟨w.heap.size+1+1,1,none⟩) (by dsimp only;omega) (.slice (some ⟨w.heap.size+1,0,none⟩) 1 4)) (.cells #[.func (.func 39) #[] #[]] 88)
 have Bu:=au ((lX.setCell (p:=⟨w.heap.size+1,0,none⟩) (by dsimp only;omega) (.func (.func 39) #[] #[])).setCell (p:=⟨w.heap.size+1+1,1,none⟩) (by dsimp only;omega) (.slice (some ⟨w.heap.size+1,0,none⟩) 1 4)) (.cells #[.func (.func 39) #[] #[]] 88)
 clear F
 have B5:=ee kX (p:=⟨w.heap.size+1,0,none⟩) (by dsimp only;omega) (.func (.func 39) #[] #[])
 have uh:(W.setCell ⟨w.heap.size+1,0,none⟩ (.func (.func 39) #[] #[])).cell? ⟨w.heap.size+1+1,1,none⟩=some (.slice (some ⟨w.heap.size+1,0,none⟩) 0 4):=by rw [ao B5];rfl
 have ahw :(W.setCell ⟨w.heap.size+1,0,none⟩ (.func (.func 39) #[] #[])).frozen? ⟨w.heap.size+1+1,1,none⟩=false:=ai B5 1
 have ZC:=bm B5 (.cells #[.func (.func 39) #[] #[]] 88)
 have vC:((W.setCell ⟨w.heap.size+1,0,none⟩ (.func (.func 39) #[] #[])).alloc (.cells #[.func (.func 39) #[] #[]] 88)).cell? ⟨w.heap.size+1+1,1,none⟩=some (.slice (some ⟨w.heap.size+1,0,none⟩) 0 4):=by rw [ao ZC];rfl
 have f32:((W.setCell ⟨w.heap.size+1,0,none⟩ (.func (.func 39) #[] #[])).alloc (.cells #[.func (.func 39) #[] #[]] 88)).frozen? ⟨w.heap.size+1+1,1,none⟩=false:=ai ZC 1
 clear B5 ZC
 have kst:(store ⟨w.heap.size+1,0,none⟩ (.func (.func 39) #[] #[])).run Tryz.prog (W.alloc (.cells #[.func (.func 39) #[] #[]] 88))= .ok () ((W.alloc (.cells #[.func (.func 39) #[] #[]] 88)).setCell ⟨w.heap.size+1,0,none⟩ (.func (.func 39) #[] #[])):=by
  rw [run_store _ _ _ _ _ rfl]
  simp [stored,pq,f20]
 have abc:=bm (cj (cj (ee kX (p:=⟨w.heap.size+1,0,none⟩) (by dsimp only;omega) (.func (.func 39) #[] #[])) 1 (.slice (some ⟨w.heap.size+1,0,none⟩) 1 4)) 12 (.bool true)) (.cells #[.func (.func 39) #[] #[]] 88)
 have abd:=bm (ee (ee (cj dc 0 (.func (.func 39) #[] #[])) (p:=⟨w.heap.size+1+1,1,none⟩) (by dsimp only;omega) (.slice (some ⟨w.heap.size+1,0,none⟩) 1 4)) (p:=⟨w.heap.size+1+1,12,none⟩) (by dsimp only;omega) (.bool true)) (.cells #[.func (.func 39) #[] #[]] 88)
 have abe:=bm (ee (ee (ee eW (p:=⟨w.heap.size+1,0,none⟩) (by dsimp only;omega) (.func (.func 39) #[] #[])) (p:=⟨w.heap.size+1+1,1,none⟩) (by dsimp only;omega) (.slice (some ⟨w.heap.size+1,0,none⟩) 1 4)) (p:=⟨w.heap.size+1+1,12,none⟩) (by dsimp only;omega) (.bool true)) (.cells #[.func (.func 39) #[] #[]] 88)
 have abf:=au (((lX.setCell (p:=⟨w.heap.size+1,0,none⟩) (by dsimp only;omega) (.func (.func 39) #[] #[])).setCell (p:=⟨w.heap.size+1+1,1,none⟩) (by dsimp only;omega) (.slice (some ⟨w.heap.size+1,0,none⟩) 1 4)).setCell (p:=⟨w.heap.size+1+1,12,none⟩) (by dsimp only;omega) (.bool true)) (.cells #[.func (.func 39) #[] #[]] 88)
 have ln:_:=ao Vi 12
 have f12:_:=ai Vi 12
 have HB:=am (And.intro abe (And.intro abd (And.intro abc abf)))
 clear eW dc kX aaZ PK aaY aba abb RF agd agc Vi lX Bu abe abd abc abf
 go_wp2_with (fail)
 go_ret
 exact⟨4,rfl,HB.out.2.2.2,HB.out.1,HB.out.2.1,HB.out.2.2.1,rfl⟩
def age (g cap:Nat):PV:=⟨.slice (some ⟨g,0,none⟩) 1 cap,⟨#[]⟩,0,.slice none 0 0,0,.slice none 0 0,0,false,false,false,false,true⟩
theorem Hz {wc w1 w' :World} {gi gb cap eT:Nat} {eA:Addr} {xs:List Int} (hB0:B=w0.heap.size) (h0:0<B) (hbc:Below B w0 wc) (hi:Inp wc w1 B gi gb cap xs) (lX:Below w1.heap.size w1 w')
  (jm:w'.heap[w1.heap.size]? =some (.cells #[.pointer (some ⟨gi,0,none⟩)] 93 (0,0)))
  (rT:w'.heap[w1.heap.size+1]? =some (.cells #[fv 39,.nilFunc,.nilFunc,.nilFunc] 88 (0,0)))
  (hg3:w'.heap[w1.heap.size+1+1]? =some (.cells #[.pointer (some ⟨w1.heap.size,0,none⟩),.slice (some ⟨w1.heap.size+1,0,none⟩) 1 4,.string ⟨#[]⟩,.int .i64 0,.slice none 0 0,.int .i64 0,.slice none 0 0,.int .u32 0,.bool false,.bool false,.bool false,.bool false,.bool true] 80 (0,0)))
  (qO:w0.cell? ⟨0,0,none⟩=some (.iface eT (.pointer (some eA)))) (abg:Good (xs++ [0])) (hlen:(xs++ [0]).length≤1099511627776):
  Ps B w0 ⟨w1.heap.size,gi,gb,cap,xs++ [0],eT,eA⟩ (w1.heap.size+1+1) w' 0 (age (w1.heap.size+1) 4) [] [39] []:=by
 obtain⟨PM,bl,eW,hBi⟩:=hi
 have mv:B≤w1.heap.size:=by have:=hbc.size;have:=eW.size;omega
 have L5:=gX PM lX
 have abh:=cX bl lX
 have fi:Below B w0 w':=(hbc.trans eW).trans (lX.mono mv)
 rcases abh.2 with ⟨_,hz⟩|⟨g,yL,cur,e,AO,hh,hn,hm,yB,qZ⟩
 ·simp at hz
 ·injection e with e e1 e2
  injection e with e
  injection e with e
  subst e;subst e2
  have O8:∀j:Nat,j<(xs++ [0]).length→w'.cell? ⟨gb,j,none⟩=some (.int .u8 ((xs++ [0]).getD j 0)):=by
   intro j hj
   rw [ao hh,←Array.getElem?_toList]
   have:(cur.toList.take (xs++ [0]).length)[j]? =(bp .u8 (xs++ [0]))[j]?:=by
    have agf :cur.toList.take (xs++ [0]).length=bp .u8 (xs++ [0]):=by simpa using qZ
    rw [agf]
   rw [List.getElem?_take,if_pos hj] at this
   rw [this]
   simp only [bp,List.getElem?_map,List.getElem?_eq_getElem hj,List.getD_eq_getElem?_getD]
   rfl
  have ui:w'.cell? ⟨0,0,none⟩=some (.iface eT (.pointer (some eA))):=by
   rw [←qO]
   exact World.cell?_of_block (fi.block 0 h0)
  refine⟨⟨jm,L5,O8,ui,qk jm L5 (by decide),qk hh L5 (by decide),by show 0≠gi;omega,Kp.refl _ _,Int.le_refl _,Int.le_refl _,?_,hlen,by simpa using hn,abg⟩,hg3,⟨cur,_,hh⟩,Tb.nil _ _,?_,Rd.nil _,(Kt.refl B w0).below (hB0▸fi) (by omega),by omega,hBi⟩
  ·show (0:Int)<((xs++ [0]).length:Int)
   simp
  ·exact⟨by simp [fv],.inr ⟨w1.heap.size+1,4,_,rfl,by omega,rT,by decide,by simp [maxLen],by simp,by simp⟩⟩
def wa (qs ps:List Pc):Prop:=qs.length=ps.length∧∀(i:Nat) (a b:Pc),qs[i]? =some a→ps[i]? =some b→LN a b
theorem wa.snoc {qs ps:List Pc} {a b:Pc} (h:wa qs ps) (hab:LN a b):wa (qs++ [a]) (ps++ [b]):=by
 refine⟨by simp [h.1],fun i x y hx hy=> ?_⟩
 rcases Nat.lt_trichotomy i qs.length with hi|hi|hi
 ·rw [List.getElem?_append_left hi] at hx
  rw [List.getElem?_append_left (by have:=h.1;omega)] at hy
  exact h.2 i x y hx hy
 ·rw [List.getElem?_append_right (by omega),hi,Nat.sub_self] at hx
  rw [List.getElem?_append_right (by have:=h.1;omega),show i - ps.length=0 by have:=h.1;omega] at hy
  simp at hx hy
  subst hx;subst hy
  exact hab
 ·rw [List.getElem?_eq_none (by simp;omega)] at hx
  cases hx
def RuS (B:Nat) (w0:World) (c:lQ) (gp:Nat) (ps0:List Pc) (g:Nat) (l:List Value) (wr:World):Prop:=
 ∃(p:Int) (qs ps1 ML:List Pc) (pe:Bool) (fs:List Nat) (f:Nat) (v:PV) (ts:List Tk) (ds:List Int) (a7:Value),g=ML.length∧ps0=ps1++ML∧wa qs ps1∧l.getD 6 default= .pointer (some ⟨gp,0,none⟩)∧l.getD 7 default=a7∧l.getD 20 default= .int .i64 ((qs.length:Nat):Int)∧rX B wr a7 qs∧Ps B w0 c gp wr p v ts (fs++ [f]) ds∧Fok pe v ts∧Ev c.bs pe fs f p ML
theorem L6 {c:lQ} {p q:Int} {gp:Nat} {v:PV} {ts:List Tk} {ds xs:List Int} {w:World} {ws:Bool} (h:Ps B w0 c gp w p v ts ([]++ [39]) ds) (h0:0<B) (mB:v.pe=false) (ij:v.kw=false) (cW:eo c.bs p 0 q xs ws):
  Calls Tryz.prog 21 #[.pointer (some ⟨gp,0,none⟩)] w fun e w' =>∃v',e= .returned (.tuple #[.int .u32 0,.int .u32 0,v'.data])∧v'.err=⟨#[]⟩∧Pk B w0 c gp w w' q v' ts [39] xs:=by
 refine(LG (gt:=0) (Rel:=fun v' bN fs' fI p' =>v'.tt=0∧v'.err=⟨#[]⟩∧bN =ts∧fs' = [39]∧fI =xs∧p' =q) h h0 mB ij (by simp) cW ?_).mono ?_
 ·intro dv W hP
  refine(U7 hP rfl).mono ?_
  rintro e w' ⟨rfl,rfl⟩
  exact⟨rfl,_,_,_,_,_,⟨rfl,rfl,rfl,rfl,rfl,rfl⟩,hP,Kt.refl _ _⟩
 ·rintro e w' ⟨v',bN,fs',fI,p',rfl,⟨b1,b2,rfl,rfl,rfl,rfl⟩,hp⟩
  exact⟨v',by rw [b1],b2,hp⟩
theorem Vj {bs:List Int} {pe:Bool} {fs:List Nat} {f:Nat} {p:Int} {ps:List Pc} (h:Ev bs pe fs f p ps):fs.length≤900:=by
 induction h with
 | fin h=>simp
 | yK hf h1 hn oD hb hs h2 ht ih=>exact ih
 | eC hf h1 hn lX oD hb hs h2 jE ht ih=>omega
 | rul hf h1 hk fT oD hb hs h2 jE ht ih=>omega
 | dcl h1 hx kx oD hb hs h2 kV jE ht ih=>omega
 | U8 jE ht ih=>simp;omega
 | U9 h1 jE ht ih=>simp;omega
 | Va h1 jE ht ih=>simp;omega
theorem DY {w:World} {A:Option Addr} {n cp eT:Nat} {eA:Addr} {xs:List Int} {ps:List Pc} (hx:dU w .u8 A n xs) (hn:n≤1000000) (h0:0<w.heap.size) (qO:w.cell? ⟨0,0,none⟩=some (.iface eT (.pointer (some eA)))) (hg:Good (xs++ [0])) (hs:Ev (xs++ [0]) false [] 39 0 ps) (hT:ld w) (mv:1<w.heap.size) (FQ:ps.length≤40000)
  (heq:∀W:World,(binOp .eql 61 (.iface eT (.pointer (some eA))) (.iface eT (.pointer (some eA)))).run Tryz.prog W= .ok (.bool true) W):
  Calls Tryz.prog 7 #[.slice A n cp,.bool false] w fun e w' =>∃v qs,e= .returned (.tuple #[v,.bool true])∧(qs.length=ps.length∧∀(i:Nat) (a b:Pc),qs[i]? =some a→ps[i]? =some b→LN a b)∧rX w.heap.size w' v qs∧Below w.heap.size w w':=by
 have o9:xs.length=n:=hx.1
 have HX:=am hx
 have HE:=am qO
 have HG:=am hg
 have HS:=am hs
 have HL:=am o9
 clear hx qO hg hs o9
 go_enter Tryz.func7,Tryz.ntmps7
 go_wp2_with (fail)
 refine(QK A n cp xs w HX.out (by omega)).mono ?_
 rintro e w1 ⟨g,rfl,eW,jm,Lo⟩
 have pa:=am (And.intro eW (And.intro jm Lo))
 clear eW jm Lo
 go_wp2_with (fail)
 refine(Br (B:=w.heap.size) pa.out.1 HL.out (by omega) pa.out.2.1).mono ?_
 rintro e w2 ⟨gi,gb,cap,rfl,PM⟩
 have HI:=am PM
 clear PM
 go_wp2_with (fail)
 refine(DX gi w2).mono ?_
 rintro e w3 ⟨ahx,rfl,Bu,abi,abj,abk,rfl⟩
 have hP:=Hz (w0:=w) (B:=w.heap.size) rfl h0 pa.out.2.2 HI.out Bu abi abj abk HE.out HG.out (by rw [List.length_append,HL.out];simp;omega)
 have HP:=am hP
 clear hP Bu abi abj abk
 go_wp2_with (fail)
 refine cZ 64 (fun g l wr=>RuS w.heap.size w ⟨w2.heap.size,gi,gb,cap,xs++ [0],eT,eA⟩ (w2.heap.size+1+1) ps g l wr) ps.length _ (by kernel_rfl)
  ⟨0,[],[],ps,false,[],39,_,_,_,_,rfl,rfl,(And.intro rfl (fun i a b h _=>by simp at h)),rfl,rfl,rfl,?_,HP.out.below (au (Below.refl _ _) _),⟨rfl,rfl,rfl,by simp,by simp [bars,bH]⟩,HS.out⟩ ?_
 ·refine⟨[],⟨rfl,.inr ⟨w3.heap.size,0,#[],rfl,HP.out.hB,?_,by simp,by simp [maxLen],by simp,by simp⟩⟩,fun i q hq=>by simp at hq⟩
  simpa using heap_alloc_new w3 (.cells #[] 55)
 rintro m l wr hl ⟨p,qs,ps1,ML,pe,fs,f,v,ts,ds,a7,hgn,fi,Ot,h6,h7,je,hPc,hPs,Wt,hS⟩ J hJ
 show Code.wp Tryz.prog dr _ _ _
 have u4:qs.length+ML.length≤40000:=by rw [Ot.1,←List.length_append,←fi];exact FQ
 cases OH:ML with
 | nil=>
  subst OH
  cases hS with
  | fin h=>
   refine Hp (tt:=0) (R:=fun dv wx=>∃q xs' v',q+1=((xs++ [0]).length:Int)∧v'.err=⟨#[]⟩∧Pk w.heap.size w ⟨w2.heap.size,gi,gb,cap,xs++ [0],eT,eA⟩ (w2.heap.size+1+1) wr wx q v' ts [39] xs') hl h6 h7 je (by omega) ((L6 hPs h0 Wt.1 Wt.2.1 h).mono ?_) ?_
   ·rintro e w' ⟨v',rfl,he,hp⟩
    exact⟨_,rfl,_,_,v',h.end_,he,hp⟩
   ·rintro l' wx dv Ir h6' h7' ⟨q,xs',v',hq,he,hp,hk⟩
    rw [List.append_nil] at fi
    subst fi
    have L7:=hPc.kt hk
    obtain⟨A7,c7,rfl⟩:=L7.DS
    have c00:wx.cell? ⟨0,0,none⟩=some (.iface eT (.pointer (some eA))):=hp.lx.eof
    obtain⟨f,hf,rfl⟩:=ns l' Ir
    rw [hf] at h6' h7'
    rw [h6',h7']
    have HQ:=am (And.intro hq (And.intro he (And.intro hp (And.intro L7 Ot))))
    clear hf Ir h6' h7' hq he hp L7 hk hl h6 h7 je hPc hPs Wt hJ h Ot
    simp only [Exit.inBlock,Exit.then]
    go_wp2_with (fail)
    have HPE:ak (∀W:World,W=wx.drew→Calls Tryz.prog 24 #[.pointer (some ⟨w2.heap.size+1+1,0,none⟩)] W fun e w' =>e= .returned (.iface eT (.pointer (some eA)))∧Pk w.heap.size w ⟨w2.heap.size,gi,gb,cap,xs++ [0],eT,eA⟩ (w2.heap.size+1+1) wx.drew w' q v' ts [39] xs'):=
     ⟨fun W hW=>hW▸(afN HQ.out.2.2.1.drew HQ.out.2.1 HQ.out.1).mono fun e w' h=>h⟩
    go_region_held3 (fun w' =>w'.cell? ⟨0,0,none⟩=some (.iface eT (.pointer (some eA)))) (first|exact c00|exact z00|go_keep)
     (first
      | (go_at_call 24;(with_reducible refine(HPE.out _ rfl).mono ?_);rintro e w5 ⟨rfl,Vk,Vl⟩;have z00:w5.cell? ⟨0,0,none⟩=some (.iface eT (.pointer (some eA))):=Vk.lx.eof;have nn:=am (And.intro Vk Vl);clear Vk Vl))
    go_wp2_with (fail)
    go_ret2
    exact⟨_,qs,rfl,HQ.out.2.2.2.2,(show rX w.heap.size wx.drew (.slice A7 qs.length c7) qs from HQ.out.2.2.2.1).kt nn.out.2,nn.out.1.kt.Kr⟩
 | cons pc ML=>
  subst OH
  rw [List.length_cons] at u4 hgn
  obtain⟨gt,hgt,qM,eN⟩:=Vc hS hPs hT mv Wt (Vj hS)
  refine By (c:=⟨w2.heap.size,gi,gb,cap,xs++ [0],eT,eA⟩) (tt:=0) (i:=qs.length) qM hgt rfl h0 hl h6 h7 je (by omega) hPc (by omega) (R:=fun v' bN fs' fI p' =>EvR (xs++ [0]) pc ML v' bN fs' fI p') (eN.mono ?_) ?_
  ·rintro e w' ⟨v',bN,fs',fI,p',he,hr,hp⟩
   obtain⟨pe',fs1,f1,e1,e2,e3,e4⟩:=id hr
   exact⟨v',bN,fs',fI,p',he,hr,⟨e3.2.2.2.1,e3.2.2.2.2⟩,hp⟩
  ·rintro l' wx Pa v' bN fs' fI p' Ir h6' h7' agh ⟨pe',fs1,f1,rfl,hev,agi,hpc⟩ hP' L7
   refine hJ ML.length l' wx (by omega) Ir ⟨p',qs++ [⟨pc.kind,fI,bars bN⟩],ps1++ [pc],ML,pe',fs1,f1,v',bN,_,Pa,rfl,by rw [fi];simp,Ot.snoc hpc,h6',h7',?_,L7,hP',agi,hev⟩
   rw [agh,List.length_append]
   rfl
end Go.Proofs.YtlglijnaeaonpaaGreatDoor.Lx
end
