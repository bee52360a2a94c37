/- FnRules: a part of the proof (Ri). -/

section
set_option maxHeartbeats 8000000
set_option maxRecDepth 100000
set_option linter.unusedVariables false
set_option linter.unusedSimpArgs false
namespace Go.Proofs.YtlglijnaeaonpaaGreatDoor.Lx
def at_ (bs:List Int) (i:Int):Int:=bs.getD i.toNat 0
def Ws (b:Int):Prop:=b=32∨b=9∨b=10∨b=13∨b=12
def Dg (b:Int):Prop:=48≤b∧b≤57
def Sn (b:Int):Prop:=(97≤b∧b≤122)∨(65≤b∧b≤90)∨b=95∨128≤b
def Nm (b:Int):Prop:=(97≤b∧b≤122)∨(65≤b∧b≤90)∨(48≤b∧b≤57)∨b=95∨b=45∨128≤b
def Hx (b:Int):Prop:=(48≤b∧b≤57)∨(97≤b∧b≤102)∨(65≤b∧b≤70)
instance:DecidablePred Ws:=fun b=>by unfold Ws;infer_instance
instance:DecidablePred Dg:=fun b=>by unfold Dg;infer_instance
instance:DecidablePred Sn:=fun b=>by unfold Sn;infer_instance
instance:DecidablePred Nm:=fun b=>by unfold Nm;infer_instance
instance:DecidablePred Hx:=fun b=>by unfold Hx;infer_instance
theorem Sn.nm {b:Int} (h:Sn b):Nm b:=by unfold Sn at h;unfold Nm;omega
def run (f:Int→Prop) [DecidablePred f] (bs:List Int) (p:Int):Int:=p+((bs.drop p.toNat).takeWhile (fun b=>decide (f b))).length
section
variable {f:Int→Prop} [DecidablePred f] {bs:List Int} {p q:Int}
theorem uL (l:List Int):∀n:Nat,n≤l.length→(∀i:Nat,i<n→f (l.getD i 0))→(n=l.length∨¬f (l.getD n 0))→(l.takeWhile (fun b=>decide (f b))).length=n:=by
 induction l with
 | nil=>intro n hn _ _;simp at hn;simp [hn]
 | cons b l ih=>
  intro n hn ha he
  cases n with
  | zero=>
   rcases he with he|he
   ·simp at he
   ·simp at he;simp [List.takeWhile,he]
  | succ n=>
   have h0:f b:=by have:=ha 0 (by omega);simpa using this
   have:=ih n (by simpa using hn) (fun i hi=>by have:=ha (i+1) (by omega);simpa using this) (by
    rcases he with he|he
    ·left;simpa using he
    ·right;simpa using he)
   simp [List.takeWhile,h0,this]
theorem nT (bs:List Int) (n i:Nat):(bs.drop n).getD i 0=bs.getD (n+i) 0:=by
 simp [List.getD_eq_getElem?_getD,List.getElem?_drop]
theorem iM (h0:0≤p) (h1:p≤q) (h2:q≤bs.length) (ha:∀i,p≤i→i<q→f (at_ bs i)) (he:q=bs.length∨¬f (at_ bs q)):run f bs p=q:=by
 unfold run
 have:=uL (f:=f) (bs.drop p.toNat) (q - p).toNat (by simp;omega) (fun i hi=>by
  rw [nT]
  have:=ha (p+i) (by omega) (by omega)
  unfold at_ at this
  rwa [show (p+(i:Int)).toNat=p.toNat+i by omega] at this) (by
  rcases he with he|he
  ·left;simp;omega
  ·right;rw [nT];unfold at_ at he;rwa [show p.toNat+(q - p).toNat=q.toNat by omega])
 rw [this];omega
theorem xx (l:List Int):(l.takeWhile (fun b=>decide (f b))).length≤l.length:=by
 induction l with
 | nil=>simp
 | cons b l ih=>simp only [List.takeWhile];split<;>simp;omega
theorem uM (l:List Int):∀i:Nat,i<(l.takeWhile (fun b=>decide (f b))).length→f (l.getD i 0):=by
 induction l with
 | nil=>intro i hi;simp at hi
 | cons b l ih=>
  intro i hi
  simp only [List.takeWhile] at hi
  split at hi
  ·rename_i hb
   cases i with
   | zero=>simpa using hb
   | succ i=>have:=ih i (by simpa using hi);simpa using this
  ·simp at hi
theorem uN (l:List Int) (h:(l.takeWhile (fun b=>decide (f b))).length<l.length):¬f (l.getD (l.takeWhile (fun b=>decide (f b))).length 0):=by
 induction l with
 | nil=>simp at h
 | cons b l ih=>
  simp only [List.takeWhile] at h⊢
  split
  ·rename_i hb
   rw [hb] at h
   have:=ih (by simpa using h)
   simpa using this
  ·rename_i hb
   simpa using hb
theorem bL:p≤run f bs p:=by unfold run;omega
theorem ib (h0:0≤p) (h1:p≤bs.length):run f bs p≤bs.length:=by
 unfold run
 have:=xx (f:=f) (bs.drop p.toNat)
 simp at this
 omega
theorem pC (h0:0≤p) (i:Int) (h1:p≤i) (h2:i<run f bs p):f (at_ bs i):=by
 unfold run at h2
 have:=uM (f:=f) (bs.drop p.toNat) (i - p).toNat (by omega)
 rw [nT] at this
 unfold at_
 rwa [show p.toNat+(i - p).toNat=i.toNat by omega] at this
theorem xy (h0:0≤p) (h1:run f bs p<bs.length):¬f (at_ bs (run f bs p)):=by
 have h2:((bs.drop p.toNat).takeWhile (fun b=>decide (f b))).length<(bs.drop p.toNat).length:=by
  unfold run at h1
  simp;omega
 have:=uN (f:=f) (bs.drop p.toNat) h2
 rw [nT] at this
 unfold at_
 rwa [show (run f bs p).toNat=p.toNat+((bs.drop p.toNat).takeWhile (fun b=>decide (f b))).length by unfold run;omega]
theorem eI (h0:0≤p) (h1:p≤bs.length) (hn:¬f (at_ bs p)):run f bs p=p:=
 iM h0 (Int.le_refl _) h1 (fun i a b=>by omega) (.inr hn)
theorem fH (h0:0≤p) (h1:p<bs.length) (hf:f (at_ bs p)):run f bs p=run f bs (p+1):=by
 have h2:p+1≤bs.length:=by omega
 refine iM h0 (by have:=bL (f:=f) (bs:=bs) (p:=p+1);omega) (ib (by omega) h2) (fun i a b=> ?_) ?_
 ·by_cases hi:p<i
  ·exact pC (by omega) i (by omega) b
  ·rwa [show i=p by omega]
 ·by_cases hi:run f bs (p+1)<bs.length
  ·exact .inr (xy (by omega) hi)
  ·exact .inl (by have:=ib (f:=f) (bs:=bs) (p:=p+1) (by omega) h2;omega)
end
structure Ri (f:Int→Prop) (bs:List Int) (p q:Int) (k:Nat):Prop where
 h0:0≤p
 h1:p≤q
 h2:q≤bs.length
 all:∀i,p≤i→i<q→f (at_ bs i)
 k:k=((bs.length:Int) - q).toNat
section
variable {f:Int→Prop} {bs:List Int} {p q:Int} {k:Nat}
theorem Ri.start (h0:0≤p) (h2:p≤bs.length):Ri f bs p p ((bs.length:Int) - p).toNat:=⟨h0,Int.le_refl _,h2,fun i a b=>by omega,rfl⟩
theorem Ri.step (h:Ri f bs p q k) (h2:q+1≤bs.length) (hf:f (at_ bs q)):Ri f bs p (q+1) ((bs.length:Int) - (q+1)).toNat:=
 ⟨h.h0,by have:=h.h1;omega,h2,fun i a b=>by
  by_cases hi:i<q
  ·exact h.all i a hi
  ·rwa [show i=q by omega],rfl⟩
theorem Ri.lt (h:Ri f bs p q k) (h2:q+1≤bs.length):((bs.length:Int) - (q+1)).toNat<k:=by have:=h.k;omega
theorem Ri.done [DecidablePred f] (h:Ri f bs p q k) (he:¬f (at_ bs q)):q=run f bs p:=(iM h.h0 h.h1 h.h2 h.all (.inr he)).symm
end
def Fi (bs:List Int) (p q:Int) (b:Bool):Prop:=
 (b=true∧at_ bs p=43∧q=p+1)∨(b=true∧at_ bs p=45∧q=p+1)∨(b=false∧(at_ bs p==43)=false∧(at_ bs p==45)=false∧q=p)
def xz (bs:List Int) (p q:Int):Prop:=
 ((at_ bs p==101)=false∧(at_ bs p==69)=false∧q=p)∨
 ((at_ bs p=101∨at_ bs p=69)∧∃q3 b,Fi bs (p+1) q3 b∧((Dg (at_ bs q3)∧q=run Dg bs q3)∨(¬Dg (at_ bs q3)∧q=p)))
def pD (bs:List Int) (p q:Int):Prop:=∃q0 q1 q2 b fd,Fi bs p q0 b∧
 ((fd=true∧Dg (at_ bs q0)∧q1=run Dg bs q0)∨(fd=false∧¬Dg (at_ bs q0)∧q1=q0))∧
 ((at_ bs q1=46∧Dg (at_ bs (q1+1))∧q2=run Dg bs (q1+1))∨(at_ bs q1=46∧¬Dg (at_ bs (q1+1))∧fd=true∧q2=q1)∨((at_ bs q1==46)=false∧fd=true∧q2=q1))∧
 xz bs q2 q
def mm (bs:List Int) (p:Int):Prop:=∃q0 b,Fi bs p q0 b∧¬Dg (at_ bs q0)∧((at_ bs q0==46)=false∨(at_ bs q0=46∧¬Dg (at_ bs (q0+1))))
def lr (bs:List Int) (p:Int):Prop:=Sn (at_ bs p)∨(at_ bs p=45∧Sn (at_ bs (p+1)))
def fu (bs:List Int) (p:Int):Prop:=(¬Sn (at_ bs p)∧at_ bs p≠45)∨(at_ bs p=45∧¬Sn (at_ bs (p+1))∧at_ bs (p+1)≠45)
def Sc (d b:Int):Prop:=(b==0)=false∧(b==10)=false∧(b==13)=false∧(b==12)=false∧(b==d)=false∧(b==92)=false
def Uc (b:Int):Prop:=(b==41)=false∧(b==34)=false∧(b==39)=false∧(b==40)=false∧(b==92)=false∧(b==32)=false∧31<b∧(b==127)=false
instance (d:Int):DecidablePred (Sc d):=fun b=>by unfold Sc;infer_instance
instance:DecidablePred Uc:=fun b=>by unfold Uc;infer_instance
def oM (bs:List Int) (s p:Int):List Int:=(bs.drop s.toNat).take (p - s).toNat
theorem ic {bs:List Int} {s p:Int} (h0:0≤s) (h1:s≤p) (h2:p≤bs.length):(oM bs s p).length=(p - s).toNat:=by unfold oM;simp;omega
theorem sT {bs:List Int} {s p:Int} (h0:0≤s) (j:Nat) (hj:j<(p - s).toNat):(oM bs s p).getD j 0=bs.getD (s.toNat+j) 0:=by
 unfold oM
 simp [List.getD_eq_getElem?_getD,List.getElem?_take,hj,List.getElem?_drop]
theorem nc {bs:List Int} {s p:Int} (h0:0≤s) (j:Nat) (hj:j<(p - s).toNat):(oM bs s p).getD j 0=at_ bs (s+j):=by
 rw [sT h0 j hj];unfold at_;rw [show (s+(j:Int)).toNat=s.toNat+j by omega]
def Fa (d y:Int):Prop:=d=y∨(65≤d∧d≤90∧d+32=y)
instance (d y:Int):Decidable (Fa d y):=by unfold Fa;infer_instance
def gC (xs:List Int):Prop:=xs.length=3∧Fa (xs.getD 0 0) 117∧Fa (xs.getD 1 0) 114∧Fa (xs.getD 2 0) 108
instance:DecidablePred gC:=fun xs=>by unfold gC;infer_instance
def xA (bs:List Int) (q e:Int):Prop:=∃a b,a=run Ws bs q∧b=run Uc bs a∧(at_ bs a==34)=false∧(at_ bs a==39)=false∧
 ((at_ bs b=41∧e=b+1)∨(Ws (at_ bs b)∧at_ bs (run Ws bs b)=41∧e=run Ws bs b+1))
def Bk (b t:Int):Prop:=(b=40∧t=28)∨(b=41∧t=29)∨(b=91∧t=26)∨(b=93∧t=27)∨(b=123∧t=30)∨(b=125∧t=31)
def Mt (b t:Int):Prop:=(b=126∧t=14)∨(b=124∧t=15)∨(b=94∧t=16)∨(b=36∧t=17)∨(b=42∧t=18)
theorem NW {b:Int} (h:Nm b):
  (97≤b∧b≤122∧65≤b∧¬b≤90∧48≤b∧¬b≤57∧¬128≤b∧(b==95)=false∧(b==45)=false)∨
  (¬97≤b∧b≤122∧65≤b∧b≤90∧48≤b∧¬b≤57∧¬128≤b∧(b==95)=false∧(b==45)=false)∨
  (¬97≤b∧b≤122∧¬65≤b∧b≤90∧48≤b∧b≤57∧¬128≤b∧(b==95)=false∧(b==45)=false)∨
  (¬97≤b∧b≤122∧65≤b∧¬b≤90∧48≤b∧¬b≤57∧¬128≤b∧(b==95)=true∧(b==45)=false)∨
  (¬97≤b∧b≤122∧¬65≤b∧b≤90∧¬48≤b∧b≤57∧¬128≤b∧(b==95)=false∧(b==45)=true)∨
  (97≤b∧¬b≤122∧65≤b∧¬b≤90∧48≤b∧¬b≤57∧128≤b∧(b==95)=false∧(b==45)=false):=by
 have h2:(97≤b∧b≤122)∨(65≤b∧b≤90)∨(48≤b∧b≤57)∨(b=95)∨(b=45)∨(128≤b):=by unfold Nm at h;omega
 rcases h2 with h2|h2|h2|h2|h2|h2
 ·exact Or.inl ⟨by omega,by omega,by omega,by omega,by omega,by omega,by omega,by simp;omega,by simp;omega⟩
 ·exact Or.inr (Or.inl ⟨by omega,by omega,by omega,by omega,by omega,by omega,by omega,by simp;omega,by simp;omega⟩)
 ·exact Or.inr (Or.inr (Or.inl ⟨by omega,by omega,by omega,by omega,by omega,by omega,by omega,by simp;omega,by simp;omega⟩))
 ·exact Or.inr (Or.inr (Or.inr (Or.inl ⟨by omega,by omega,by omega,by omega,by omega,by omega,by omega,by simp;omega,by simp;omega⟩)))
 ·exact Or.inr (Or.inr (Or.inr (Or.inr (Or.inl ⟨by omega,by omega,by omega,by omega,by omega,by omega,by omega,by simp;omega,by simp;omega⟩))))
 ·exact Or.inr (Or.inr (Or.inr (Or.inr (Or.inr (⟨by omega,by omega,by omega,by omega,by omega,by omega,by omega,by simp;omega,by simp;omega⟩)))))
theorem TF {b:Int} (h:¬Nm b):
  (¬97≤b∧b≤122∧¬65≤b∧b≤90∧¬48≤b∧b≤57∧¬128≤b∧(b==95)=false∧(b==45)=false)∨
  (¬97≤b∧b≤122∧¬65≤b∧b≤90∧48≤b∧¬b≤57∧¬128≤b∧(b==95)=false∧(b==45)=false)∨
  (¬97≤b∧b≤122∧65≤b∧¬b≤90∧48≤b∧¬b≤57∧¬128≤b∧(b==95)=false∧(b==45)=false)∨
  (97≤b∧¬b≤122∧65≤b∧¬b≤90∧48≤b∧¬b≤57∧¬128≤b∧(b==95)=false∧(b==45)=false):=by
 have h2:(b≤44)∨(46≤b∧b≤47)∨(58≤b∧b≤64)∨(91≤b∧b≤94)∨(b=96)∨(123≤b∧b≤127):=by unfold Nm at h;omega
 rcases h2 with h2|h2|h2|h2|h2|h2
 ·exact Or.inl ⟨by omega,by omega,by omega,by omega,by omega,by omega,by omega,by simp;omega,by simp;omega⟩
 ·exact Or.inl ⟨by omega,by omega,by omega,by omega,by omega,by omega,by omega,by simp;omega,by simp;omega⟩
 ·exact Or.inr (Or.inl ⟨by omega,by omega,by omega,by omega,by omega,by omega,by omega,by simp;omega,by simp;omega⟩)
 ·exact Or.inr (Or.inr (Or.inl ⟨by omega,by omega,by omega,by omega,by omega,by omega,by omega,by simp;omega,by simp;omega⟩))
 ·exact Or.inr (Or.inr (Or.inl ⟨by omega,by omega,by omega,by omega,by omega,by omega,by omega,by simp;omega,by simp;omega⟩))
 ·exact Or.inr (Or.inr (Or.inr (⟨by omega,by omega,by omega,by omega,by omega,by omega,by omega,by simp;omega,by simp;omega⟩)))
theorem Yo {b:Int} (h:Sn b):
  (97≤b∧b≤122∧65≤b∧¬b≤90∧¬128≤b∧(b==95)=false)∨
  (¬97≤b∧b≤122∧65≤b∧b≤90∧¬128≤b∧(b==95)=false)∨
  (¬97≤b∧b≤122∧65≤b∧¬b≤90∧¬128≤b∧(b==95)=true)∨
  (97≤b∧¬b≤122∧65≤b∧¬b≤90∧128≤b∧(b==95)=false):=by
 have h2:(97≤b∧b≤122)∨(65≤b∧b≤90)∨(b=95)∨(128≤b):=by unfold Sn at h;omega
 rcases h2 with h2|h2|h2|h2
 ·exact Or.inl ⟨by omega,by omega,by omega,by omega,by omega,by simp;omega⟩
 ·exact Or.inr (Or.inl ⟨by omega,by omega,by omega,by omega,by omega,by simp;omega⟩)
 ·exact Or.inr (Or.inr (Or.inl ⟨by omega,by omega,by omega,by omega,by omega,by simp;omega⟩))
 ·exact Or.inr (Or.inr (Or.inr (⟨by omega,by omega,by omega,by omega,by omega,by simp;omega⟩)))
theorem Yp {b:Int} (h:¬Sn b):
  (¬97≤b∧b≤122∧¬65≤b∧b≤90∧¬128≤b∧(b==95)=false)∨
  (¬97≤b∧b≤122∧65≤b∧¬b≤90∧¬128≤b∧(b==95)=false)∨
  (97≤b∧¬b≤122∧65≤b∧¬b≤90∧¬128≤b∧(b==95)=false):=by
 have h2:(b≤64)∨(91≤b∧b≤94)∨(b=96)∨(123≤b∧b≤127):=by unfold Sn at h;omega
 rcases h2 with h2|h2|h2|h2
 ·exact Or.inl ⟨by omega,by omega,by omega,by omega,by omega,by simp;omega⟩
 ·exact Or.inr (Or.inl ⟨by omega,by omega,by omega,by omega,by omega,by simp;omega⟩)
 ·exact Or.inr (Or.inl ⟨by omega,by omega,by omega,by omega,by omega,by simp;omega⟩)
 ·exact Or.inr (Or.inr (⟨by omega,by omega,by omega,by omega,by omega,by simp;omega⟩))
def nU (bs:List Int) (p:Int):Prop:=at_ bs (p+1)=43→¬Hx (at_ bs (p+2))∧at_ bs (p+2)≠63
def Unit (bs:List Int) (q k e:Int):Prop:=
 ((at_ bs q==37)=true∧k=11∧e=q+1)∨((at_ bs q==37)=false∧lr bs q∧k=12∧e=run Nm bs q)∨((at_ bs q==37)=false∧fu bs q∧k=10∧e=q)
def sU (bs:List Int) (p k e:Int):Prop:=
 ((at_ bs (run Nm bs p)==40)=false∧k=1∧e=run Nm bs p)∨
 (at_ bs (run Nm bs p)=40∧¬gC (oM bs p (run Nm bs p))∧k=2∧e=run Nm bs p+1)∨
 (at_ bs (run Nm bs p)=40∧gC (oM bs p (run Nm bs p))∧xA bs (run Nm bs p+1) e∧p<e∧at_ bs p≠45∧k=7)
inductive Tok (bs:List Int) (p:Int):Int→Int→Prop where
 | ws (h:Ws (at_ bs p)):Tok bs p 20 (run Ws bs p)
 | colon (h:at_ bs p=58):Tok bs p 23 (p+1)
 | sV (h:at_ bs p=59):Tok bs p 24 (p+1)
 | comma (h:at_ bs p=44):Tok bs p 25 (p+1)
 | bracket (t:Int) (h:Bk (at_ bs p) t):Tok bs p t (p+1)
 | hash (h:at_ bs p=35) (h1:Nm (at_ bs (p+1))):Tok bs p 4 (run Nm bs (p+1))
 | string (r:Int) (h0:at_ bs p=34∨at_ bs p=39) (h1:p+1≤r) (h2:r+1<bs.length) (ha:∀i,p+1≤i→i<r→Sc (at_ bs p) (at_ bs i)) (h3:at_ bs r=at_ bs p):Tok bs p 5 (r+1)
 | TH (h:at_ bs p=64) (h1:lr bs (p+1)):Tok bs p 3 (run Nm bs (p+1))
 | JG (t:Int) (h:Mt (at_ bs p) t) (h1:at_ bs (p+1)=61):Tok bs p t (p+2)
 | star (h:at_ bs p=42∨at_ bs p=126) (h1:(at_ bs (p+1)==61)=false):Tok bs p 9 (p+1)
 | dot (h:at_ bs p=46∨at_ bs p=43) (h1:mm bs p):Tok bs p 9 (p+1)
 | gt (h:at_ bs p=62∨at_ bs p=61):Tok bs p 9 (p+1)
 | num (q k e:Int) (h:pD bs p q) (hu:Unit bs q k e) (hf:Dg (at_ bs p)∨at_ bs p=46∨at_ bs p=43∨(at_ bs p=45∧fu bs p∧(at_ bs (p+1)==45)=false)):Tok bs p k e
 | uO (k e:Int) (h:lr bs p) (hl:sU bs p k e) (hf:(at_ bs p=117∨at_ bs p=85)→nU bs p) (hm:at_ bs p=45→(at_ bs (p+1)==45)=false):Tok bs p k e
def zS (bs:List Int) (p k q:Int) (xs:List Int):Prop:=(Tok bs p k q∧xs=oM bs p q)∨(p+1=bs.length∧k=0∧q=p∧xs= [])
def eo (bs:List Int) (p k q:Int) (xs:List Int) (ws:Bool):Prop:=
 k≠20∧k≠32∧((ws=false∧zS bs p k q xs)∨(ws=true∧Ws (at_ bs p)∧zS bs (run Ws bs p) k q xs))
structure Tk where
 tt:Int
 bs:List Int
def Ih (k:Int):Prop:=k=28∨k=26∨k=2
def NX (k:Int):Prop:=k=29∨k=27
def rM (k:Int):Prop:=(k==28)=false∧(k==26)=false∧(k==2)=false∧(k==29)=false∧(k==27)=false∧(k==30)=false∧(k==31)=false∧(k==24)=false∧(k==0)=false
inductive eJ (bs:List Int) (q:Int):Nat→Int→List (Tk×Bool)→Prop where
 | done:eJ bs q 0 q []
 | V6 (lvl:Nat) (p q1:Int) (t:Tk) (ws:Bool) (r:List (Tk×Bool)) (h:eo bs p t.tt q1 t.bs ws) (hk:Ih t.tt) (hr:eJ bs q (lvl+1) q1 r):eJ bs q lvl p ((t,ws)::r)
 | cls (lvl:Nat) (p q1:Int) (t:Tk) (ws:Bool) (r:List (Tk×Bool)) (h:eo bs p t.tt q1 t.bs ws) (hk:NX t.tt) (hr:eJ bs q lvl q1 r):eJ bs q (lvl+1) p ((t,ws)::r)
 | uP (lvl:Nat) (p q1:Int) (t:Tk) (ws:Bool) (r:List (Tk×Bool)) (h:eo bs p t.tt q1 t.bs ws) (hk:rM t.tt) (hr:eJ bs q lvl q1 r):eJ bs q lvl p ((t,ws)::r)
def flat:List (Tk×Bool)→List Tk
 | []=> []
 | (t,true)::r=>⟨20,[32]⟩::t::flat r
 | (t,false)::r=>t::flat r
def step (lvl:Nat) (k:Int) (lvl' :Nat):Prop:=(Ih k∧lvl' =lvl+1)∨(NX k∧lvl=lvl' +1)∨(rM k∧lvl' =lvl)
theorem eJ.cons {bs:List Int} {q p:Int} {lvl:Nat} {x:Tk×Bool} {r:List (Tk×Bool)} (h:eJ bs q lvl p (x::r)):
  ∃q1 lvl',eo bs p x.1.tt q1 x.1.bs x.2∧step lvl x.1.tt lvl' ∧eJ bs q lvl' q1 r:=by
 cases h with
 | V6 _ _ q1 t ws _ h hk hr=>exact⟨q1,_,h,.inl ⟨hk,rfl⟩,hr⟩
 | cls _ _ q1 t ws _ h hk hr=>exact⟨q1,_,h,.inr (.inl ⟨hk,rfl⟩),hr⟩
 | uP _ _ q1 t ws _ h hk hr=>exact⟨q1,_,h,.inr (.inr ⟨hk,rfl⟩),hr⟩
theorem eJ.GG {bs:List Int} {q p:Int} {lvl:Nat} (h:eJ bs q lvl p []):lvl=0∧p=q:=by
 cases h;exact⟨rfl,rfl⟩
def dk (t:Int):Prop:=t=0∨t=32∨t=10∨t=59∨t=58∨t=123∨t=125
structure mu (ws bs:List Int) (o:Int):Prop where
 h0:0≤o
 h1:o+ws.length<bs.length
 eq:∀i:Int,0≤i→i<ws.length→at_ bs (o+i)=at_ ws i
 stp:dk (at_ bs (o+ws.length))
theorem aY (ws:List Int) (i:Int):at_ (ws++ [0]) i=at_ ws i:=by
 unfold at_
 rw [List.getD_eq_getElem?_getD,List.getD_eq_getElem?_getD]
 rcases Nat.lt_trichotomy i.toNat ws.length with h|h|h
 ·rw [List.getElem?_append_left h]
 ·rw [List.getElem?_append_right (by omega),h,Nat.sub_self,List.getElem?_eq_none (Nat.le_refl ws.length)];rfl
 ·rw [List.getElem?_eq_none (by simp;omega),List.getElem?_eq_none (Nat.le_of_lt h)]
theorem fN {ws:List Int} {i:Int} (h:ws.length≤i):at_ ws i=0:=by
 unfold at_
 rw [List.getD_eq_getElem?_getD,List.getElem?_eq_none (by omega)];rfl
theorem sW {ws:List Int} {i:Int} (h:at_ ws i≠0):i<ws.length:=by
 rcases Int.lt_or_le i ws.length with h1|h1
 ·exact h1
 ·exact absurd (fN h1) h
section
variable {ws bs:List Int} {o p q r:Int} {f:Int→Prop} [DecidablePred f]
theorem pE (h0:0≤p) (h1:p≤ws.length) (hf:¬f 0):run f (ws++ [0]) p≤ws.length:=by
 have h2:=ib (f:=f) (bs:=ws++ [0]) (p:=p) h0 (by simp;omega)
 rcases Int.lt_or_le (ws.length:Int) (run f (ws++ [0]) p) with h3|h3
 ·exfalso
  have h4:=pC (f:=f) (bs:=ws++ [0]) (p:=p) h0 ws.length h1 h3
  rw [aY,fN (Int.le_refl _)] at h4
  exact hf h4
 ·exact h3
theorem kU (h:mu ws bs o) (h0:0≤p) (h1:p≤ws.length) (hf:¬f 0) (hs:run f (ws++ [0]) p<ws.length∨¬f (at_ bs (o+ws.length))):run f bs (o+p)=o+run f (ws++ [0]) p:=by
 have h2:=pE (f:=f) (ws:=ws) h0 h1 hf
 have h3:=bL (f:=f) (bs:=ws++ [0]) (p:=p)
 have h4:=h.h0
 have h5:=h.h1
 refine iM (by omega) (by omega) (by omega) (fun i a b=> ?_) ?_
 ·have h6:=pC (f:=f) (bs:=ws++ [0]) (p:=p) h0 (i - o) (by omega) (by omega)
  rw [aY,←h.eq (i - o) (by omega) (by omega),show o+(i - o)=i by omega] at h6
  exact h6
 ·right
  by_cases h7:run f (ws++ [0]) p<ws.length
  ·have h6:=xy (f:=f) (bs:=ws++ [0]) (p:=p) h0 (by simp;omega)
   rw [aY,←h.eq _ (by omega) (by omega)] at h6
   exact h6
  ·rcases hs with hs|hs
   ·exact absurd hs h7
   ·rw [show run f (ws++ [0]) p=ws.length by omega];exact hs
end
section
variable {ws bs:List Int} {o p q r k e:Int}
theorem dk.nm {t:Int} (h:dk t):¬Nm t:=by unfold dk at h;unfold Nm;omega
theorem dk.dg {t:Int} (h:dk t):¬Dg t:=by unfold dk at h;unfold Dg;omega
theorem dk.sn {t:Int} (h:dk t):¬Sn t:=by unfold dk at h;unfold Sn;omega
theorem dk.hx {t:Int} (h:dk t):¬Hx t:=by unfold dk at h;unfold Hx;omega
theorem mu.atb (h:mu ws bs o) (h0:0≤p) (h1:p≤ws.length):at_ bs (o+p)=at_ (ws++ [0]) p∨(p=ws.length∧dk (at_ bs (o+p))∧at_ (ws++ [0]) p=0):=by
 rw [aY]
 rcases Int.lt_or_le p ws.length with h2|h2
 ·exact .inl (h.eq p h0 h2)
 ·have h3:p=ws.length:=by omega
  subst h3
  exact .inr ⟨rfl,h.stp,fN (Int.le_refl _)⟩
theorem mu.lt (h0:0≤p) (hn:at_ (ws++ [0]) p≠0):p<ws.length:=by rw [aY] at hn;exact sW hn
theorem mu.mid (h:mu ws bs o) (h0:0≤p) (hn:at_ (ws++ [0]) p≠0):at_ bs (o+p)=at_ (ws++ [0]) p:=by
 rw [aY];exact h.eq p h0 (mu.lt h0 hn)
theorem mu.rz (h:mu ws bs o) {f:Int→Prop} (hf:∀t,dk t→¬f t) (h0:0≤p) (h1:p≤ws.length) (hn:¬f (at_ (ws++ [0]) p)):¬f (at_ bs (o+p)):=by
 rcases h.atb h0 h1 with h2|⟨_,h2,_⟩
 ·rwa [h2]
 ·exact hf _ h2
theorem mu.beq (h:mu ws bs o) {t:Int} (ht:¬dk t) (h0:0≤p) (h1:p≤ws.length) (hn:(at_ (ws++ [0]) p==t)=false):(at_ bs (o+p)==t)=false:=by
 have:=h.rz (f:=fun x=>x=t) (fun t' vJ e=>ht (e▸vJ)) h0 h1 (by simpa using hn)
 simpa using this
theorem mu.is (h:mu ws bs o) {f:Int→Prop} (hf:¬f 0) (h0:0≤p) (hn:f (at_ (ws++ [0]) p)):f (at_ bs (o+p))∧p<ws.length:=by
 have h1:at_ (ws++ [0]) p≠0:=fun e=>hf (e▸hn)
 exact⟨by rw [h.mid h0 h1];exact hn,mu.lt h0 h1⟩
theorem Fi.shift (h:mu ws bs o) (h0:0≤p) (h1:p≤ws.length) {b:Bool} (hs:Fi (ws++ [0]) p q b):Fi bs (o+p) (o+q) b∧q≤ws.length∧p≤q:=by
 rcases hs with ⟨hb,h2,rfl⟩|⟨hb,h2,rfl⟩|⟨hb,h2,h3,rfl⟩
 ·have h4:=h.is (f:=fun x=>x=43) (by decide) h0 h2
  exact⟨.inl ⟨hb,h4.1,by omega⟩,by omega,by omega⟩
 ·have h4:=h.is (f:=fun x=>x=45) (by decide) h0 h2
  exact⟨.inr (.inl ⟨hb,h4.1,by omega⟩),by omega,by omega⟩
 ·exact⟨.inr (.inr ⟨hb,h.beq (by unfold dk;omega) h0 h1 h2,h.beq (by unfold dk;omega) h0 h1 h3,rfl⟩),h1,Int.le_refl _⟩
theorem sX (h:mu ws bs o) (h0:0≤p) (h1:p≤ws.length):run Dg bs (o+p)=o+run Dg (ws++ [0]) p∧run Dg (ws++ [0]) p≤ws.length∧p≤run Dg (ws++ [0]) p:=
 ⟨kU h h0 h1 (by decide) (.inr h.stp.dg),pE h0 h1 (by decide),bL⟩
theorem pF (h:mu ws bs o) (h0:0≤p) (h1:p≤ws.length):run Nm bs (o+p)=o+run Nm (ws++ [0]) p∧run Nm (ws++ [0]) p≤ws.length∧p≤run Nm (ws++ [0]) p:=
 ⟨kU h h0 h1 (by decide) (.inr h.stp.nm),pE h0 h1 (by decide),bL⟩
theorem xz.shift (h:mu ws bs o) (h0:0≤p) (h1:p≤ws.length) (he:xz (ws++ [0]) p q):xz bs (o+p) (o+q)∧q≤ws.length∧p≤q:=by
 rcases he with ⟨h2,h3,rfl⟩|⟨h2,q3,b,h3,h4⟩
 ·exact⟨.inl ⟨h.beq (by unfold dk;omega) h0 h1 h2,h.beq (by unfold dk;omega) h0 h1 h3,rfl⟩,h1,Int.le_refl _⟩
 ·have h5:=h.is (f:=fun x=>x=101∨x=69) (by decide) h0 h2
  have h6:=h3.shift h (by omega) (by omega)
  rcases h4 with ⟨h7,rfl⟩|⟨h7,rfl⟩
  ·have h8:=h.is (f:=Dg) (by decide) (by omega) h7
   have h9:=sX h (p:=q3) (by omega) (by omega)
   exact⟨.inr ⟨h5.1,o+q3,b,by rw [show o+p+1=o+(p+1) by omega];exact h6.1,.inl ⟨h8.1,h9.1.symm⟩⟩,by omega,by omega⟩
  ·exact⟨.inr ⟨h5.1,o+q3,b,by rw [show o+q+1=o+(q+1) by omega];exact h6.1,.inr ⟨h.rz (fun _ h=>h.dg) (by omega) (by omega) h7,rfl⟩⟩,by omega,by omega⟩
theorem pD.shift (h:mu ws bs o) (h0:0≤p) (h1:p≤ws.length) (hn:pD (ws++ [0]) p q):pD bs (o+p) (o+q)∧q≤ws.length∧p≤q:=by
 obtain⟨q0,q1,q2,b,fd,h2,h3,h4,h5⟩:=hn
 have a1:=h2.shift h h0 h1
 have a2:((fd=true∧Dg (at_ bs (o+q0))∧o+q1=run Dg bs (o+q0))∨(fd=false∧¬Dg (at_ bs (o+q0))∧o+q1=o+q0))∧q1≤ws.length∧q0≤q1:=by
  rcases h3 with ⟨h6,h7,rfl⟩|⟨h6,h7,rfl⟩
  ·have h8:=h.is (f:=Dg) (by decide) (by omega) h7
   have h9:=sX h (p:=q0) (by omega) (by omega)
   exact⟨.inl ⟨h6,h8.1,h9.1.symm⟩,h9.2.1,h9.2.2⟩
  ·exact⟨.inr ⟨h6,h.rz (fun _ h=>h.dg) (by omega) (by omega) h7,rfl⟩,by omega,by omega⟩
 have a3:((at_ bs (o+q1)=46∧Dg (at_ bs (o+q1+1))∧o+q2=run Dg bs (o+q1+1))∨(at_ bs (o+q1)=46∧¬Dg (at_ bs (o+q1+1))∧fd=true∧o+q2=o+q1)∨((at_ bs (o+q1)==46)=false∧fd=true∧o+q2=o+q1))∧q2≤ws.length∧q1≤q2:=by
  rw [show o+q1+1=o+(q1+1) by omega]
  rcases h4 with ⟨h6,h7,rfl⟩|⟨h6,h7,h8,rfl⟩|⟨h6,h8,rfl⟩
  ·have h8:=h.is (f:=fun x=>x=46) (by decide) (by omega) h6
   have h9:=h.is (f:=Dg) (by decide) (by omega) h7
   have dG:=sX h (p:=q1+1) (by omega) (by omega)
   exact⟨.inl ⟨h8.1,h9.1,dG.1.symm⟩,dG.2.1,by omega⟩
  ·have h9:=h.is (f:=fun x=>x=46) (by decide) (by omega) h6
   exact⟨.inr (.inl ⟨h9.1,h.rz (fun _ h=>h.dg) (by omega) (by omega) h7,h8,rfl⟩),by omega,by omega⟩
  ·exact⟨.inr (.inr ⟨h.beq (by unfold dk;omega) (by omega) (by omega) h6,h8,rfl⟩),by omega,by omega⟩
 have a4:=h5.shift h (by omega) (by omega)
 exact⟨⟨o+q0,o+q1,o+q2,b,fd,a1.1,a2.1,a3.1,a4.1⟩,a4.2.1,by omega⟩
theorem mm.shift (h:mu ws bs o) (h0:0≤p) (h1:p≤ws.length) (hn:mm (ws++ [0]) p):mm bs (o+p):=by
 obtain⟨q0,b,h2,h3,h4⟩:=hn
 have a1:=h2.shift h h0 h1
 refine⟨o+q0,b,a1.1,h.rz (fun _ h=>h.dg) (by omega) (by omega) h3,?_⟩
 rcases h4 with h4|⟨h4,h5⟩
 ·exact .inl (h.beq (by unfold dk;omega) (by omega) (by omega) h4)
 ·have h6:=h.is (f:=fun x=>x=46) (by decide) (by omega) h4
  refine .inr ⟨h6.1,?_⟩
  rw [show o+q0+1=o+(q0+1) by omega]
  exact h.rz (fun _ h=>h.dg) (by omega) (by omega) h5
theorem lr.shift (h:mu ws bs o) (h0:0≤p) (hi:lr (ws++ [0]) p):lr bs (o+p)∧p<ws.length:=by
 rcases hi with hi|⟨hi,hj⟩
 ·have h2:=h.is (f:=Sn) (by decide) h0 hi
  exact⟨.inl h2.1,h2.2⟩
 ·have h2:=h.is (f:=fun x=>x=45) (by decide) h0 hi
  have h3:=h.is (f:=Sn) (by decide) (by omega) hj
  exact⟨.inr ⟨h2.1,by rw [show o+p+1=o+(p+1) by omega];exact h3.1⟩,h2.2⟩
theorem fu.shift (h:mu ws bs o) (h0:0≤p) (h1:p≤ws.length) (hi:fu (ws++ [0]) p):fu bs (o+p):=by
 rcases hi with ⟨hi,hj⟩|⟨hi,hj,hk⟩
 ·exact .inl ⟨h.rz (fun _ h=>h.sn) h0 h1 hi,h.rz (f:=fun x=>x=45) (fun t h e=>by unfold dk at h;omega) h0 h1 hj⟩
 ·have h2:=h.is (f:=fun x=>x=45) (by decide) h0 hi
  refine .inr ⟨h2.1,?_⟩
  rw [show o+p+1=o+(p+1) by omega]
  exact⟨h.rz (fun _ h=>h.sn) (by omega) (by omega) hj,h.rz (f:=fun x=>x=45) (fun t h e=>by unfold dk at h;omega) (by omega) (by omega) hk⟩
theorem Unit.shift (h:mu ws bs o) (h0:0≤p) (h1:p≤ws.length) (hu:Unit (ws++ [0]) p k e):Unit bs (o+p) k (o+e)∧e≤ws.length∧p≤e:=by
 rcases hu with ⟨h2,rfl,rfl⟩|⟨h2,h3,rfl,rfl⟩|⟨h2,h3,rfl,rfl⟩
 ·have h4:=h.is (f:=fun x=>x=37) (by decide) h0 (by simpa using h2)
  exact⟨.inl ⟨by simpa using h4.1,rfl,by omega⟩,by omega,by omega⟩
 ·have h4:=h3.shift h h0
  have h5:=pF h h0 h1
  exact⟨.inr (.inl ⟨h.beq (by unfold dk;omega) h0 h1 h2,h4.1,rfl,h5.1.symm⟩),h5.2.1,h5.2.2⟩
 ·exact⟨.inr (.inr ⟨h.beq (by unfold dk;omega) h0 h1 h2,h3.shift h h0 h1,rfl,rfl⟩),h1,Int.le_refl _⟩
theorem jf (h:mu ws bs o) (h0:0≤p) (h1:p≤q) (h2:q≤ws.length):oM bs (o+p) (o+q)=oM (ws++ [0]) p q:=by
 have h3:=h.h0
 have h4:=h.h1
 have l1:=ic (bs:=bs) (s:=o+p) (p:=o+q) (by omega) (by omega) (by omega)
 have l2:=ic (bs:=ws++ [0]) (s:=p) (p:=q) h0 h1 (by simp;omega)
 refine List.ext_getElem (by omega) fun i i1 i2=> ?_
 have e1:=nc (bs:=bs) (s:=o+p) (p:=o+q) (by omega) i (by omega)
 have e2:=nc (bs:=ws++ [0]) (s:=p) (p:=q) h0 i (by omega)
 rw [List.getD_eq_getElem?_getD,List.getElem?_eq_getElem i1] at e1
 rw [List.getD_eq_getElem?_getD,List.getElem?_eq_getElem i2] at e2
 simp only [Option.getD_some] at e1 e2
 rw [e1,e2,aY,show o+p+(i:Int)=o+(p+i) by omega]
 exact h.eq _ (by omega) (by omega)
theorem uc0:¬Uc 0:=by decide
theorem xA.shift (h:mu ws bs o) (h0:0≤p) (h1:p≤ws.length) (hu:xA (ws++ [0]) p e):xA bs (o+p) (o+e)∧e≤ws.length∧p<e:=by
 obtain⟨a,b,rfl,rfl,h2,h3,h4⟩:=hu
 have l1:=bL (f:=Ws) (bs:=ws++ [0]) (p:=p)
 have l2:=bL (f:=Uc) (bs:=ws++ [0]) (p:=run Ws (ws++ [0]) p)
 have m1:=pE (f:=Ws) (ws:=ws) h0 h1 (by decide)
 have m2:=pE (f:=Uc) (ws:=ws) (p:=run Ws (ws++ [0]) p) (by omega) m1 uc0
 have hb:run Uc (ws++ [0]) (run Ws (ws++ [0]) p)<ws.length:=by
  rcases h4 with ⟨h4,_⟩|⟨h4,_,_⟩
  ·exact(h.is (f:=fun x=>x=41) (by decide) (by omega) h4).2
  ·exact(h.is (f:=Ws) (by decide) (by omega) h4).2
 have e1:=kU (f:=Ws) h h0 h1 (by decide) (.inl (by omega))
 have e2:=kU (f:=Uc) h (p:=run Ws (ws++ [0]) p) (by omega) m1 uc0 (.inl hb)
 refine⟨⟨_,_,rfl,rfl,?_,?_,?_⟩,?_⟩
 ·rw [e1];exact h.beq (by unfold dk;omega) (by omega) (by omega) h2
 ·rw [e1];exact h.beq (by unfold dk;omega) (by omega) (by omega) h3
 ·rw [e1,e2]
  rcases h4 with ⟨h4,rfl⟩|⟨h4,h5,rfl⟩
  ·exact .inl ⟨(h.is (f:=fun x=>x=41) (by decide) (by omega) h4).1,by omega⟩
  ·have l3:=bL (f:=Ws) (bs:=ws++ [0]) (p:=run Uc (ws++ [0]) (run Ws (ws++ [0]) p))
   have h6:=h.is (f:=fun x=>x=41) (by decide) (by omega) h5
   have e3:=kU (f:=Ws) h (p:=run Uc (ws++ [0]) (run Ws (ws++ [0]) p)) (by omega) m2 (by decide) (.inl h6.2)
   refine .inr ⟨(h.is (f:=Ws) (by decide) (by omega) h4).1,?_⟩
   rw [e3]
   exact⟨h6.1,by omega⟩
 ·rcases h4 with ⟨h4,rfl⟩|⟨h4,h5,rfl⟩
  ·exact⟨by omega,by omega⟩
  ·have l3:=bL (f:=Ws) (bs:=ws++ [0]) (p:=run Uc (ws++ [0]) (run Ws (ws++ [0]) p))
   have h6:=h.is (f:=fun x=>x=41) (by decide) (by omega) h5
   exact⟨by omega,by omega⟩
theorem sU.shift (h:mu ws bs o) (h0:0≤p) (hp:p<ws.length) (hl:sU (ws++ [0]) p k e):sU bs (o+p) k (o+e)∧e≤ws.length:=by
 have a:=pF h h0 (by omega:p≤ws.length)
 rcases hl with ⟨h1,rfl,rfl⟩|⟨h1,h2,rfl,rfl⟩|⟨h1,h2,h3,h4,h5,rfl⟩
 ·refine⟨.inl ?_,a.2.1⟩
  rw [a.1]
  exact⟨h.beq (by unfold dk;omega) (by omega) (by omega) h1,rfl,rfl⟩
 ·have h4:=h.is (f:=fun x=>x=40) (by decide) (by omega) h1
  refine⟨.inr (.inl ?_),by omega⟩
  rw [a.1,jf h h0 a.2.2 a.2.1]
  exact⟨h4.1,h2,rfl,by omega⟩
 ·have h6:=h.is (f:=fun x=>x=40) (by decide) (by omega) h1
  have h7:=h3.shift h (by omega) (by omega)
  refine⟨.inr (.inr ?_),h7.2.1⟩
  rw [a.1,jf h h0 a.2.2 a.2.1,show o+run Nm (ws++ [0]) p+1=o+(run Nm (ws++ [0]) p+1) by omega]
  refine⟨h6.1,h2,h7.1,by omega,?_,rfl⟩
  rw [h.eq p h0 hp,←aY]
  exact h5
theorem nU.shift (h:mu ws bs o) (h0:0≤p) (hp:p<ws.length) (hr:nU (ws++ [0]) p):nU bs (o+p):=by
 unfold nU at*
 rw [show o+p+1=o+(p+1) by omega,show o+p+2=o+(p+2) by omega]
 intro h1
 rcases h.atb (p:=p+1) (by omega) (by omega) with h2|⟨_,h2,_⟩
 ·rw [h2] at h1
  have h3:=h.is (f:=fun x=>x=43) (by decide) (by omega) h1
  have h4:=hr h1
  exact⟨h.rz (fun _ h=>h.hx) (by omega) (by omega) h4.1,h.rz (f:=fun x=>x=63) (fun t h e=>by unfold dk at h;omega) (by omega) (by omega) h4.2⟩
 ·exfalso;rw [h1] at h2;unfold dk at h2;omega
theorem mt0 (t:Int):¬Mt 0 t:=by unfold Mt;omega
theorem bk0 (t:Int):¬Bk 0 t:=by unfold Bk;omega
theorem Tok.shift (h:mu ws bs o) (h0:0≤p) (hk:k≠20) (ht:Tok (ws++ [0]) p k e):Tok bs (o+p) k (o+e)∧e≤ws.length∧p<ws.length:=by
 have s1:o+p+1=o+(p+1):=by omega
 cases ht with
 | ws _=>exact absurd rfl hk
 | colon h1=>
  have h2:=h.is (f:=fun x=>x=58) (by decide) h0 h1
  rw [show o+(p+1)=o+p+1 by omega]
  exact⟨.colon h2.1,by omega,h2.2⟩
 | sV h1=>
  have h2:=h.is (f:=fun x=>x=59) (by decide) h0 h1
  rw [show o+(p+1)=o+p+1 by omega]
  exact⟨.sV h2.1,by omega,h2.2⟩
 | comma h1=>
  have h2:=h.is (f:=fun x=>x=44) (by decide) h0 h1
  rw [show o+(p+1)=o+p+1 by omega]
  exact⟨.comma h2.1,by omega,h2.2⟩
 | bracket t h1=>
  have h2:=h.is (f:=fun x=>Bk x k) (bk0 k) h0 h1
  rw [show o+(p+1)=o+p+1 by omega]
  exact⟨.bracket _ h2.1,by omega,h2.2⟩
 | hash h1 h2=>
  have h3:=h.is (f:=fun x=>x=35) (by decide) h0 h1
  have h4:=h.is (f:=Nm) (by decide) (by omega) h2
  have a:=pF h (p:=p+1) (by omega) (by omega)
  rw [←a.1,←s1]
  exact⟨.hash h3.1 (by rw [s1];exact h4.1),a.2.1,h3.2⟩
 | string r h1 h2 h3 h4 h5=>
  have h6:=h.is (f:=fun x=>x=34∨x=39) (by decide) h0 h1
  have hn:at_ (ws++ [0]) p≠0:=by omega
  have hlen:((ws++ [0]).length:Int)=ws.length+1:=by simp
  have e1:=h.mid h0 hn
  have hr:at_ (ws++ [0]) r≠0:=by rw [h5];exact hn
  have e2:=h.mid (p:=r) (by omega) hr
  have Yq:=mu.lt (ws:=ws) (p:=r) (by omega) hr
  have hb:=h.h1
  rw [show o+(r+1)=o+r+1 by omega]
  refine⟨.string (o+r) h6.1 (by omega) (by omega) (fun i a b=> ?_) (by rw [e1,e2,h5]),by omega,h6.2⟩
  have h7:=h4 (i - o) (by omega) (by omega)
  rw [e1]
  rw [aY ws (i - o),←h.eq (i - o) (by omega) (by omega),show o+(i - o)=i by omega] at h7
  exact h7
 | TH h1 h2=>
  have h3:=h.is (f:=fun x=>x=64) (by decide) h0 h1
  have h4:=h2.shift h (by omega)
  have a:=pF h (p:=p+1) (by omega) (by omega)
  rw [←a.1,←s1]
  exact⟨.TH h3.1 (by rw [s1];exact h4.1),a.2.1,h3.2⟩
 | JG t h1 h2=>
  have h3:=h.is (f:=fun x=>Mt x k) (mt0 k) h0 h1
  have h4:=h.is (f:=fun x=>x=61) (by decide) (by omega) h2
  rw [show o+(p+2)=o+p+2 by omega]
  exact⟨.JG _ h3.1 (by rw [s1];exact h4.1),by omega,h3.2⟩
 | star h1 h2=>
  have h3:=h.is (f:=fun x=>x=42∨x=126) (by decide) h0 h1
  rw [show o+(p+1)=o+p+1 by omega]
  exact⟨.star h3.1 (by rw [s1];exact h.beq (by unfold dk;omega) (by omega) (by omega) h2),by omega,h3.2⟩
 | dot h1 h2=>
  have h3:=h.is (f:=fun x=>x=46∨x=43) (by decide) h0 h1
  rw [show o+(p+1)=o+p+1 by omega]
  exact⟨.dot h3.1 (h2.shift h h0 (by omega)),by omega,h3.2⟩
 | gt h1=>
  have h3:=h.is (f:=fun x=>x=62∨x=61) (by decide) h0 h1
  rw [show o+(p+1)=o+p+1 by omega]
  exact⟨.gt h3.1,by omega,h3.2⟩
 | num q k2 e2 hn hu hf=>
  have hp:p<ws.length:=by
   have:at_ (ws++ [0]) p≠0:=by
    rcases hf with hf|hf|hf|⟨hf,_⟩
    ·unfold Dg at hf;omega
    ·omega
    ·omega
    ·omega
   exact mu.lt h0 this
  have e1:at_ bs (o+p)=at_ (ws++ [0]) p:=by rw [aY];exact h.eq p h0 hp
  have a1:=hn.shift h h0 (by omega)
  have a2:=hu.shift h (by omega) (by omega)
  refine⟨.num (o+q) _ _ a1.1 a2.1 ?_,a2.2.1,hp⟩
  rw [e1]
  rcases hf with hf|hf|hf|⟨hf,h3,h4⟩
  ·exact .inl hf
  ·exact .inr (.inl hf)
  ·exact .inr (.inr (.inl hf))
  ·exact .inr (.inr (.inr ⟨hf,h3.shift h h0 (by omega),by rw [s1];exact h.beq (by unfold dk;omega) (by omega) (by omega) h4⟩))
 | uO k2 e2 hI hl hf hm=>
  have a:=hI.shift h h0
  have e1:at_ bs (o+p)=at_ (ws++ [0]) p:=by rw [aY];exact h.eq p h0 a.2
  have a2:=hl.shift h h0 a.2
  refine⟨.uO _ _ a.1 a2.1 (fun hu=>(hf (e1▸hu)).shift h h0 a.2) (fun hy=> ?_),a2.2,a.2⟩
  rw [s1]
  exact h.beq (by unfold dk;omega) (by omega) (by omega) (hm (e1▸hy))
end
end Go.Proofs.YtlglijnaeaonpaaGreatDoor.Lx
end
