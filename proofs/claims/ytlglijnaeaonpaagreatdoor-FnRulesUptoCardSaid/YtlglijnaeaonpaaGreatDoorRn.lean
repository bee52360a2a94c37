/- FnRules: a part of the proof (Rn). -/
import Derived.Test.YtlglijnaeaonpaaGreatDoorRl
import Derived.Laws.CopyOwn
import Derived.Deep.LoopGhost
import Derived.Deep.DeepCutAuto
import Derived.Test.YtlglijnaeaonpaaGreatDoorRm
import Derived.ArgAppend
import Derived.Test.YtlglijnaeaonpaaGreatDoorRi
import Derived.Lib.SlBytesConst
import Derived.StillTailTactics
section
set_option maxHeartbeats 8000000
set_option maxRecDepth 100000
set_option linter.unusedVariables false
set_option linter.unusedSimpArgs false
namespace Go.Proofs.YtlglijnaeaonpaaGreatDoor.Lx
open Go.RowKit Go.Proofs.YtlglijnaeaonpaaGreatDoorW.aC
variable {w0 w:World} {c:lQ} {p s:Int}
def qe (w:World) (g:Nat) (xs:List Int):Prop:=w.heap[g]? =some (.cells (bp .u8 xs).toArray 5 (0,0))
theorem copy (A:Option Addr) (n cp:Nat) (xs:List Int) (w:World) (hx:dU w .u8 A n xs) (hn:n≤1099511627776):
  Calls Tryz.prog 42 #[.slice A n cp] w fun e w' =>∃g,e= .returned (.slice (some ⟨g,0,none⟩) n n)∧qe w' g xs∧w.heap.size≤g∧Below w.heap.size w w':=by
 have hmk:=B9 (P:=Tryz.prog) 24 5 .u8 1 Tryz.underlying24 cF (by decide) n (by omega)
 have o9:=am hx
 clear hx
 have hlen:(madeCells #[Value.int .u8 0] n).toList.length=n:=by simp [size_madeCells]
 have HL:=am hlen
 clear hlen
 go_enter Tryz.func42,Tryz.ntmps42
 go_wp2_with (refine wpList_copy_splice (o:=⟨some 8,_,_,_,_,_⟩) rfl (.tmp 6) (.tmp 7) 24 24 rfl 5 Tryz.underlying24 (by kernel_rfl) (some ⟨w.heap.size,0,none⟩) A n n n cp (by rfl) (by rfl) w.heap.size 0 (madeCells #[Value.int .u8 0] n).toList 5 (by simpa using heap_alloc_new w _) (bp .u8 xs) ?hn ?hp ?hf ?h1 w.heap.size w ((Below.refl _ _).alloc (Nat.le_refl _) _) (Nat.le_refl _) ?hr)
 case hn=>rw [dM,o9.out.1];simp
 case hf=>rw [HL.out,dM,o9.out.1];omega
 case h1=>intro v hv;simp only [bp,List.mem_map] at hv;obtain⟨q,_,rfl⟩:=hv;rfl
 case hp=>
  intro hp
  obtain⟨ad,e,hc⟩:=o9.out.2.2 (by rw [dM,o9.out.1] at hp;exact hp)
  refine⟨ad,e,fun j v hv=> ?_⟩
  have hj:j<xs.length:=by
   have:=(List.getElem?_eq_some_iff.1 hv).1
   rwa [dM] at this
  have h1:=hc j (by rw [o9.out.1] at hj;exact hj)
  have h2:(bp .u8 xs)[j]? =some (.int .u8 (xs.getD j 0)):=by simp [bp,List.getElem?_eq_getElem hj,List.getD_eq_getElem?_getD]
  rw [h2] at hv
  injection hv with hv
  subst hv
  exact al (au (Below.refl _ _) _) h1
 case hr=>
 intro w2 hh hb
 have HH:=am hh.out
 clear hh
 go_wp2_with (fail)
 go_ret
 refine⟨w.heap.size,rfl,?_,Nat.le_refl _,hb⟩
 have:=HH.out
 unfold qe
 rw [this]
 have e:splice (madeCells #[Value.int .u8 0] n).toList 0 (bp .u8 xs)=bp .u8 xs:=by
  unfold splice
  rw [List.take_zero,List.nil_append,List.drop_eq_nil_of_le (by rw [HL.out,dM,o9.out.1];omega),List.append_nil]
 rw [e]
theorem QK (A:Option Addr) (n cp:Nat) (xs:List Int) (w:World) (hx:dU w .u8 A n xs) (hn:n≤1099511627776):
  Calls Tryz.prog 20 #[.slice A n cp] w fun e w' =>∃g,e= .returned (.slice (some ⟨g,0,none⟩) n n)∧qe w' g xs∧w.heap.size≤g∧Below w.heap.size w w':=by
 go_enter Tryz.func20,Tryz.ntmps20
 go_wp2_with (go_at_call 42;(with_reducible refine(copy _ _ _ xs _ (by assumption) (by assumption)).mono ?_);rintro e w1 ⟨g,rfl,h1,h2,h3⟩)
 go_ret
 exact⟨g,rfl,h1,h2,h3⟩
theorem qe.own {g:Nat} {xs:List Int} {B n:Nat} (h:qe w g xs) (hl:xs.length=n) (hB:B≤g) (hn:n≤1099511627776):w.ownsRow B 5 1 (.slice (some ⟨g,0,none⟩) n n) n (bp .u8 xs):=
 ⟨by rw [dM,hl];omega,.inr ⟨g,n,_,rfl,hB,h,Nat.le_refl _,by simp only [maxLen];omega,by simp [dM,hl],by simp;rw [List.take_of_length_le (by rw [dM,hl];omega)]⟩⟩
def Inp (w w' :World) (B gi gb cap:Nat) (xs:List Int):Prop:=
 w'.heap[gi]? =some (.cells #[.slice (some ⟨gb,0,none⟩) (xs++ [0]).length cap,.int .i64 0,.int .i64 0,.nilIface,.nilFunc] 84 (0,0))∧
 w'.ownsRow B 5 1 (.slice (some ⟨gb,0,none⟩) (xs++ [0]).length cap) (xs++ [0]).length (bp .u8 (xs++ [0]))∧Below B w w' ∧B≤gi
theorem On (w:World):Calls Tryz.prog 40 #[] w fun e w' =>e= .returned (.slice (some ⟨w.heap.size,0,none⟩) 1 1)∧w.alloc (.cells #[.int .u8 0] 5)=w':=by
 go_enter Tryz.func40,Tryz.ntmps40
 go_wp2
 go_ret
 exact⟨rfl,rfl⟩
theorem G4 (g B:Nat) (w:World) (hB:B≤w.heap.size):
  Calls Tryz.prog 19 #[.slice (some ⟨g,0,none⟩) 0 0] w fun e w' =>∃gi gb cap,e= .returned (.pointer (some ⟨gi,0,none⟩))∧Inp w w' B gi gb cap []:=by
 go_enter Tryz.func19,Tryz.ntmps19
 go_wp2_with (go_at_call 40;(with_reducible refine(On _).mono ?_);rintro e w1 ⟨rfl,rfl⟩)
 go_ret
 refine⟨w.heap.size+1,w.heap.size+3,1,rfl,?_,?_,?_,by omega⟩
 ·exact bm (bm (heap_alloc2_new w _ _) _) _
 ·have h:=(MQ ((((w.alloc (.cells #[.slice (some ⟨g,0,none⟩) 0 0] 24)).alloc (.cells #[.slice (some ⟨w.heap.size+1+1+1,0,none⟩) 1 1,.int .i64 0,.int .i64 0,.nilIface,.nilFunc] 84)).alloc (.cells #[.int .i64 0] 3))) B 5 .u8 [0] (by simp;omega) (by simp))
  simpa [bp] using h
 ·exact((((Below.refl _ _).alloc hB _).alloc (by simp;omega) _).alloc (by simp;omega) _).alloc (by simp;omega) _
theorem Kq (g n B:Nat) (xs:List Int) (w:World) (hb:qe w g xs) (hl:xs.length=n) (hn:n≤1099511627770) (hB:B≤g) (h0:0<n):
  Calls Tryz.prog 19 #[.slice (some ⟨g,0,none⟩) n n] w fun e w' =>∃gi gb cap,e= .returned (.pointer (some ⟨gi,0,none⟩))∧Inp w w' B gi gb cap xs:=by
 have bl:=hb.own (B:=B) hl hB (by omega)
 have hg:=cT hb
 have HO:=am bl
 have HL:=am hl
 have hz:((n:Int)==0)=false:=by simp;omega
 have hBw:B≤w.heap.size:=by omega
 clear bl hb hl
 go_enter Tryz.func19,Tryz.ntmps19
 go_wp2_with
  (at_builtin
   refine cz (w0:=w) B rfl (.tmp 41) (.tmp 42) 24 5 .u8 1 rfl Tryz.underlying24 cF (by decide) (.slice (some ⟨g,0,none⟩) n n) xs 0 (by rfl) (by simp [Act.eval]) (by rw [HL.out];exact((HO.out.alloc _).alloc _).alloc _) ((((Below.refl _ _).alloc hBw _).alloc (by simp;omega) _).alloc (by simp;omega) _) (by simp;omega) (by rw [HL.out];omega) ?_
   intro v1 w1 dW mv jm mq
   have oz:(xs++ [(0:Int)]).length=n+1:=by rw [List.length_append,HL.out];rfl
   obtain⟨gb,cap,hv,MC,Oo⟩:=dW.form (by rw [oz];omega)
   have hi:w1.heap[w.heap.size+1]? =some (.cells #[.slice (some ⟨g,0,none⟩) n n,.int .i64 0,.int .i64 0,.nilIface,.nilFunc] 84 (0,0)):=by
    refine cE (w:=((w.alloc (.cells #[.slice (some ⟨g,0,none⟩) n n] 24)).alloc (.cells #[.slice (some ⟨g,0,none⟩) n n,.int .i64 0,.int .i64 0,.nilIface,.nilFunc] 84)).alloc (.cells #[.int .i64 n] 3)) ?_ jm ?_
    ·exact bm (by simpa using heap_alloc_new (w.alloc (.cells #[.slice (some ⟨g,0,none⟩) n n] 24)) _) _
    ·simp [Value.ownBlock];omega
   have MA:=hv
   rw [oz] at MA
   have HV:=am hv
   have HOW:=am dW
   have gh:w1.cell? ⟨w.heap.size+1,0,none⟩=some (.slice (some ⟨g,0,none⟩) n n):=by rw [ao hi];rfl
   have hf0:=ai hi 0
   have pa:=am mv
   have HI:=am hi
   clear dW jm mq hv mv hi
   subst MA)
 go_ret
 have jJ:gb≠w.heap.size+1:=by
  rintro rfl
  have h2:=HOW.out.2
  rcases h2 with ⟨h2,_⟩|⟨g',yL,cur,h2,_,h3,_⟩
  ·cases h2
  ·have:w.heap.size+1=g':=by injection h2 with h2;injection h2 with h2;injection h2
   subst this
   rw [HI.out] at h3
   injection h3 with h3
   injection h3 with _ h3
   cases h3
 refine⟨w.heap.size+1,gb,cap,rfl,?_,?_,?_,by omega⟩
 ·have:=cj HI.out 0 (.slice (some ⟨gb,0,none⟩) (n+1) cap)
  rw [oz]
  simpa using this
 ·have:=de HOW.out (p:=⟨w.heap.size+1,0,none⟩) (by simp [Value.ownBlock];omega) (.slice (some ⟨gb,0,none⟩) (n+1) cap)
  rw [oz] at this⊢
  exact this
 ·exact pa.out.setCell (by simp;omega) _
end Go.Proofs.YtlglijnaeaonpaaGreatDoor.Lx
end
section
set_option maxHeartbeats 8000000
set_option maxRecDepth 100000
set_option linter.unusedVariables false
set_option linter.unusedSimpArgs false
namespace Go.Proofs.YtlglijnaeaonpaaGreatDoor.Lx
open Go.RowKit Go.Proofs.YtlglijnaeaonpaaGreatDoorW.aC
def AM:Obj→Bool
 | .cells _ t _=>t==84 || t==80 || t==59 || t==88
 | _=>false
structure Kt (B:Nat) (w w' :World):Prop where
 os:w'.os=w.os
 tape:w'.tape=w.tape
 output:w'.output=w.output
 size:w.heap.size≤w'.heap.size
 low:∀k,k<B→w'.heap[k]? =w.heap[k]?
 QL:∀(k:Nat) (o:Obj),w.heap[k]? =some o→AM o=false→w'.heap[k]? =some o
section
variable {B:Nat} {a b c:World}
theorem Kt.refl (B:Nat) (w:World):Kt B w w:=⟨rfl,rfl,rfl,Nat.le_refl _,fun _ _=>rfl,fun _ _ h _=>h⟩
theorem Kt.trans (h:Kt B a b) (k:Kt B b c):Kt B a c:=
 ⟨k.os.trans h.os,k.tape.trans h.tape,k.output.trans h.output,Nat.le_trans h.size k.size,fun i hi=>(k.low i hi).trans (h.low i hi),fun i o ho hp=>k.QL i o (h.QL i o ho hp) hp⟩
theorem Kt.below (h:Kt B a b) (k:Below b.heap.size b c) (hB:B≤b.heap.size):Kt B a c:=
 h.trans ⟨k.os,k.tape,k.output,k.size,fun i hi=>k.block i (by omega),fun i o ho _=>(k.block i (cT ho)).trans ho⟩
theorem Kt.drewN (h:Kt B a b) (n:Nat):Kt B a (b.drewN n):=⟨h.os,h.tape,h.output,h.size,h.low,h.QL⟩
theorem Kt.drew (h:Kt B a b):Kt B a b.drew:=⟨h.os,h.tape,h.output,h.size,h.low,h.QL⟩
theorem Kt.Ft {g:Nat} (h:Kp g a b) (hB:B≤g) (hs:B≤a.heap.size) {cs:Array Value} (hg:a.heap[g]? =some (.cells cs 84 (0,0))):Kt B a b:=
 ⟨h.os,h.tape,h.output,h.size,fun i hi=>h.block i (by omega) (by omega),fun i o ho hp=>by
  by_cases e:i=g
  ·subst e
   rw [hg] at ho
   injection ho with ho
   subst ho
   simp [AM] at hp
  ·exact(h.block i (cT ho) e).trans ho⟩
theorem Kt.gG (h:Kt B a b) {g:Nat} (j:Nat) (u:Value) (hB:B≤g) {cs:Array Value} {t:TypeId} {fr:Nat×Nat} (hg:b.heap[g]? =some (.cells cs t fr)) (ht:AM (.cells cs t fr)=true):Kt B a (b.setCell ⟨g,j,none⟩ u):=
 h.trans ⟨rfl,rfl,rfl,by simp [World.setCell],fun i hi=>Below.heap_setCell b ⟨g,j,none⟩ u i (by simp;omega),fun i o ho hp=>by
  by_cases e:i=g
  ·subst e
   rw [hg] at ho
   injection ho with ho
   subst ho
   rw [ht] at hp
   cases hp
  ·exact(Below.heap_setCell b ⟨g,j,none⟩ u i e).trans ho⟩
theorem Kt.Kr (h:Kt B a b):Below B a b:=⟨h.os,h.tape,h.output,h.size,h.low⟩
end
def Rd (w:World) (v:Value) (xs:List Int):Prop:=∃A n cp,v= .slice A n cp∧xs.length=n∧n≤1099511627776∧
 (0<n→∃g o cs fr,A=some ⟨g,o,none⟩∧w.heap[g]? =some (.cells cs 5 fr)∧∀j:Nat,j<n→cs[o+j]? =some (.int .u8 (xs.getD j 0)))
theorem Rd.nil (w:World):Rd w (.slice none 0 0) []:=⟨none,0,0,rfl,rfl,by omega,fun h=>by omega⟩
theorem Rd.kt {B:Nat} {w w' :World} {v:Value} {xs:List Int} (h:Rd w v xs) (k:Kt B w w'):Rd w' v xs:=by
 obtain⟨A,n,cp,rfl,h1,h2,h3⟩:=h
 refine⟨A,n,cp,rfl,h1,h2,fun hp=> ?_⟩
 obtain⟨g,o,cs,fr,e,hg,hc⟩:=h3 hp
 exact⟨g,o,cs,fr,e,k.QL g _ hg rfl,hc⟩
theorem Rd.below {w w' :World} {v:Value} {xs:List Int} (h:Rd w v xs) (k:Below w.heap.size w w'):Rd w' v xs:=by
 obtain⟨A,n,cp,rfl,h1,h2,h3⟩:=h
 refine⟨A,n,cp,rfl,h1,h2,fun hp=> ?_⟩
 obtain⟨g,o,cs,fr,e,hg,hc⟩:=h3 hp
 exact⟨g,o,cs,fr,e,(k.block g (cT hg)).trans hg,hc⟩
theorem Rd.reads {w:World} {v:Value} {xs:List Int} (h:Rd w v xs):∃A n cp,v= .slice A n cp∧xs.length=n∧n≤1099511627776∧dU w .u8 A n xs:=by
 obtain⟨A,n,cp,rfl,h1,h2,h3⟩:=h
 refine⟨A,n,cp,rfl,h1,h2,h1,by omega,fun hp=> ?_⟩
 obtain⟨g,o,cs,fr,rfl,hg,hc⟩:=h3 hp
 refine⟨_,rfl,fun j hj=> ?_⟩
 have ha:(⟨g,o,none⟩:Addr).add j=⟨g,o+j,none⟩:=by unfold Addr.add;split<;>simp_all
 rw [ha]
 unfold World.cell?
 rw [hg]
 exact hc j hj
def Tb (B:Nat) (w:World) (v:Value) (ts:List Tk):Prop:=∃A n cap,v= .slice A n cap∧ts.length=n∧n≤cap∧cap≤maxLen∧
 (0<cap→∃g o cs,A=some ⟨g,o,none⟩∧B≤g∧w.heap[g]? =some (.cells cs 59 (0,0))∧o+cap*2≤cs.size∧
  ∀(i:Nat) (t:Tk),ts[i]? =some t→∃dv,cs[o+i*2]? =some (.int .u32 t.tt)∧cs[o+i*2+1]? =some dv∧Rd w dv t.bs)
theorem Tb.nil (B:Nat) (w:World):Tb B w (.slice none 0 0) []:=⟨none,0,0,rfl,rfl,by omega,by simp [maxLen],fun h=>by omega⟩
structure PV where
 st:Value
 err:ByteArray
 ep:Int
 buf:Value
 lvl:Int
 data:Value
 tt:Int
 kw:Bool
 pw:Bool
 pe:Bool
 pc:Bool
 sh:Bool
def PV.cells (v:PV) (gl:Nat):Array Value:=#[.pointer (some ⟨gl,0,none⟩),v.st,.string v.err,.int .i64 v.ep,v.buf,.int .i64 v.lvl,v.data,.int .u32 v.tt,.bool v.kw,.bool v.pw,.bool v.pe,.bool v.pc,.bool v.sh]
def fv (f:Nat):Value:=.func (.func f) #[] #[]
structure Ps (B:Nat) (w0:World) (c:lQ) (gp:Nat) (w:World) (p:Int) (v:PV) (ts:List Tk) (fs:List Nat) (ds:List Int):Prop where
 lx:St w c w p p
 par:w.heap[gp]? =some (.cells (v.cells c.gl) 80 (0,0))
 Ik:∃cur fr,w.heap[c.gb]? =some (.cells cur 5 fr)
 tb:Tb B w v.buf ts
 rS:w.ownsRow B 88 1 v.st fs.length (fs.map fv)
 Dy:Rd w v.data ds
 kt:Kt B w0 w
 Bp:B≤gp
 Bi:B≤c.gi
theorem Tb.xL {B:Nat} {w w' :World} {v:Value} {ts:List Tk} (h:Tb B w v ts) (hb:∀(g:Nat) (cs:Array Value),w.heap[g]? =some (.cells cs 59 (0,0))→w'.heap[g]? =some (.cells cs 59 (0,0))) (hr:∀v xs,Rd w v xs→Rd w' v xs):Tb B w' v ts:=by
 obtain⟨A,n,cap,rfl,h1,h2,h3,h4⟩:=h
 refine⟨A,n,cap,rfl,h1,h2,h3,fun hp=> ?_⟩
 obtain⟨g,o,cs,e,hB,hg,hs,hc⟩:=h4 hp
 refine⟨g,o,cs,e,hB,hb g cs hg,hs,fun i t ht=> ?_⟩
 obtain⟨dv,c1,c2,c3⟩:=hc i t ht
 exact⟨dv,c1,c2,hr _ _ c3⟩
theorem Tb.below {B:Nat} {w w' :World} {v:Value} {ts:List Tk} (h:Tb B w v ts) (k:Below w.heap.size w w'):Tb B w' v ts:=
 h.xL (fun g cs hg=>(k.block g (cT hg)).trans hg) (fun _ _ hr=>hr.below k)
theorem Rd.gG {w:World} {v:Value} {xs:List Int} (h:Rd w v xs) {g:Nat} {cs:Array Value} {t:TypeId} {fr:Nat×Nat} (hg:w.heap[g]? =some (.cells cs t fr)) (ht:t≠5) (j:Nat) (u:Value):Rd (w.setCell ⟨g,j,none⟩ u) v xs:=by
 obtain⟨A,n,cp,rfl,h1,h2,h3⟩:=h
 refine⟨A,n,cp,rfl,h1,h2,fun hp=> ?_⟩
 obtain⟨g',o,Is,fr',e,vR,hc⟩:=h3 hp
 refine⟨g',o,Is,fr',e,(Below.heap_setCell w ⟨g,j,none⟩ u g' ?_).trans vR,hc⟩
 rintro rfl
 have rT:=vR
 rw [hg] at rT
 injection rT with e2
 injection e2 with _ e3
 exact ht e3
theorem Tb.gG {B:Nat} {w:World} {v:Value} {ts:List Tk} (h:Tb B w v ts) {g:Nat} {cs:Array Value} {t:TypeId} {fr:Nat×Nat} (hg:w.heap[g]? =some (.cells cs t fr)) (ht:t≠5) (Il:t≠59) (j:Nat) (u:Value):Tb B (w.setCell ⟨g,j,none⟩ u) v ts:=
 h.xL (fun g' Is vR =>(Below.heap_setCell w ⟨g,j,none⟩ u g' (by
  rintro rfl
  have rT:=vR
  rw [hg] at rT
  injection rT with e2
  injection e2 with _ e3
  exact Il e3)).trans vR) (fun _ _ hr=>hr.gG hg ht j u)
section
variable {B:Nat} {w0:World} {c:lQ} {gp:Nat} {w:World} {p:Int} {v:PV} {ts:List Tk} {fs:List Nat} {ds:List Int}
theorem Ps.gpi (h:Ps B w0 c gp w p v ts fs ds):gp≠c.gi:=qk h.par h.lx.uT (by decide)
theorem Ps.gpl (h:Ps B w0 c gp w p v ts fs ds):gp≠c.gl:=qk h.par h.lx.lex (by decide)
theorem Ps.Wc (h:Ps B w0 c gp w p v ts fs ds):gp≠c.gb:=by
 obtain⟨cur,fr,hb⟩:=h.Ik
 rintro rfl
 have:=h.par
 rw [hb] at this
 injection this with e
 injection e with _ e
 cases e
theorem Ps.gp0 (h:Ps B w0 c gp w p v ts fs ds) (h0:0<B):gp≠0:=by have:=h.Bp;omega
theorem Ps.f (h:Ps B w0 c gp w p v ts fs ds) (j:Nat):w.frozen? ⟨gp,j,none⟩=false:=ai h.par j
theorem Ps.c0 (h:Ps B w0 c gp w p v ts fs ds):w.cell? ⟨gp,0,none⟩=some (.pointer (some ⟨c.gl,0,none⟩)):=by rw [ao h.par];rfl
theorem Ps.c1 (h:Ps B w0 c gp w p v ts fs ds):w.cell? ⟨gp,1,none⟩=some v.st:=by rw [ao h.par];rfl
theorem Ps.c2 (h:Ps B w0 c gp w p v ts fs ds):w.cell? ⟨gp,2,none⟩=some (.string v.err):=by rw [ao h.par];rfl
theorem Ps.c4 (h:Ps B w0 c gp w p v ts fs ds):w.cell? ⟨gp,4,none⟩=some v.buf:=by rw [ao h.par];rfl
theorem Ps.c5 (h:Ps B w0 c gp w p v ts fs ds):w.cell? ⟨gp,5,none⟩=some (.int .i64 v.lvl):=by rw [ao h.par];rfl
theorem Ps.c6 (h:Ps B w0 c gp w p v ts fs ds):w.cell? ⟨gp,6,none⟩=some v.data:=by rw [ao h.par];rfl
theorem Ps.c7 (h:Ps B w0 c gp w p v ts fs ds):w.cell? ⟨gp,7,none⟩=some (.int .u32 v.tt):=by rw [ao h.par];rfl
theorem Ps.c8 (h:Ps B w0 c gp w p v ts fs ds):w.cell? ⟨gp,8,none⟩=some (.bool v.kw):=by rw [ao h.par];rfl
theorem Ps.c9 (h:Ps B w0 c gp w p v ts fs ds):w.cell? ⟨gp,9,none⟩=some (.bool v.pw):=by rw [ao h.par];rfl
theorem Ps.eZ (h:Ps B w0 c gp w p v ts fs ds):w.cell? ⟨gp,10,none⟩=some (.bool v.pe):=by rw [ao h.par];rfl
theorem Ps.kJ (h:Ps B w0 c gp w p v ts fs ds):w.cell? ⟨gp,11,none⟩=some (.bool v.pc):=by rw [ao h.par];rfl
theorem St.Dz (h:St w c w p p) {g:Nat} (h1:g≠c.gi) (h2:g≠c.gl) (h3:g≠c.gb) (h4:g≠0) (j:Nat) (u:Value):St (w.setCell ⟨g,j,none⟩ u) c (w.setCell ⟨g,j,none⟩ u) p p:=
 ⟨ee h.lex (Ne.symm h2) _,ee h.uT (Ne.symm h1) _,fun i hi=>by rw [cell_far (Ne.symm h3)];exact h.buf i hi,by rw [cell_far (Ne.symm h4)];exact h.eof,h.nl,h.nb,h.ne,Kp.refl _ _,h.dK,h.ei,h.dS,h.ej,h.ME,h.ok⟩
theorem Ps.store (h:Ps B w0 c gp w p v ts fs ds) (h0:0<B) (j:Nat) (u:Value) (v' :PV) (bN :List Tk) (fs' :List Nat) (fI :List Int)
  (hc:(v.cells c.gl).setIfInBounds j u=v'.cells c.gl) (ht:Tb B w v'.buf bN) (hs:w.ownsRow B 88 1 v'.st fs'.length (fs'.map fv)) (hd:Rd w v'.data fI):Ps B w0 c gp (w.setCell ⟨gp,j,none⟩ u) p v' bN fs' fI:=by
 obtain⟨cur,fr,hb⟩:=h.Ik
 refine⟨h.lx.Dz h.gpi h.gpl h.Wc (h.gp0 h0) j u,?_,⟨cur,fr,(Below.heap_setCell w ⟨gp,j,none⟩ u c.gb (Ne.symm h.Wc)).trans hb⟩,ht.gG h.par (by decide) (by decide) j u,?_,hd.gG h.par (by decide) j u,h.kt.gG j u h.Bp h.par rfl,h.Bp,h.Bi⟩
 ·rw [←hc];exact cj h.par j u
 ·exact de hs (dJ hs h.par (by decide)) u
theorem Ps.ez (h:Ps B w0 c gp w p v ts fs ds) (h0:0<B) (j:Nat) (u:Value) (v' :PV)
  (hc:(v.cells c.gl).setIfInBounds j u=v'.cells c.gl) (h1:v'.buf=v.buf) (h2:v'.st=v.st) (h3:v'.data=v.data):Ps B w0 c gp (w.setCell ⟨gp,j,none⟩ u) p v' ts fs ds:=
 h.store h0 j u v' ts fs ds hc (h1▸h.tb) (h2▸h.rS) (h3▸h.Dy)
theorem Ps.below (h:Ps B w0 c gp w p v ts fs ds) {w' :World} (k:Below w.heap.size w w'):Ps B w0 c gp w' p v ts fs ds:=by
 obtain⟨cur,fr,hb⟩:=h.Ik
 exact⟨(h.lx.below k).th,gX h.par k,⟨cur,fr,gX hb k⟩,h.tb.below k,cX h.rS k,h.Dy.below k,h.kt.below k (by have:=cT h.par;have:=h.Bp;omega),h.Bp,h.Bi⟩
theorem Ps.drewN (h:Ps B w0 c gp w p v ts fs ds) (n:Nat):Ps B w0 c gp (w.drewN n) p v ts fs ds:=h.below (bn (Below.refl _ _) n)
theorem Ps.drew (h:Ps B w0 c gp w p v ts fs ds):Ps B w0 c gp w.drew p v ts fs ds:=h.below (oH (Below.refl _ _))
theorem Ps.Fu (h:Ps B w0 c gp w p v ts fs ds) {w' :World} {q:Int} (k:St w c w' q q):Ps B w0 c gp w' q v ts fs ds:=by
 obtain⟨cur,fr,hb⟩:=h.Ik
 have hk:=k.kept
 have eh:=cT h.par
 have Im:Kt B w w':=Kt.Ft hk h.Bi (by have:=h.Bp;omega) h.lx.uT
 refine⟨k.th,(hk.block gp eh h.gpi).trans h.par,⟨cur,fr,Im.QL _ _ hb rfl⟩,h.tb.xL (fun g cs hg=> ?_) (fun _ _ hr=>hr.kt Im),?_,h.Dy.kt Im,h.kt.trans Im,h.Bp,h.Bi⟩
 ·exact(hk.block g (cT hg) (qk hg h.lx.uT (by decide))).trans hg
 ·obtain⟨h1,h2⟩:=h.rS
  refine⟨h1,?_⟩
  rcases h2 with h2|⟨g,cap,T3,e,hB,hg,r⟩
  ·exact .inl h2
  ·exact .inr ⟨g,cap,T3,e,hB,(hk.block g (cT hg) (qk hg h.lx.uT (by decide))).trans hg,r⟩
theorem Ps.Zg (h:Ps B w0 c gp w p v ts fs ds) {s q:Int} (h0:0≤s) (h1:s≤q) (h2:q≤c.bs.length):Rd w (cut c s q) (oM c.bs s q):=by
 obtain⟨cur,fr,hb⟩:=h.Ik
 have h3:=h.lx.ej
 refine⟨_,_,_,rfl,ic h0 h1 h2,by omega,fun hp=>⟨c.gb,s.toNat,cur,fr,rfl,hb,fun j hj=> ?_⟩⟩
 have:=h.lx.buf (s.toNat+j) (by omega)
 unfold World.cell? at this
 rw [hb] at this
 rw [sT h0 j hj]
 simpa using this
end
theorem T4:(Tryz.prog.info? 59).map (fun i=>(i.zero,i.size,i.bytes))=some (some (.agg #[.int .u32 0,.slice none 0 0]),2,32):=by kernel_rfl
structure my (B:Nat) (w w' :World):Prop where
 os:w'.os=w.os
 tape:w'.tape=w.tape
 output:w'.output=w.output
 size:w.heap.size≤w'.heap.size
 low:∀k,k<B→w'.heap[k]? =w.heap[k]?
 eC:∀(k:Nat) (cs:Array Value) (t:TypeId) (fr:Nat×Nat),w.heap[k]? =some (.cells cs t fr)→t≠59→w'.heap[k]? =some (.cells cs t fr)
 uP:∀(k:Nat) (o:Obj),w.heap[k]? =some o→(∀cs t fr,o≠ .cells cs t fr)→w'.heap[k]? =some o
theorem my.fh {B:Nat} {w w' :World} (h:Below w.heap.size w w') (hB:B≤w.heap.size):my B w w' :=
 ⟨h.os,h.tape,h.output,h.size,fun k hk=>h.block k (by omega),fun k cs t fr hk _=>gX hk h,fun k o hk _=>gX hk h⟩
theorem my.trans {B:Nat} {a b c:World} (h:my B a b) (k:my B b c):my B a c:=
 ⟨k.os.trans h.os,k.tape.trans h.tape,k.output.trans h.output,Nat.le_trans h.size k.size,fun i hi=>(k.low i hi).trans (h.low i hi),fun i cs t fr hi ht=>k.eC i cs t fr (h.eC i cs t fr hi ht) ht,fun i o hi ho=>k.uP i o (h.uP i o hi ho) ho⟩
theorem my.gG {B:Nat} {w:World} {g:Nat} {cs:Array Value} (hg:w.heap[g]? =some (.cells cs 59 (0,0))) (hB:B≤g) (j:Nat) (u:Value):my B w (w.setCell ⟨g,j,none⟩ u):=by
 have jJ:∀(k:Nat),k≠g→(w.setCell ⟨g,j,none⟩ u).heap[k]? =w.heap[k]?:=fun k hk=>Below.heap_setCell w ⟨g,j,none⟩ u k hk
 refine⟨rfl,rfl,rfl,by simp [World.setCell],fun k hk=>jJ k (by omega),fun k Is t fr hk ht=>(jJ k ?_).trans hk,fun k o hk ho=>(jJ k ?_).trans hk⟩
 ·intro e
  subst e
  rw [hg] at hk
  injection hk with hk
  injection hk with _ hk
  exact ht hk.symm
 ·intro e
  subst e
  rw [hg] at hk
  injection hk with hk
  exact ho _ _ _ hk.symm
theorem my.rd {B:Nat} {w w' :World} (k:my B w w') {v:Value} {xs:List Int} (h:Rd w v xs):Rd w' v xs:=by
 obtain⟨A,n,cp,rfl,h1,h2,h3⟩:=h
 refine⟨A,n,cp,rfl,h1,h2,fun hp=> ?_⟩
 obtain⟨g,o,cs,fr,e,hg,hc⟩:=h3 hp
 exact⟨g,o,cs,fr,e,k.eC g _ _ _ hg (by decide),hc⟩
theorem my.own {B:Nat} {w w' :World} (k:my B w w') {base e n size:Nat} {v:Value} {xs:List Value} (h:w.ownsRow base e size v n xs) (he:e≠59):w'.ownsRow base e size v n xs:=by
 obtain⟨h1,h2⟩:=h
 refine⟨h1,?_⟩
 rcases h2 with h2|⟨g,cap,cur,e',hB,hg,r⟩
 ·exact .inl h2
 ·exact .inr ⟨g,cap,cur,e',hB,k.eC g _ _ _ hg he,r⟩
theorem my.st {B:Nat} {w w' :World} (k:my B w w') {c:lQ} {p:Int} (h:St w c w p p) (hb:∃cur fr,w.heap[c.gb]? =some (.cells cur 5 fr)) (h0:0<B):St w' c w' p p:=by
 obtain⟨cur,fr,hb⟩:=hb
 have dc:=k.eC _ _ _ _ hb (by decide)
 refine⟨k.eC _ _ _ _ h.lex (by decide),k.eC _ _ _ _ h.uT (by decide),fun j hj=> ?_,?_,h.nl,h.nb,h.ne,Kp.refl _ _,h.dK,h.ei,h.dS,h.ej,h.ME,h.ok⟩
 ·have:=h.buf j hj
  unfold World.cell? at this⊢
  rw [hb] at this
  rw [dc]
  exact this
 ·have:=h.eof
  unfold World.cell? at this⊢
  rw [show w'.heap[(⟨0,0,none⟩:Addr).block]? =w.heap[(⟨0,0,none⟩:Addr).block]? from k.low 0 h0]
  exact this
theorem Tb.getD {B:Nat} {w:World} {v:Value} {ts:List Tk} (h:Tb B w v ts):∃A n cap,v= .slice A n cap∧ts.length=n∧n≤cap:=by
 obtain⟨A,n,cap,e,h1,h2,_⟩:=h
 exact⟨A,n,cap,e,h1,h2⟩
theorem Oq {B:Nat} {w:World} {g o n cap:Nat} {cs:Array Value} {ts:List Tk} {t:Tk} {dv:Value} (h1:ts.length=n) (h2:n+1≤cap) (h3:cap≤maxLen) (hB:B≤g) (hg:w.heap[g]? =some (.cells cs 59 (0,0))) (hs:o+cap*2≤cs.size)
  (hc:∀(i:Nat) (t:Tk),ts[i]? =some t→∃dv,cs[o+i*2]? =some (.int .u32 t.tt)∧cs[o+i*2+1]? =some dv∧Rd w dv t.bs) (hd:Rd w dv t.bs):
  Tb B ((w.setCell ⟨g,o+n*2,none⟩ (.int .u32 t.tt)).setCell ⟨g,o+n*2+1,none⟩ dv) (.slice (some ⟨g,o,none⟩) (n+1) cap) (ts++ [t]):=by
 have BZ:=my.gG hg hB (o+n*2) (.int .u32 t.tt)
 have jm:=cj hg (o+n*2) (.int .u32 t.tt)
 have kV:=my.gG jm hB (o+n*2+1) dv
 have rT:=cj jm (o+n*2+1) dv
 refine⟨_,_,_,rfl,by simp [h1],h2,h3,fun _=>⟨g,o,_,rfl,hB,rT,by simp;omega,fun i t' ht=> ?_⟩⟩
 rcases Nat.lt_or_ge i n with hi|hi
 ·rw [List.getElem?_append_left (by omega)] at ht
  obtain⟨yF,c1,c2,c3⟩:=hc i t' ht
  refine⟨yF,?_,?_,(BZ.trans kV).rd c3⟩
  ·rw [Array.getElem?_setIfInBounds_ne (by omega),Array.getElem?_setIfInBounds_ne (by omega)];exact c1
  ·rw [Array.getElem?_setIfInBounds_ne (by omega),Array.getElem?_setIfInBounds_ne (by omega)];exact c2
 ·have pM:i=n:=by
   have:=(List.getElem?_eq_some_iff.1 ht).1
   simp at this
   omega
  subst pM
  rw [List.getElem?_append_right (by omega),h1,Nat.sub_self] at ht
  simp at ht
  subst ht
  refine⟨dv,?_,?_,(BZ.trans kV).rd hd⟩
  ·rw [Array.getElem?_setIfInBounds_ne (by omega),Array.getElem?_setIfInBounds_self_of_lt (by omega)]
  ·rw [Array.getElem?_setIfInBounds_self_of_lt (by simp;omega)]
theorem Rd.one {w:World} {v:Value} {xs:List Int} (h:Rd w v xs):v.oneCell' =true:=by
 obtain⟨A,n,cp,rfl,_⟩:=h
 rfl
theorem Fv {B:Nat} {w w' :World} {n:Nat} {ts:List Tk} {t:Tk} {dv v' :Value} {olds:List Value} (h1:ts.length=n) (Io:olds.length=n*2)
  (hc:∀(i:Nat) (t:Tk),ts[i]? =some t→∃dv,olds[i*2]? =some (.int .u32 t.tt)∧olds[i*2+1]? =some dv∧Rd w dv t.bs) (hd:Rd w dv t.bs)
  (hB:B≤w.heap.size) (bl:w'.ownsRow w.heap.size 59 2 v' (n+1) (olds++ [.int .u32 t.tt,dv])) (hg:Below w.heap.size w w'):Tb B w' v' (ts++ [t]):=by
 rcases bl.2 with ⟨_,h0⟩|⟨g,cap,cur,rfl,hb,hh,hn,hm,yB,qZ⟩
 ·omega
 ·refine⟨_,_,_,rfl,by simp [h1],hn,hm,fun _=>⟨g,0,cur,rfl,by omega,hh,by omega,fun i t' ht=> ?_⟩⟩
  have hi:i<n+1:=by
   have:=(List.getElem?_eq_some_iff.1 ht).1
   simp at this
   omega
  have Zh:∀j,j<(n+1)*2→cur[j]? =(olds++ [.int .u32 t.tt,dv])[j]?:=fun j hj=>by
   rw [←qZ,List.getElem?_take,if_pos hj,←Array.getElem?_toList]
  rw [Nat.zero_add,Zh _ (by omega),Zh _ (by omega)]
  rcases Nat.lt_or_ge i n with pM|pM
  ·rw [List.getElem?_append_left (by omega)] at ht
   obtain⟨yF,c1,c2,c3⟩:=hc i t' ht
   exact⟨yF,by rw [List.getElem?_append_left (by omega)];exact c1,by rw [List.getElem?_append_left (by omega)];exact c2,c3.below hg⟩
  ·have TR:i=n:=by omega
   subst TR
   rw [List.getElem?_append_right (by omega),h1,Nat.sub_self] at ht
   simp at ht
   subst ht
   refine⟨dv,?_,?_,hd.below hg⟩
   ·rw [List.getElem?_append_right (by omega),Io,Nat.sub_self];rfl
   ·rw [List.getElem?_append_right (by omega),Io,show i*2+1 - i*2=1 by omega];rfl
theorem G5 {ops:Array Oper} {rest:List Oper} {o:Oper} {a:Act} {Q:Exit→Act→World→Prop} {B:Nat} {w:World} (qR:o.guard=none) (s x:Operand)
  (ho:o.op= .call {callee:=.builtin .append,args:=#[s,x],argTypes:=#[56,56]}) {v dv:Value} {ts:List Tk} (t:Tk)
  (hs:a.eval s=v) (hx:a.eval x= .slice (some ⟨w.heap.size,0,none⟩) 1 1) (ht:Tb B w v ts) (hd:Rd w dv t.bs) (hB:B≤w.heap.size) (hn:ts.length≤1000000000)
  (h:∀v' w',Tb B w' v' (ts++ [t])→my B w w' →wpList Tryz.prog ops Q rest (a.put o.dst v') w'):
  wpList Tryz.prog ops Q (o::rest) a (w.alloc (.cells #[.int .u32 t.tt,dv] 59)):=by
 obtain⟨i0,hi,ku⟩:=Option.map_eq_some_iff.1 T4
 simp only [Prod.mk.injEq] at ku
 obtain⟨sa,o0,sc⟩:=ku
 have tp:Below w.heap.size w (w.alloc (.cells #[.int .u32 t.tt,dv] 59)):=au (Below.refl _ _) _
 have hKa:my B w (w.alloc (.cells #[.int .u32 t.tt,dv] 59)):=my.fh tp hB
 have yB:(w.alloc (.cells #[.int .u32 t.tt,dv] 59)).heap.size=w.heap.size+1:=by simp
 have xM:∀(j:Nat) u,([.int .u32 t.tt,dv]:List Value)[j]? =some u→(w.alloc (.cells #[.int .u32 t.tt,dv] 59)).cell? ((⟨w.heap.size,0,none⟩:Addr).add j)=some u:=
  World.news_of_block (cs:=#[.int .u32 t.tt,dv]) (t:=59) (fr:=(0,0)) (heap_alloc_new w _)
 have uo:∀u∈([.int .u32 t.tt,dv]:List Value),u.oneCell' =true:=by
  intro u hu
  simp at hu
  rcases hu with rfl|rfl
  ·rfl
  ·exact hd.one
 obtain⟨A,n,cap,rfl,h1,h2,h3,h4⟩:=ht
 rcases Nat.eq_zero_or_pos cap with h0|h0
 ·subst h0
  have Ks:n=0:=by omega
  subst Ks
  have AN:ts= []:=List.eq_nil_of_length_eq_zero h1
  subst AN
  refine wpList_append_grows (w.alloc (.cells #[.int .u32 t.tt,dv] 59)) qR s x 56 ho 59 i0 _ 2 32 Tryz.underlying56 hi sa o0 sc rfl (by omega) A 0 0 [] hs (fun _=>⟨rfl,rfl⟩) rfl (fun b _ j u hj=>by simp at hj)
   ⟨w.heap.size,0,none⟩ 1 1 [.int .u32 t.tt,dv] hx rfl xM uo (by omega) (by simp [maxLen]) (by omega) ?_
  intro v' w' bl hg
  have dc:Below (w.alloc (.cells #[.int .u32 t.tt,dv] 59)).heap.size (w.alloc (.cells #[.int .u32 t.tt,dv] 59)) w':=(Below.refl _ _).grown hg (Nat.le_refl _) (fun k hk=>by cases hk)
  have kX:Below w.heap.size w w':=tp.trans (dc.mono (by omega))
  refine h v' w' ?_ (my.fh kX hB)
  exact Fv (w:=w) (n:=0) (olds:=[]) h1 rfl (fun i t ht=>by simp at ht) hd hB (oI (by simpa using bl) (by omega)) kX
 ·obtain⟨g,of,cs,rfl,AO,hg,hso,hc⟩:=h4 h0
  have Oo:=cT hg
  have Wd:(w.alloc (.cells #[.int .u32 t.tt,dv] 59)).heap[g]? =some (.cells cs 59 (0,0)):=bm hg _
  have Io:((cs.toList.drop of).take (n*2)).length=n*2:=by simp;omega
  have hold:∀(j:Nat) u,((cs.toList.drop of).take (n*2))[j]? =some u→j<n*2∧cs[of+j]? =some u:=fun j u hj=>by
   rw [List.getElem?_take] at hj
   split at hj
   ·rename_i eh
    rw [List.getElem?_drop,Array.getElem?_toList] at hj
    exact⟨eh,hj⟩
   ·cases hj
  refine wpList_append_arg (w.alloc (.cells #[.int .u32 t.tt,dv] 59)) qR s x 56 ho 59 i0 _ 2 32 Tryz.underlying56 hi sa o0 sc rfl (by omega) g of n cap ((cs.toList.drop of).take (n*2)) hs Io (fun j u hj=>by rw [ao Wd];exact(hold j u hj).2)
   ⟨w.heap.size,0,none⟩ 1 1 [.int .u32 t.tt,dv] hx rfl xM uo (fun hr j hj=>⟨?_,ai Wd _⟩) (by simp only [maxLen];omega) (by omega) ?_ ?_
  ·rw [ao Wd,Array.getElem?_eq_getElem (by simp at hj;omega)]
   rfl
  ·intro hr
   simp only [World.setCells]
   refine h _ _ (Oq h1 hr h3 AO Wd hso (fun i t' vJ => ?_) (hd.below tp)) ?_
   ·obtain⟨yF,c1,c2,c3⟩:=hc i t' vJ
    exact⟨yF,c1,c2,c3.below tp⟩
   ·exact hKa.trans ((my.gG Wd AO _ _).trans (my.gG (cj Wd _ _) AO _ _))
  ·intro hr v' w' bl rT
   have dc:Below (w.alloc (.cells #[.int .u32 t.tt,dv] 59)).heap.size (w.alloc (.cells #[.int .u32 t.tt,dv] 59)) w':=(Below.refl _ _).grown rT (Nat.le_refl _) (fun k hk=>by cases hk)
   have kX:Below w.heap.size w w':=tp.trans (dc.mono (by omega))
   refine h v' w' ?_ (my.fh kX hB)
   refine Fv (w:=w) h1 Io (fun i t' vJ => ?_) hd hB (oI bl (by omega)) kX
   obtain⟨yF,c1,c2,c3⟩:=hc i t' vJ
   have TR:=(List.getElem?_eq_some_iff.1 vJ).1
   refine⟨yF,?_,?_,c3⟩
   ·rw [List.getElem?_take,if_pos (by omega),List.getElem?_drop,Array.getElem?_toList];exact c1
   ·rw [List.getElem?_take,if_pos (by omega),List.getElem?_drop,Array.getElem?_toList,←Nat.add_assoc];exact c2
theorem wsb (w:World):Calls Tryz.prog 77 #[] w fun e w' =>∃v,e= .returned v∧Rd w' v [32]∧Below w.heap.size w w':=by
 have kc:=fun (w:World) (C:Array Value) (n c:Nat)=>Lib.run_convert_bytes_const (P:=Tryz.prog) w 24 5 C n c Tryz.underlying24 Tryz.underlying5
 go_enter Tryz.func77,Tryz.ntmps77
 go_wp2
 go_ret
 refine⟨_,rfl,⟨some ⟨w.heap.size,0,none⟩,1,1,rfl,rfl,by omega,fun _=>⟨w.heap.size,0,_,_,rfl,heap_alloc_new w _,fun j hj=> ?_⟩⟩,au (Below.refl _ _) _⟩
 obtain rfl:j=0:=by omega
 rfl
theorem aeN (w:World):Calls Tryz.prog 43 #[] w fun e w' =>∃v,e= .returned v∧Rd w' v [125]∧Below w.heap.size w w':=by
 have kc:=fun (w:World) (C:Array Value) (n c:Nat)=>Lib.run_convert_bytes_const (P:=Tryz.prog) w 24 5 C n c Tryz.underlying24 Tryz.underlying5
 go_enter Tryz.func43,Tryz.ntmps43
 go_wp2
 go_ret
 refine⟨_,rfl,⟨some ⟨w.heap.size,0,none⟩,1,1,rfl,rfl,by omega,fun _=>⟨w.heap.size,0,_,_,rfl,heap_alloc_new w _,fun j hj=> ?_⟩⟩,au (Below.refl _ _) _⟩
 obtain rfl:j=0:=by omega
 rfl
abbrev Pk (B:Nat) (w0:World) (c:lQ) (gp:Nat) (w w' :World) (p:Int) (v:PV) (ts:List Tk) (fs:List Nat) (ds:List Int):Prop:=Ps B w0 c gp w' p v ts fs ds∧Kt B w w'
section
variable {w0 w:World} {c:lQ} {p:Int} {B:Nat} {gp:Nat} {v:PV} {ts:List Tk} {fs:List Nat} {ds:List Int}
theorem Ps.hB (h:Ps B w0 c gp w p v ts fs ds):B≤w.heap.size:=by have:=cT h.par;have:=h.Bp;omega
theorem Ps.eY (h:Ps B w0 c gp w p v ts fs ds) (j:Nat) (u:Value):Kt B w (w.setCell ⟨gp,j,none⟩ u):=(Kt.refl B w).gG j u h.Bp h.par rfl
theorem my.kt {B:Nat} {w w' :World} (k:my B w w'):Kt B w w':=⟨k.os,k.tape,k.output,k.size,k.low,fun i o ho hp=>by
 cases o with
 | cells cs t fr=>
  refine k.eC i cs t fr ho ?_
  rintro rfl
  simp [AM] at hp
 | _=>exact k.uP i _ ho (fun _ _ _ e=>by cases e)⟩
theorem Ps.tw (h:Ps B w0 c gp w p v ts fs ds) (h0:0<B) {w1:World} (k:my B w w1) {b' :Value} {bN :List Tk} (ht:Tb B w1 b' bN):Ps B w0 c gp (w1.setCell ⟨gp,4,none⟩ b') p {v with buf:=b' } bN fs ds:=by
 obtain⟨cur,fr,hb⟩:=h.Ik
 have hp:=k.eC _ _ _ _ h.par (by decide)
 have eW:=k.eC _ _ _ _ hb (by decide)
 have fT:=k.st h.lx h.Ik h0
 have hs:=k.own h.rS (by decide)
 refine⟨fT.Dz h.gpi h.gpl h.Wc (h.gp0 h0) 4 b',?_,⟨cur,fr,(Below.heap_setCell w1 ⟨gp,4,none⟩ b' c.gb (Ne.symm h.Wc)).trans eW⟩,ht.gG hp (by decide) (by decide) 4 b',?_,(k.rd h.Dy).gG hp (by decide) 4 b',(h.kt.trans k.kt).gG 4 b' h.Bp hp rfl,h.Bp,h.Bi⟩
 ·have:=cj hp 4 b'
  simpa [PV.cells] using this
 ·exact de hs (dJ hs hp (by decide)) b'
theorem lR (h:Ps B w0 c gp w p v ts fs ds) (h0:0<B) (t:Tk) (dv:Value) (hd:Rd w dv t.bs) (hn:ts.length≤1000000000):
  Calls Tryz.prog 60 #[.pointer (some ⟨gp,0,none⟩),.int .u32 t.tt,dv] w fun e w' =>e= .returned (.tuple #[])∧∃b',Pk B w0 c gp w w' p {v with buf:=b' } (ts++ [t]) fs ds:=by
 have hc:=h.c4
 have HT:=am h.tb
 have HD:=am hd
 obtain⟨A,n,cp,rfl,_,_,_⟩:=hd
 obtain⟨A2,n2,Fw,gu,_,_⟩:=h.tb.getD
 rw [gu] at hc
 have HBV:=am gu
 clear gu
 have hB:=h.hB
 go_enter Tryz.func60,Tryz.ntmps60
 go_wp2_with
  (at_builtin
   refine G5 (B:=B) (w:=w) rfl (.tmp 10) (.tmp 14) rfl t (by rfl) (by rfl) (by have:=HT.out;rwa [HBV.out] at this) HD.out hB hn ?_
   intro v1 w1 G6 BZ
   obtain⟨A3,n3,cp3,Zi,_,_⟩:=G6.getD
   have oe:w1.cell? ⟨gp,4,none⟩=some (.slice A2 n2 Fw):=by rw [ao (BZ.eC _ _ _ _ h.par (by decide)),←HBV.out];rfl
   have hf1:w1.frozen? ⟨gp,4,none⟩=false:=ai (BZ.eC _ _ _ _ h.par (by decide)) 4
   have HT1:=am G6
   have dR:=am BZ
   clear G6 BZ
   subst Zi)
 go_end0
 refine⟨rfl,_,h.tw h0 dR.out HT1.out,?_⟩
 exact dR.out.kt.gG 4 _ h.Bp (dR.out.eC _ _ _ _ h.par (by decide)) rfl
theorem Tb.empty (h:Tb B w (v.buf) ts):∀A n cap,v.buf= .slice A n cap→Tb B w (.slice A 0 cap) []:=by
 intro A n cap e
 obtain⟨A',n',yL,e',h1,h2,h3,h4⟩:=h
 rw [e] at e'
 cases e'
 refine⟨_,_,_,rfl,rfl,by omega,h3,fun hp=> ?_⟩
 obtain⟨g,o,cs,rfl,hB,hg,hs,hc⟩:=h4 hp
 exact⟨g,o,cs,rfl,hB,hg,hs,fun i t ht=>by simp at ht⟩
theorem xN (h:Ps B w0 c gp w p v ts fs ds) (h0:0<B):
  Calls Tryz.prog 57 #[.pointer (some ⟨gp,0,none⟩)] w fun e w' =>e= .returned (.tuple #[])∧∃b',Pk B w0 c gp w w' p {v with buf:=b' } [] fs ds:=by
 have hc:=h.c4
 have hf:=h.f 4
 obtain⟨A,n,cap,gu,_,lS⟩:=h.tb.getD
 have ht:=h.tb.empty A n cap gu
 have HT:=am ht
 rw [gu] at hc
 clear gu ht
 go_enter Tryz.func57,Tryz.ntmps57
 go_wp2
 go_end0
 exact⟨rfl,_,h.tw h0 (my.fh (Below.refl _ _) h.hB) HT.out,h.eY 4 _⟩
theorem values (h:Ps B w0 c gp w p v ts fs ds):
  Calls Tryz.prog 23 #[.pointer (some ⟨gp,0,none⟩)] w fun e w' =>e= .returned v.buf∧w=w':=by
 have hc:=h.c4
 obtain⟨A,n,cap,gu,_,_⟩:=h.tb.getD
 rw [gu] at hc⊢
 clear gu
 go_enter Tryz.func23,Tryz.ntmps23
 go_wp2
 go_ret
 exact⟨rfl,rfl⟩
end
end Go.Proofs.YtlglijnaeaonpaaGreatDoor.Lx
end
section
set_option maxHeartbeats 8000000
set_option maxRecDepth 100000
set_option linter.unusedVariables false
set_option linter.unusedSimpArgs false
namespace Go.Proofs.YtlglijnaeaonpaaGreatDoor.Lx
open Go.RowKit Go.Proofs.YtlglijnaeaonpaaGreatDoorW.aC
variable {w0 w:World} {c:lQ} {p:Int} {B:Nat} {gp:Nat} {v:PV} {ts:List Tk} {fs:List Nat} {ds:List Int} {k q:Int} {xs:List Int}
theorem Ku (h:Ps B w0 c gp w p v ts fs ds) (hr:zS c.bs p k q xs):
  Calls Tryz.prog 63 #[.pointer (some ⟨c.gl,0,none⟩)] w fun e w' =>∃dv,e= .returned (.tuple #[.int .u32 k,dv])∧Rd w' dv xs∧Pk B w0 c gp w w' q v ts fs ds:=by
 have Im:∀{w' :World} {q:Int},St w c w' q q→Kt B w w':=fun hs=>Kt.Ft hs.kept h.Bi h.hB h.lx.uT
 rcases hr with ⟨ht,rfl⟩|⟨he,rfl,rfl,rfl⟩
 ·refine(next h.lx ht).mono ?_
  rintro e w' ⟨rfl,hs⟩
  have hP:=h.Fu hs
  have hle:=hs.dS
  have h0:=h.lx.dK
  have Ot:p≤q:=by
   cases ht with
   | ws h0=>exact bL
   | colon=>omega
   | sV=>omega
   | comma=>omega
   | bracket=>omega
   | hash h0 h1=>have:=bL (f:=Nm) (bs:=c.bs) (p:=p+1);omega
   | string r h0 h1=>omega
   | TH h0 h1=>have:=bL (f:=Nm) (bs:=c.bs) (p:=p+1);omega
   | JG=>omega
   | star=>omega
   | dot=>omega
   | gt=>omega
   | num q' k' e' hn hu hf=>
    have h1:=ig hn (by omega)
    have h2:=bL (f:=Nm) (bs:=c.bs) (p:=q')
    rcases hu with ⟨_,_,rfl⟩|⟨_,_,_,rfl⟩|⟨_,_,_,rfl⟩<;>omega
   | uO k' e' hI hl hf hm=>
    have h2:=bL (f:=Nm) (bs:=c.bs) (p:=p)
    rcases hl with ⟨_,_,rfl⟩|⟨_,_,_,rfl⟩|⟨_,_,_,h4,_⟩<;>omega
  exact⟨_,rfl,hP.Zg h0 Ot (by omega),hP,Im hs⟩
 ·refine(Kn h.lx he).mono ?_
  rintro e w' ⟨rfl,hs⟩
  exact⟨_,rfl,Rd.nil _,h.Fu hs,Im hs⟩
def Kv (B:Nat) (w0:World) (c:lQ) (gp:Nat) (w:World) (p:Int) (v:PV) (ts:List Tk) (fs:List Nat) (ds:List Int) (k q:Int) (xs:List Int) (ws:Bool) (g:Nat) (v6 v7:Value) (wr:World):Prop:=
 (g=1∧ws=true∧v6= .int .u32 20∧Pk B w0 c gp w wr (run Ws c.bs p) {v with pw:=false,pc:=false} ts fs ds∧zS c.bs (run Ws c.bs p) k q xs)∨
 (g=0∧v6= .int .u32 k∧Rd wr v7 xs∧Pk B w0 c gp w wr q {v with pw:=ws,pc:=false} ts fs ds)
theorem pop (h:Ps B w0 c gp w p v ts fs ds) (h0:0<B) (ij:v.kw=false) {ws:Bool} (b:Bool) (hr:eo c.bs p k q xs ws):
  Calls Tryz.prog 44 #[.pointer (some ⟨gp,0,none⟩),.bool b] w fun e w' =>∃dv,e= .returned (.tuple #[.int .u32 k,dv])∧Rd w' dv xs∧Pk B w0 c gp w w' q {v with pw:=ws,pc:=false} ts fs ds:=by
 obtain⟨k1,k2,hr⟩:=hr
 have e1:(k==20)=false:=by simpa using k1
 have e2:(k==32)=false:=by simpa using k2
 have hP:=(h.ez h0 9 (.bool false) {v with pw:=false} rfl rfl rfl rfl).ez h0 11 (.bool false) {v with pw:=false,pc:=false} rfl rfl rfl rfl
 have hK:Kt B w ((w.setCell ⟨gp,9,none⟩ (.bool false)).setCell ⟨gp,11,none⟩ (.bool false)):=
  (h.eY 9 (.bool false)).trans ((h.ez h0 9 (.bool false) {v with pw:=false} rfl rfl rfl rfl).eY 11 _)
 have f9:=h.f 9
 have f11:=h.f 11
 have c9:=h.c9
 have kJ:=h.kJ
 have c0:=h.c0
 have HR:=am hr
 have AP:=am ij
 have HP:=am hP
 have HK:=am hK
 clear k1 k2 hr ij hP hK
 go_enter Tryz.func44,Tryz.ntmps44
 go_upto_region 3 with (fail)
 go_cut [6,7] (fun s6 s7 wx=>∃g,Kv B w0 c gp w p v ts fs ds k q xs ws g s6 s7 wx)
 case first=>
  go_wp2_with (fail)
  rcases HR.out with ⟨hw,hn⟩|⟨hw,J5,hn⟩
  ·have HW:=am hw
   have HN:=am hn
   clear hw hn
   refine(Ku HP.out HN.out).mono ?_
   rintro e w1 ⟨dv,rfl,hd,mz,gv⟩
   have hI:Kv B w0 c gp w p v ts fs ds k q xs ws 0 (.int .u32 k) dv w1:=.inr ⟨rfl,rfl,hd,by rw [HW.out];exact mz,HK.out.trans gv⟩
   clear hd mz gv
   go_wp2_with (fail)
   go_meet
   exact⟨0,hI⟩
  ·have HW:=am hw
   have HN:=am hn
   have HS:=am J5
   clear hw hn J5
   refine(Ku HP.out (.inl ⟨.ws HS.out,rfl⟩)).mono ?_
   rintro e w1 ⟨dv,rfl,hd,mz,gv⟩
   have hI:Kv B w0 c gp w p v ts fs ds k q xs ws 1 (.int .u32 20) dv w1:=.inl ⟨rfl,HW.out,rfl,⟨mz,HK.out.trans gv⟩,HN.out⟩
   clear hd mz gv
   go_wp2_with (fail)
   go_meet
   exact⟨1,hI⟩
 case rest=>
 obtain⟨g0,Zj⟩:=hcut
 go_wp2_with (fail)
 go_loopg [6,7] g0 (fun g v6 v7 wr=>Kv B w0 c gp w p v ts fs ds k q xs ws g v6 v7 wr)
 case atStart=>exact Zj
 case round=>
  clear Zj c0 c9 kJ f9 f11
  rcases hrel with ⟨rfl,hw,rfl,⟨hP,ik⟩,hn⟩|⟨rfl,rfl,hd,hP,ik⟩
  ·have c0:=hP.c0
   have c8:=hP.c8
   have c9:=hP.c9
   have f9:=hP.f 9
   have Kw:({v with pw:=false,pc:=false}:PV).kw=false:=AP.out
   rw [Kw] at c8
   have gm:=hP.ez h0 9 (.bool true) {v with pw:=true,pc:=false} rfl rfl rfl rfl
   have jK:=ik.trans (hP.eY 9 (.bool true))
   have mA:=am gm
   have Ou:=am jK
   have HN:=am hn
   have HW:=am hw
   clear Kw hP ik hn hw gm jK
   go_wp2_with (fail)
   refine(Ku mA.out HN.out).mono ?_
   rintro e w1 ⟨dv,rfl,hd,mz,gv⟩
   have hI:Kv B w0 c gp w p v ts fs ds k q xs ws 0 (.int .u32 k) dv w1:=.inr ⟨rfl,rfl,hd,by rw [HW.out];exact mz,Ou.out.trans gv⟩
   clear hd mz gv
   go_wp2_with (fail)
   go_roundg 0
   case measure=>omega
   case rel=>exact hI
  ·have c8:=hP.c8
   have Kw:({v with pw:=ws,pc:=false}:PV).kw=false:=AP.out
   rw [Kw] at c8
   have HD:=am hd
   clear Kw hd
   go_wp2_with (fail)
   go_ret2
   exact⟨_,rfl,HD.out,hP,ik⟩
def Same (v v' :PV):Prop:=v'.st=v.st∧v'.err=v.err∧v'.ep=v.ep∧v'.data=v.data∧v'.tt=v.tt∧v'.kw=v.kw∧v'.pe=v.pe∧v'.sh=v.sh
theorem n9 (dn:List (Tk×Bool)) (t:Tk):flat (dn++ [(t,false)])=flat dn++ [t]∧flat (dn++ [(t,true)])=flat dn++ [⟨20,[32]⟩]++ [t]:=by
 induction dn with
 | nil=>exact⟨rfl,rfl⟩
 | cons x dn ih=>
  obtain⟨t',b⟩:=x
  cases b<;>simp [flat,ih.1,ih.2]
end Go.Proofs.YtlglijnaeaonpaaGreatDoor.Lx
end
section
set_option maxHeartbeats 8000000
set_option maxRecDepth 100000
set_option linter.unusedVariables false
set_option linter.unusedSimpArgs false
namespace Go.Proofs.YtlglijnaeaonpaaGreatDoor.Lx
open Go.RowKit Go.Proofs.YtlglijnaeaonpaaGreatDoorW.aC
def bI:List Nat→Code→Code
 | [],c=>c
 | 0::p,.seq a _=>bI p a
 | _::p,.seq _ b=>bI p b
 | 0::p,.cond _ a _=>bI p a
 | _::p,.cond _ _ b=>bI p b
 | _::p,.block _ c=>bI p c
 | _::p,.loop c=>bI p c
 | _::p,.scope c=>bI p c
 | _,c=>c
def dT:Code→Option Code
 | .loop c=>some c
 | .seq a b=>match dT a with
  | some c=>some c
  | none=>dT b
 | .block _ c=>dT c
 | .scope c=>dT c
 | .cond _ a b=>match dT a with
  | some c=>some c
  | none=>dT b
 | _=>none
noncomputable def db:Code:=(Tryz.f55.body.bind dT).getD .skip
theorem cZ {P:Program} {Q:Exit→Act→World→Prop} {w:World} {c:Code} (m:Nat) (I:Nat→List Value→World→Prop) (n0:Nat) (l0:List Value) (hl:l0.length=m) (h0:I n0 l0 w)
  (round:∀n l w,l.length=m→I n l w→∀J:Act→World→Prop,(∀k l' w',k<n→l'.length=m→I k l' w' →J ⟨l'.toArray,[]⟩ w')→c.wp P (Exit.then J Q) ⟨l.toArray,[]⟩ w):
  (Code.loop c).wp P Q ⟨l0.toArray,[]⟩ w:=by
 refine wp_loop_ghost (fun n a w=>∃l:List Value,l.length=m∧I n l w∧a=⟨l.toArray,[]⟩) n0 ⟨l0,hl,h0,rfl⟩ ?_
 rintro n a w ⟨l,h1,h2,rfl⟩
 exact round n l w h1 h2 _ (fun k l' w' h3 h4 h5=>⟨k,h3,l',h4,h5,rfl⟩)
theorem iP (l:List Value):l=(List.range l.length).map (fun i=>l.getD i default):=by
 apply List.ext_getElem
 ·simp
 ·intro i h1 h2
  simp [h1]
theorem dD (l:List Value) (hl:l.length=453):∃f:Nat→Value,(∀i,l.getD i default=f i)∧l=f 0::f 1::f 2::f 3::f 4::f 5::f 6::f 7::f 8::f 9::f 10::f 11::f 12::f 13::f 14::f 15::f 16::f 17::f 18::f 19::f 20::f 21::f 22::f 23::f 24::f 25::f 26::f 27::f 28::f 29::f 30::f 31::f 32::f 33::f 34::f 35::f 36::f 37::f 38::f 39::f 40::f 41::f 42::f 43::f 44::f 45::f 46::f 47::f 48::f 49::f 50::f 51::f 52::f 53::f 54::f 55::f 56::f 57::f 58::f 59::f 60::f 61::f 62::f 63::f 64::f 65::f 66::f 67::f 68::f 69::f 70::f 71::f 72::f 73::f 74::f 75::f 76::f 77::f 78::f 79::f 80::f 81::f 82::f 83::f 84::f 85::f 86::f 87::f 88::f 89::f 90::f 91::f 92::f 93::f 94::f 95::f 96::f 97::f 98::f 99::f 100::f 101::f 102::f 103::f 104::f 105::f 106::f 107::f 108::f 109::f 110::f 111::f 112::f 113::f 114::f 115::f 116::f 117::f 118::f 119::f 120::f 121::f 122::f 123::f 124::f 125::f 126::f 127::f 128::f 129::f 130::f 131::f 132::f 133::f 134::f 135::f 136::f 137::f 138::f 139::f 140::f 141::f 142::f 143::f 144::f 145::f 146::f 147::f 148::f 149::f 150::f 151::f 152::f 153::f 154::f 155::f 156::f 157::f 158::f 159::f 160::f 161::f 162::f 163::f 164::f 165::f 166::f 167::f 168::f 169::f 170::f 171::f 172::f 173::f 174::f 175::f 176::f 177::f 178::f 179::f 180::f 181::f 182::f 183::f 184::f 185::f 186::f 187::f 188::f 189::f 190::f 191::f 192::f 193::f 194::f 195::f 196::f 197::f 198::f 199::f 200::f 201::f 202::f 203::f 204::f 205::f 206::f 207::f 208::f 209::f 210::f 211::f 212::f 213::f 214::f 215::f 216::f 217::f 218::f 219::f 220::f 221::f 222::f 223::f 224::f 225::f 226::f 227::f 228::f 229::f 230::f 231::f 232::f 233::f 234::f 235::f 236::f 237::f 238::f 239::f 240::f 241::f 242::f 243::f 244::f 245::f 246::f 247::f 248::f 249::f 250::f 251::f 252::f 253::f 254::f 255::f 256::f 257::f 258::f 259::f 260::f 261::f 262::f 263::f 264::f 265::f 266::f 267::f 268::f 269::f 270::f 271::f 272::f 273::f 274::f 275::f 276::f 277::f 278::f 279::f 280::f 281::f 282::f 283::f 284::f 285::f 286::f 287::f 288::f 289::f 290::f 291::f 292::f 293::f 294::f 295::f 296::f 297::f 298::f 299::f 300::f 301::f 302::f 303::f 304::f 305::f 306::f 307::f 308::f 309::f 310::f 311::f 312::f 313::f 314::f 315::f 316::f 317::f 318::f 319::f 320::f 321::f 322::f 323::f 324::f 325::f 326::f 327::f 328::f 329::f 330::f 331::f 332::f 333::f 334::f 335::f 336::f 337::f 338::f 339::f 340::f 341::f 342::f 343::f 344::f 345::f 346::f 347::f 348::f 349::f 350::f 351::f 352::f 353::f 354::f 355::f 356::f 357::f 358::f 359::f 360::f 361::f 362::f 363::f 364::f 365::f 366::f 367::f 368::f 369::f 370::f 371::f 372::f 373::f 374::f 375::f 376::f 377::f 378::f 379::f 380::f 381::f 382::f 383::f 384::f 385::f 386::f 387::f 388::f 389::f 390::f 391::f 392::f 393::f 394::f 395::f 396::f 397::f 398::f 399::f 400::f 401::f 402::f 403::f 404::f 405::f 406::f 407::f 408::f 409::f 410::f 411::f 412::f 413::f 414::f 415::f 416::f 417::f 418::f 419::f 420::f 421::f 422::f 423::f 424::f 425::f 426::f 427::f 428::f 429::f 430::f 431::f 432::f 433::f 434::f 435::f 436::f 437::f 438::f 439::f 440::f 441::f 442::f 443::f 444::f 445::f 446::f 447::f 448::f 449::f 450::f 451::f 452:: []:=by
 refine⟨fun i=>l.getD i default,fun _=>rfl,?_⟩
 conv=>lhs;rw [iP l,hl]
 kernel_rfl
theorem QM:db= .block 1 (.seq (bI [0,0] db) (.seq (.seq (bI [0,1,0,0] db) (.cond (.tmp 44) (bI [0,1,0,1,0] db) (bI [0,1,0,1,1] db))) (bI [0,1,1] db))):=by kernel_rfl
def Fr (gp:Nat) (l:List Value):Prop:=l.length=453∧l.getD 0 default= .pointer (some ⟨gp,0,none⟩)
def AQ (B:Nat) (w0:World) (c:lQ) (gp:Nat) (w:World) (off:Int) (x:Tk) (dv:Value) (p:Int) (v:PV) (ts:List Tk) (fs:List Nat) (ds:List Int) (l:List Value) (wx:World):Prop:=
 Fr gp l∧l.getD 3 default= .int .i64 off∧l.getD 4 default= .int .u32 x.tt∧l.getD 5 default=dv∧Pk B w0 c gp w wx p v ts fs ds∧Rd wx dv x.bs
variable {w0 w:World} {c:lQ} {p:Int} {B:Nat} {gp:Nat} {v:PV} {ts:List Tk} {fs:List Nat} {ds:List Int} {k q:Int} {xs:List Int}
end Go.Proofs.YtlglijnaeaonpaaGreatDoor.Lx
end
