/- FnRules: a part of the proof (Ra); in it lines that print.sh printed, those that are used. -/
import Derived.Test.YtlglijnaeaonpaaGreatDoorProg
import Derived.Below
import Derived.Deep.Draws
import Derived.Deep.AppendLies
import Derived.Maps.AppendAt
import Derived.OwnWalk
import Derived.Laws.BytesArg
import Derived.Laws.MakeOwn
import Derived.Laws.OwnMore
import Derived.Deep.OwnRows
import Derived.Tactics
import Derived.Lib.ConvBytes
import Derived.Laws.Slices
import Derived.WalkKit
import Derived.KernelRfl
import Derived.RowKit3
import Derived.Deep.LoopGhost
import Derived.Deep.QuietTactic
import Derived.BigQuiet
import Derived.WideLaws
import Derived.Deep.DeepCutAuto
import Derived.Deep.CutBlock
import Derived.Deep.RegionHeld3
import Derived.Laws.Rows
import Derived.Lib.AppendStr
import Derived.ArgAppend
import Derived.Laws.IdiomCopy
import Derived.OrdersHeld
import Derived.Laws.BitsLemmas
import Derived.RowKit
import Derived.Test.YtlglijnaeaonpaaGreatDoorRWords
section
set_option maxHeartbeats 8000000
set_option maxRecDepth 100000
set_option linter.unusedVariables false
set_option linter.unusedSimpArgs false
namespace Go.Proofs.YtlglijnaeaonpaaGreatDoor.bG
open Go.RowKit Go.Proofs.YtlglijnaeaonpaaGreatDoorW.aC Go.Proofs.YtlglijnaeaonpaaGreatDoorW.dQ Go.Proofs.YtlglijnaeaonpaaGreatDoorW.eR
attribute [local go_sem] fZ ga iu iv fk fl gd gg
def WB:Option Int→Value
 | none=> .nilIface
 | some c=> .iface 0 (.int .i64 c)
theorem gy:WB none= .nilIface:=rfl
theorem gz (c:Int):WB (some c)= .iface 0 (.int .i64 c):=rfl
theorem cF:(Tryz.prog.info? 5).map (fun i=>(i.zero,i.size,i.bytes))=some (some (.int .u8 0),1,1):=by kernel_rfl
theorem si:(Tryz.prog.info? 9).map (fun i=>(i.zero,i.size,i.bytes))=some (some (.string ⟨#[]⟩),1,16):=by kernel_rfl
def iA (xs:List (List Int)) (i:Int):(List Int):=xs.getD i.toNat ([]:List Int)
theorem IC {w:World} {A:Option Addr} {n:Nat} {xs:List (List Int)} (h:Kd.C (Kd.slice 5 (Kd.int .u8)) w A n xs) (i:Int) (h0:0≤i) (h1:i<n):∃ad A0 c0,A=some ad∧w.cell? (ad.add i.toNat)=some (.slice A0 (iA xs i).length c0)∧(iA xs i).length≤c0∧(Kd.int .u8).C w A0 (iA xs i).length (iA xs i):=by
 obtain⟨ad,c,e,_,hK,gh⟩:=Kd.Iy h ([]:List Int) i h0 h1
 have hc:∀j u,c[j]? =some u→w.cell? (ad.add (i.toNat*1+j))=some u:=gh
 obtain⟨A0,c0,rfl,l0,g0⟩:=hK
 exact⟨ad,A0,c0,e,by have hq:=hc 0 _ rfl;rwa [Nat.mul_one,Nat.add_zero] at hq,l0,g0⟩
structure qd where
 f0:ByteArray
 f1:(List Int)
 f2:(List Int)
 f3:(List Int)
 f4:(List Int)
 f5:ByteArray
def z55:qd:=⟨(⟨#[]⟩:ByteArray),([]:List Int),([]:List Int),([]:List Int),([]:List Int),(⟨#[]⟩:ByteArray)⟩
def BW:Kd qd:=Kd.iso (Kd.pair Kd.string (Kd.pair (Kd.slice 5 (Kd.int .u8)) (Kd.pair (Kd.slice 5 (Kd.int .u8)) (Kd.pair (Kd.slice 5 (Kd.int .u8)) (Kd.pair (Kd.slice 5 (Kd.int .u8)) Kd.string))))) (fun x:qd=>(x.f0,x.f1,x.f2,x.f3,x.f4,x.f5))
theorem yW {w:World} {x:qd} {cs:List Value} (h:BW.K w x cs):∃A1 c1 A2 c2 A3 c3 A4 c4,cs= [.string x.f0,.slice A1 x.f1.length c1,.slice A2 x.f2.length c2,.slice A3 x.f3.length c3,.slice A4 x.f4.length c4,.string x.f5]∧x.f1.length≤c1∧(Kd.int .u8).C w A1 x.f1.length x.f1∧x.f2.length≤c2∧(Kd.int .u8).C w A2 x.f2.length x.f2∧x.f3.length≤c3∧(Kd.int .u8).C w A3 x.f3.length x.f3∧x.f4.length≤c4∧(Kd.int .u8).C w A4 x.f4.length x.f4:=by
 obtain⟨_,_,rfl,rfl,⟨_,_,rfl,⟨A1,c1,rfl,l1,g1⟩,⟨_,_,rfl,⟨A2,c2,rfl,l2,g2⟩,⟨_,_,rfl,⟨A3,c3,rfl,l3,g3⟩,⟨_,_,rfl,⟨A4,c4,rfl,l4,g4⟩,rfl⟩⟩⟩⟩⟩:=h
 exact⟨A1,c1,A2,c2,A3,c3,A4,c4,rfl,l1,g1,l2,g2,l3,g3,l4,g4⟩
theorem R4 (w:World) (x:qd) {A1:Option Addr} {c1:Nat} (l1:x.f1.length≤c1) (g1:(Kd.int .u8).C w A1 x.f1.length x.f1) {A2:Option Addr} {c2:Nat} (l2:x.f2.length≤c2) (g2:(Kd.int .u8).C w A2 x.f2.length x.f2) {A3:Option Addr} {c3:Nat} (l3:x.f3.length≤c3) (g3:(Kd.int .u8).C w A3 x.f3.length x.f3) {A4:Option Addr} {c4:Nat} (l4:x.f4.length≤c4) (g4:(Kd.int .u8).C w A4 x.f4.length x.f4):BW.K w x [.string x.f0,.slice A1 x.f1.length c1,.slice A2 x.f2.length c2,.slice A3 x.f3.length c3,.slice A4 x.f4.length c4,.string x.f5]:=⟨[.string x.f0],[.slice A1 x.f1.length c1,.slice A2 x.f2.length c2,.slice A3 x.f3.length c3,.slice A4 x.f4.length c4,.string x.f5],rfl,rfl,⟨[.slice A1 x.f1.length c1],[.slice A2 x.f2.length c2,.slice A3 x.f3.length c3,.slice A4 x.f4.length c4,.string x.f5],rfl,⟨A1,c1,rfl,l1,g1⟩,⟨[.slice A2 x.f2.length c2],[.slice A3 x.f3.length c3,.slice A4 x.f4.length c4,.string x.f5],rfl,⟨A2,c2,rfl,l2,g2⟩,⟨[.slice A3 x.f3.length c3],[.slice A4 x.f4.length c4,.string x.f5],rfl,⟨A3,c3,rfl,l3,g3⟩,⟨[.slice A4 x.f4.length c4],[.string x.f5],rfl,⟨A4,c4,rfl,l4,g4⟩,rfl⟩⟩⟩⟩⟩
def av (xs:List qd) (i:Int):qd:=xs.getD i.toNat z55
theorem Ch {w:World} {A:Option Addr} {n:Nat} {xs:List qd} (h:Kd.C BW w A n xs) (i:Int) (h0:0≤i) (h1:i<n):∃ad A1 c1 A2 c2 A3 c3 A4 c4,A=some ad∧w.cell? (ad.add (i.toNat*6))=some (.string (av xs i).f0)∧w.cell? ⟨(ad.add (i.toNat*6)).block,(ad.add (i.toNat*6)).off+1,none⟩=some (.slice A1 (av xs i).f1.length c1)∧w.cell? ⟨(ad.add (i.toNat*6)).block,(ad.add (i.toNat*6)).off+2,none⟩=some (.slice A2 (av xs i).f2.length c2)∧w.cell? ⟨(ad.add (i.toNat*6)).block,(ad.add (i.toNat*6)).off+3,none⟩=some (.slice A3 (av xs i).f3.length c3)∧w.cell? ⟨(ad.add (i.toNat*6)).block,(ad.add (i.toNat*6)).off+4,none⟩=some (.slice A4 (av xs i).f4.length c4)∧w.cell? ⟨(ad.add (i.toNat*6)).block,(ad.add (i.toNat*6)).off+5,none⟩=some (.string (av xs i).f5)∧(av xs i).f1.length≤c1∧(Kd.int .u8).C w A1 (av xs i).f1.length (av xs i).f1∧(av xs i).f2.length≤c2∧(Kd.int .u8).C w A2 (av xs i).f2.length (av xs i).f2∧(av xs i).f3.length≤c3∧(Kd.int .u8).C w A3 (av xs i).f3.length (av xs i).f3∧(av xs i).f4.length≤c4∧(Kd.int .u8).C w A4 (av xs i).f4.length (av xs i).f4:=by
 obtain⟨ad,c,e,_,hK,gh⟩:=Kd.Iy h z55 i h0 h1
 have hc:∀j u,c[j]? =some u→w.cell? (ad.add (i.toNat*6+j))=some u:=gh
 obtain⟨A1,c1,A2,c2,A3,c3,A4,c4,rfl,l1,g1,l2,g2,l3,g3,l4,g4⟩:=yW hK
 exact⟨ad,A1,c1,A2,c2,A3,c3,A4,c4,e,hc 0 _ rfl,by rw [←cf _ _ 1 (by omega)];exact hc 1 _ rfl,by rw [←cf _ _ 2 (by omega)];exact hc 2 _ rfl,by rw [←cf _ _ 3 (by omega)];exact hc 3 _ rfl,by rw [←cf _ _ 4 (by omega)];exact hc 4 _ rfl,by rw [←cf _ _ 5 (by omega)];exact hc 5 _ rfl,l1,g1,l2,g2,l3,g3,l4,g4⟩
structure gx where
 f0:(List Int)
 f1:(List (List Int))
def VR:gx:=⟨([]:List Int),([]:List (List Int))⟩
def WC:Kd gx:=Kd.iso (Kd.pair (Kd.slice 5 (Kd.int .u8)) (Kd.slice 24 (Kd.slice 5 (Kd.int .u8)))) (fun x:gx=>(x.f0,x.f1))
theorem ID {w:World} {x:gx} {cs:List Value} (h:WC.K w x cs):∃A0 c0 A1 c1,cs= [.slice A0 x.f0.length c0,.slice A1 x.f1.length c1]∧x.f0.length≤c0∧(Kd.int .u8).C w A0 x.f0.length x.f0∧x.f1.length≤c1∧(Kd.slice 5 (Kd.int .u8)).C w A1 x.f1.length x.f1:=by
 obtain⟨_,_,rfl,⟨A0,c0,rfl,l0,g0⟩,⟨A1,c1,rfl,l1,g1⟩⟩:=h
 exact⟨A0,c0,A1,c1,rfl,l0,g0,l1,g1⟩
theorem R5 (w:World) (x:gx) {A0:Option Addr} {c0:Nat} (l0:x.f0.length≤c0) (g0:(Kd.int .u8).C w A0 x.f0.length x.f0) {A1:Option Addr} {c1:Nat} (l1:x.f1.length≤c1) (g1:(Kd.slice 5 (Kd.int .u8)).C w A1 x.f1.length x.f1):WC.K w x [.slice A0 x.f0.length c0,.slice A1 x.f1.length c1]:=⟨[.slice A0 x.f0.length c0],[.slice A1 x.f1.length c1],rfl,⟨A0,c0,rfl,l0,g0⟩,⟨A1,c1,rfl,l1,g1⟩⟩
def jY (xs:List gx) (i:Int):gx:=xs.getD i.toNat VR
theorem R6 {w:World} {A:Option Addr} {n:Nat} {xs:List gx} (h:Kd.C WC w A n xs) (i:Int) (h0:0≤i) (h1:i<n):∃ad A0 c0 A1 c1,A=some ad∧w.cell? (ad.add (i.toNat*2))=some (.slice A0 (jY xs i).f0.length c0)∧w.cell? ⟨(ad.add (i.toNat*2)).block,(ad.add (i.toNat*2)).off+1,none⟩=some (.slice A1 (jY xs i).f1.length c1)∧(jY xs i).f0.length≤c0∧(Kd.int .u8).C w A0 (jY xs i).f0.length (jY xs i).f0∧(jY xs i).f1.length≤c1∧(Kd.slice 5 (Kd.int .u8)).C w A1 (jY xs i).f1.length (jY xs i).f1:=by
 obtain⟨ad,c,e,_,hK,gh⟩:=Kd.Iy h VR i h0 h1
 have hc:∀j u,c[j]? =some u→w.cell? (ad.add (i.toNat*2+j))=some u:=gh
 obtain⟨A0,c0,A1,c1,rfl,l0,g0,l1,g1⟩:=ID hK
 exact⟨ad,A0,c0,A1,c1,e,hc 0 _ rfl,by rw [←cf _ _ 1 (by omega)];exact hc 1 _ rfl,l0,g0,l1,g1⟩
def aD (w0 W:World) (g:Nat) (f0:List Int) (f1:Int) (f2:Bool):Prop:=∃A0 c0,W.heap[g]? =some (.cells #[.slice A0 f0.length c0,.int .i64 f1,.bool f2] 115 (0,0))∧w0.heap.size≤g∧(f0.length≤c0∧Kd.C (Kd.int .u8) w0 A0 f0.length f0)
theorem aD.grown {w0 W:World} {g:Nat} {f0:List Int} {f1:Int} {f2:Bool} {W1:World} {row:Option Nat} (h:aD w0 W g f0 f1 f2) (hw:W.grownBy W1 row) (jJ:some g≠row):aD w0 W1 g f0 f1 f2:=by
 obtain⟨A0,c0,hb,hg,mE⟩:=h
 exact⟨A0,c0,cE hb hw jJ,hg,mE⟩
theorem aD.below {w0 W:World} {g:Nat} {f0:List Int} {f1:Int} {f2:Bool} {W1:World} (h:aD w0 W g f0 f1 f2) (hw:Below W.heap.size W W1):aD w0 W1 g f0 f1 f2:=h.grown (mC hw none) (by simp)
theorem aD.alloc {w0 W:World} {g:Nat} {f0:List Int} {f1:Int} {f2:Bool} (h:aD w0 W g f0 f1 f2) (o:Obj):aD w0 (W.alloc o) g f0 f1 f2:=h.below (au (Below.refl _ _) o)
theorem aD.drewN {w0 W:World} {g:Nat} {f0:List Int} {f1:Int} {f2:Bool} (h:aD w0 W g f0 f1 f2) (m:Nat):aD w0 (W.drewN m) g f0 f1 f2:=h
theorem aD.drew {w0 W:World} {g:Nat} {f0:List Int} {f1:Int} {f2:Bool} (h:aD w0 W g f0 f1 f2):aD w0 W.drew g f0 f1 f2:=h
theorem aD.apart {w0 W:World} {g:Nat} {f0:List Int} {f1:Int} {f2:Bool} {α:Type} {d:Kd α} {e:Nat} {base:Nat} {ok:Nat→Prop} {v:Value} {xs:List α} (h:aD w0 W g f0 f1 f2) (ho:d.R e W base ok v xs) (ht:∀q,q∈e::d.E→q≠115):d.R e W base (fun k=>ok k∧k≠g) v xs:=by
 obtain⟨A0,c0,hb,hg,mE⟩:=h
 exact Kd.wk ho hb ht
theorem aD.ge {w0 W:World} {g:Nat} {f0:List Int} {f1:Int} {f2:Bool} (h:aD w0 W g f0 f1 f2):w0.heap.size≤g:=by
 obtain⟨A0,c0,hb,hg,mE⟩:=h
 exact hg
theorem aK {W:World} {g:Nat} {A0:Option Addr} {c0:Nat} {f0:List Int} {f1:Int} {f2:Bool} (h:W.heap[g]? =some (.cells #[.slice A0 f0.length c0,.int .i64 f1,.bool f2] 115 (0,0))):W.cell? ⟨g,0,none⟩=some (.slice A0 f0.length c0):=(ao h 0).trans rfl
theorem aM {W:World} {g:Nat} {A0:Option Addr} {c0:Nat} {f0:List Int} {f1:Int} {f2:Bool} (h:W.heap[g]? =some (.cells #[.slice A0 f0.length c0,.int .i64 f1,.bool f2] 115 (0,0))):W.cell? ⟨g,1,none⟩=some (.int .i64 f1):=(ao h 1).trans rfl
theorem aD.Qd {w0 W:World} {g:Nat} {f0:List Int} {f1:Int} {f2:Bool} (h:aD w0 W g f0 f1 f2) (x:Int):aD w0 (W.setCell ⟨g,1,none⟩ (.int .i64 x)) g f0 x f2:=by
 obtain⟨A0,c0,hb,hg,mE⟩:=h
 exact⟨A0,c0,by simpa using cj hb 1 (.int .i64 x),hg,mE⟩
theorem aN {W:World} {g:Nat} {A0:Option Addr} {c0:Nat} {f0:List Int} {f1:Int} {f2:Bool} (h:W.heap[g]? =some (.cells #[.slice A0 f0.length c0,.int .i64 f1,.bool f2] 115 (0,0))):W.cell? ⟨g,2,none⟩=some (.bool f2):=(ao h 2).trans rfl
theorem aD.Qe {w0 W:World} {g:Nat} {f0:List Int} {f1:Int} {f2:Bool} (h:aD w0 W g f0 f1 f2) (x:Bool):aD w0 (W.setCell ⟨g,2,none⟩ (.bool x)) g f0 f1 x:=by
 obtain⟨A0,c0,hb,hg,mE⟩:=h
 exact⟨A0,c0,by simpa using cj hb 2 (.bool x),hg,mE⟩
theorem aD.new (w0 W:World) (A0:Option Addr) (c0:Nat) (f0:List Int) (f1:Int) (f2:Bool) (hB:Below w0.heap.size w0 W) (mE:f0.length≤c0∧Kd.C (Kd.int .u8) w0 A0 f0.length f0):aD w0 (W.alloc (.cells #[.slice A0 f0.length c0,.int .i64 f1,.bool f2] 115)) W.heap.size f0 f1 f2:=⟨A0,c0,by simpa using heap_alloc_new W _,hB.size,mE⟩
def aV.f (ah:List Int) (bg:Int) (bq:Bool):Option (Bool×Int×Bool):=some (decide (bg≥(ah.length:Int)),bg,bq)
theorem kA {w w1:World} {g:Nat} {row:Option Nat} (h:aw w w1 g row) (j:Nat) (u:Value):aw w (w1.setCell ⟨g,j,none⟩ u) g row:=aw.gG h j u
theorem kB {w W:World} {g:Nat} {row:Option Nat} (h:aw w W g row) (m:Nat):aw w (W.drewN m) g row:=h
theorem kC {w W:World} {g:Nat} {row:Option Nat} (h:aw w W g row):aw w W.drew g row:=h
theorem kD {w W:World} {g:Nat} (h:aw w W g none) (o:Obj):aw w (W.alloc o) g none:=sf h o
theorem bA {w W:World} (h:Below w.heap.size w W) (o:Obj):Below w.heap.size w (W.alloc o):=au h o
theorem bB {B:Nat} {w W:World} (h:Below B w W) (n:Nat):Below B w (W.drewN n):=bn h n
theorem bC {B:Nat} {w W:World} (h:Below B w W):Below B w W.drew:=yU h
theorem bD {w W:World} {g j:Nat} {v:Value} (h:Below w.heap.size w W) (hg:w.heap.size≤g):Below w.heap.size w (W.setCell ⟨g,j,none⟩ v):=fj h hg
theorem sA {w0 W:World} {g:Nat} {f0:List Int} {f1:Int} {f2:Bool} (h:aD w0 W g f0 f1 f2) (o:Obj):aD w0 (W.alloc o) g f0 f1 f2:=h.alloc o
theorem sB {w0 W:World} {g:Nat} {f0:List Int} {f1:Int} {f2:Bool} (h:aD w0 W g f0 f1 f2) (m:Nat):aD w0 (W.drewN m) g f0 f1 f2:=h
theorem sC {w0 W:World} {g:Nat} {f0:List Int} {f1:Int} {f2:Bool} (h:aD w0 W g f0 f1 f2):aD w0 W.drew g f0 f1 f2:=h
theorem sD {w0 W:World} {g:Nat} {f0:List Int} {f1:Int} {f2:Bool} (h:aD w0 W g f0 f1 f2) (x:Int):aD w0 (W.setCell ⟨g,1,none⟩ (.int .i64 x)) g f0 x f2:=h.Qd x
theorem sE {w0 W:World} {g:Nat} {f0:List Int} {f1:Int} {f2:Bool} (h:aD w0 W g f0 f1 f2) (x:Bool):aD w0 (W.setCell ⟨g,2,none⟩ (.bool x)) g f0 f1 x:=h.Qe x
theorem qI {P:Prop} (h:P:=by(repeat(first|(with_reducible first|exact aQ.out|apply sA|apply sB|apply sC|apply sD|apply sE)|exact aQ.out));first|done|fail):P:=h
theorem qK {P:Prop} (h:P:=by(repeat(first|(with_reducible first|exact HK.out|apply kA|apply kB|apply kC|apply kD)|exact HK.out));first|done|fail):P:=h
theorem qB {P:Prop} (h:P:=by(repeat(first|(with_reducible first|exact HB.out|apply bA|apply bB|apply bC|refine bD ?_ (aD.ge aQ.out))|exact HB.out));first|done|fail):P:=h
theorem qC {P:Prop} (h:P:=by(repeat(first|(with_reducible first|exact HB.out|apply bA|apply bB|apply bC)|exact HB.out));first|done|fail):P:=h
theorem qD {P:Prop} (h:P:=by(repeat(first|(with_reducible first|exact HB.out|apply bA|apply bB|apply bC|refine bD ?_ IE.out)|exact HB.out));first|done|fail):P:=h
theorem qE {P:Prop} (h:P:=by(repeat(first|exact cS.refl _|apply cS.step));first|done|fail):P:=h
theorem qF {P:Prop} (h:P:=by first|rfl|(simp;done)|(simp [*];done)):P:=h
theorem qG {P:Prop} (h:P:=by first|rfl|(simp [gy,gz]<;>rfl)|(simp [*,gy,gz]<;>rfl)):P:=h
theorem qH {P:Prop} (h:P:=by first|(with_reducible assumption)|assumption):P:=h
theorem mK {P:Program} {f:FuncId} {vs:Array Value} {w0 w:World} {v:Value} {A B:World→Prop} {g:Nat} {Q:Ending→World→Prop} (h:Calls P f vs w fun e w' =>e= .returned v∧A w' ∧B w' ∧aw w w' g none) (k:∀w',ak (A w')→ak (B w')→ak (aw w0 w' g none)→Q (.returned v) w') (hk:aw w0 w g none:=by(repeat(first|(with_reducible first|exact HK.out|apply kA|apply kB|apply kC|apply kD)|exact HK.out));first|done|fail):Calls P f vs w Q:=h.mono fun e w' ⟨he,ha,hb,hc⟩=>he▸k w' ⟨ha⟩ ⟨hb⟩ ⟨hk.trans hc (.inl rfl)⟩
theorem gL {P:Program} {ops:Array Oper} {Q:Exit→Act→World→Prop} {rest:List Oper} {oi:Oper} {a:Act} {w:World} (f:FuncId) (N:Tmp) {fn:Func} {os:Array Operand} {ts:Array TypeId} (hf:P.funcs[f]? =some fn) (args:Array Value) (h:Calls P f args w fun e w' =>∃v,e= .returned v∧wpList P ops Q rest (a.put (some N) v) w')
  (rh:oi.op= .call {callee:=.value (.func f),args:=os,argTypes:=ts}:=by with_reducible rfl) (hd:oi.dst=some N:=by rfl) (hg:oi.guard=none:=by rfl) (yV:(fn.name== "runtime.NumGoroutine")=false:=by kernel_rfl) (hb:fn.body.isSome=true:=by rfl) (Eb:os.map a.eval=args:=by((try simp only [List.map_toArray,List.map_cons,List.map_nil]);first|done|rfl|(simp only [List.length_drop,List.length_take];rfl))):wpList P ops Q (oi::rest) a w:=R3 (some N) hd hg hf yV hb args rh Eb h
theorem aV.calls (g:Nat) (ah:List Int) (bg:Int) (bq:Bool) (r1:Bool) (r2:Int) (r3:Bool) (w0 w:World) (hI:aD w0 w g ah bg bq) (hB:Below w0.heap.size w0 w) (h:aV.f ah bg bq=some (r1,r2,r3)):
  Calls Tryz.prog 67 #[.pointer (some ⟨g,0,none⟩)] w fun e w' =>e= .returned (.bool r1)∧aD w0 w' g ah r2 r3∧Below w0.heap.size w0 w' ∧aw w w' g none:=by
 have aQ:=am hI
 have HK:=am (aw.refl w g none)
 have HL:=am hB.size
 clear hI
 have yX:=am hB.size
 have HB:=am hB
 clear hB
 have H:(some (decide (bg≥(ah.length:Int)),bg,bq))=some (r1,r2,r3):=h
 clear h
 simp only [Option.some.injEq,Prod.mk.injEq] at H
 obtain⟨rfl,rfl,rfl⟩:=H
 obtain⟨IF,IG,ky,II,IJ⟩:=aQ.out
 have Ci:=aK ky
 have Cj:=aM ky
 have Ck:=aN ky
 have Cl:=ai ky 1
 have Cn:=ai ky 2
 clear ky II
 go_enter Tryz.func67,Tryz.ntmps67
 go_wp2
 repeat(go_quiet (fail);try go_wp2)
 go_ret
 exact⟨qG,qI,qB,qK⟩
def aa.f (ah:List Int) (bg:Int) (bq:Bool) (a1:Int):Option (Int×Int×Bool):=if (wrap64 (bg+a1))≥(ah.length:Int) then (some (0,bg,bq)) else (if 0≤(wrap64 (bg+a1)) then (if (wrap64 (bg+a1))<(ah.length:Int) then (some (rd ah (wrap64 (bg+a1)),bg,bq)) else (none)) else (none))
theorem aa.calls (g:Nat) (ah:List Int) (bg:Int) (bq:Bool) (a1:Int) (r1:Int) (r2:Int) (r3:Bool) (w0 w:World) (hI:aD w0 w g ah bg bq) (hB:Below w0.heap.size w0 w) (h:aa.f ah bg bq a1=some (r1,r2,r3)):
  Calls Tryz.prog 104 #[.pointer (some ⟨g,0,none⟩),.int .i64 a1] w fun e w' =>e= .returned (.int .u8 r1)∧aD w0 w' g ah r2 r3∧Below w0.heap.size w0 w' ∧aw w w' g none:=by
 have aQ:=am hI
 have HK:=am (aw.refl w g none)
 have HL:=am hB.size
 clear hI
 have yX:=am hB.size
 have HB:=am hB
 clear hB
 have H:(if (wrap64 (bg+a1))≥(ah.length:Int) then (some (0,bg,bq)) else (if 0≤(wrap64 (bg+a1)) then (if (wrap64 (bg+a1))<(ah.length:Int) then (some (rd ah (wrap64 (bg+a1)),bg,bq)) else (none)) else (none)))=some (r1,r2,r3):=h
 clear h
 by_cases c3:(wrap64 (bg+a1))≥(ah.length:Int)
 ·rw [if_pos c3] at H
  have jZ:decide ((ah.length:Int)≤(wrap64 (bg+a1)))=true:=decide_eq_true c3
  clear c3
  simp only [Option.some.injEq,Prod.mk.injEq] at H
  obtain⟨rfl,rfl,rfl⟩:=H
  obtain⟨R7,R8,qn,R9,Se⟩:=aQ.out
  have Co:=aK qn
  have Cp:=aM qn
  have Cq:=aN qn
  have Cr:=ai qn 1
  have Cs:=ai qn 2
  clear qn R9
  go_enter Tryz.func104,Tryz.ntmps104
  go_wp2
  repeat(go_quiet (fail);try go_wp2)
  go_ret
  exact⟨qG,qI,qB,qK⟩
 ·rw [if_neg c3] at H
  have jZ:decide ((ah.length:Int)≤(wrap64 (bg+a1)))=false:=decide_eq_false c3
  clear c3
  obtain⟨IK,IL⟩:∃j_:Int,(wrap64 (bg+a1))=j_:=⟨_,rfl⟩
  replace H:(if 0≤(IK) then (if (IK)<(ah.length:Int) then (some (rd ah (IK),bg,bq)) else (none)) else (none))=some (r1,r2,r3):=by first|(rw [IL] at H;exact H)|(simp only [IL] at H⊢;exact H)
  (try rw [IL] at jZ)
  have ags:(IntKind.i64.wrap (bg+a1))=IK:=(cB _).trans IL
  by_cases c6:0≤(IK)
  ·rw [if_pos c6] at H
   have sj:decide (0≤(IK))=true:=decide_eq_true c6
   clear c6
   by_cases c7:(IK)<(ah.length:Int)
   ·rw [if_pos c7] at H
    have mF:decide ((IK)<(ah.length:Int))=true:=decide_eq_true c7
    clear c7
    simp only [Option.some.injEq,Prod.mk.injEq] at H
    obtain⟨rfl,rfl,rfl⟩:=H
    obtain⟨IM,IN,kz,IP,Ct⟩:=aQ.out
    have j9:=aK kz
    have kf:=aM kz
    have kg:=aN kz
    have ki:=ai kz 1
    have kj:=ai kz 2
    clear kz IP
    have Sf:0≤((IK):Int):=of_decide_eq_true qH
    have Sg:(IK)<(ah.length:Int):=of_decide_eq_true qH
    obtain⟨agt,aeo,Ec⟩:=Kd.cK Ct.2 (IK) Sf Sg
    cases aeo
    replace Ec:=al HB.out Ec
    replace Sf:=eq_true Sf
    replace Sg:=eq_true Sg
    go_enter Tryz.func104,Tryz.ntmps104
    go_wp2
    repeat(go_quiet (fail);try go_wp2)
    go_ret
    exact⟨by first|rfl|(simp [gy,gz]<;>rfl)|(simp only [←IL];first|rfl|(simp [gy,gz]<;>rfl))|(simp [*,gy,gz]<;>rfl),qI,qB,qK⟩
   ·rw [if_neg c7] at H
    exact absurd H (by simp)
  ·rw [if_neg c6] at H
   exact absurd H (by simp)
def bJ.f (a0:Int):Option (Bool):=if a0=32 then (some true) else (if a0=10 then (some true) else (if a0=13 then (some true) else (if a0=9 then (some true) else (some (a0==12)))))
theorem bJ.calls (a0:Int) (r:Bool) (w:World) (h:bJ.f a0=some r):
  Calls Tryz.prog 105 #[.int .u8 a0] w fun e w' =>e= .returned (.bool r)∧cS w w':=by
 have H:(if a0=32 then (some true) else (if a0=10 then (some true) else (if a0=13 then (some true) else (if a0=9 then (some true) else (some (a0==12))))))=some r:=h
 clear h
 by_cases c2:a0=32
 ·rw [if_pos c2] at H
  have oc:(a0==32)=true:=beq_iff_eq.mpr c2
  have Gk:(a0 !=32)=false:=bne_eq_false_iff_eq.mpr c2
  clear c2
  obtain rfl:=Option.some.inj H
  go_enter Tryz.func105,Tryz.ntmps105
  go_wp2
  go_ret
  exact⟨qF,qE⟩
 ·rw [if_neg c2] at H
  have oc:(a0==32)=false:=beq_eq_false_iff_ne.mpr c2
  have Gk:(a0 !=32)=true:=bne_iff_ne.mpr c2
  by_cases c3:a0=10
  ·rw [if_pos c3] at H
   have jZ:(a0==10)=true:=beq_iff_eq.mpr c3
   have wu:(a0 !=10)=false:=bne_eq_false_iff_eq.mpr c3
   clear c3
   obtain rfl:=Option.some.inj H
   go_enter Tryz.func105,Tryz.ntmps105
   go_wp2
   go_ret
   exact⟨qF,qE⟩
  ·rw [if_neg c3] at H
   have jZ:(a0==10)=false:=beq_eq_false_iff_ne.mpr c3
   have wu:(a0 !=10)=true:=bne_iff_ne.mpr c3
   by_cases c4:a0=13
   ·rw [if_pos c4] at H
    have eF:(a0==13)=true:=beq_iff_eq.mpr c4
    have uq:(a0 !=13)=false:=bne_eq_false_iff_eq.mpr c4
    clear c4
    obtain rfl:=Option.some.inj H
    go_enter Tryz.func105,Tryz.ntmps105
    go_wp2
    go_ret
    exact⟨qF,qE⟩
   ·rw [if_neg c4] at H
    have eF:(a0==13)=false:=beq_eq_false_iff_ne.mpr c4
    have uq:(a0 !=13)=true:=bne_iff_ne.mpr c4
    by_cases c5:a0=9
    ·rw [if_pos c5] at H
     have df:(a0==9)=true:=beq_iff_eq.mpr c5
     have iX:(a0 !=9)=false:=bne_eq_false_iff_eq.mpr c5
     clear c5
     obtain rfl:=Option.some.inj H
     go_enter Tryz.func105,Tryz.ntmps105
     go_wp2
     go_ret
     exact⟨qF,qE⟩
    ·rw [if_neg c5] at H
     have df:(a0==9)=false:=beq_eq_false_iff_ne.mpr c5
     have iX:(a0 !=9)=true:=bne_iff_ne.mpr c5
     obtain rfl:=Option.some.inj H
     go_enter Tryz.func105,Tryz.ntmps105
     go_wp2
     go_ret
     exact⟨qF,qE⟩
def aH.l0:Nat→List Int→Int→Bool→Option (Int×Bool)
 | 0,_,_,_=>none
 | k+1,x1000,x1001,x1002=>(aa.f x1000 x1001 x1002 0).bind fun yY=>((bJ.f yY.1).bind fun t182=>(if t182=true then (aH.l0 k x1000 (wrap64 (yY.2.1+1)) yY.2.2) else (some (yY.2.1,yY.2.2))))
def aH.f (k:Nat) (ah:List Int) (bg:Int) (bq:Bool):Option (Int×Bool):=aH.l0 k ah bg bq
theorem aH.calls (k:Nat) (g:Nat) (ah:List Int) (bg:Int) (bq:Bool) (r1:Int) (r2:Bool) (w0 w:World) (hI:aD w0 w g ah bg bq) (hB:Below w0.heap.size w0 w) (h:aH.f k ah bg bq=some (r1,r2)):
  Calls Tryz.prog 106 #[.pointer (some ⟨g,0,none⟩)] w fun e w' =>e= .returned (.tuple #[])∧aD w0 w' g ah r1 r2∧Below w0.heap.size w0 w' ∧aw w w' g none:=by
 have aQ:=am hI
 have HK:=am (aw.refl w g none)
 have HL:=am hB.size
 clear hI
 have yX:=am hB.size
 have HB:=am hB
 clear hB
 have H:(aH.l0 k ah bg bq)=some (r1,r2):=h
 clear h
 have H':=am H
 clear H
 go_enter Tryz.func106,Tryz.ntmps106
 go_wp2
 go_loopg [] k (fun kq w' =>∃(aZ:Int) (a8:Bool),ak (aH.l0 kq ah aZ a8=some (r1,r2))∧ak (kq≤k)∧ak (aD w0 w' g ah aZ a8)∧ak (aw w w' g none)∧ak (Below w0.heap.size w0 w'))
 case atStart=>exact⟨(bg),(bq),H',⟨Nat.le_refl _⟩,⟨qI⟩,⟨qK⟩,⟨qB⟩⟩
 case round=>
  clear H'
  try clear c1
  obtain⟨aZ,a8,HA,dR,aQ,HK,HB⟩:=hrel
  cases gk with
  | zero=>exact absurd HA.out (by simp [aH.l0])
  | succ k1=>
   have H:=HA.out
   clear HA
   simp only [aH.l0] at H
   replace H:=Option.bind_eq_some_iff.mp H
   obtain⟨⟨t179,t180,t181⟩,mf,H⟩:=H
   replace H:((bJ.f t179).bind fun t182=>(if t182=true then (aH.l0 k1 ah (wrap64 (t180+1)) t181) else (some (t180,t181))))=some (r1,r2):=H
   have A2:=am mf
   clear mf
   replace H:=Option.bind_eq_some_iff.mp H
   obtain⟨t182,wy,H⟩:=H
   replace H:(if t182=true then (aH.l0 k1 ah (wrap64 (t180+1)) t181) else (some (t180,t181)))=some (r1,r2):=H
   have A3:=am wy
   clear wy
   by_cases c4:t182=true
   ·subst c4
    have H1:(aH.l0 k1 ah (wrap64 (t180+1)) t181)=some (r1,r2):=by rw [if_pos rfl] at H;exact H
    clear H
    have H:=H1
    clear H1
    have H':=am H
    clear H
    go_wp2_with (first|(refine gL 104 3 Tryz.func104 #[.pointer (some ⟨g,0,none⟩),.int .i64 0] ?_;(with_reducible refine mK (aa.calls g ah aZ a8 0 t179 t180 t181 w0 _ qI qB A2.out) ?_);clear aQ HB HK;intro w5 aQ HB HK;refine⟨_,rfl,?_⟩)|(refine gL 105 4 Tryz.func105 #[.int .u8 t179] ?_;(with_reducible refine(bJ.calls t179 true _ A3.out).mono ?_);rintro e w' ⟨rfl,⟨nd,rfl⟩⟩;refine⟨_,rfl,?_⟩;(try(rw [dC w5];generalize gI:World.drewN w5 _=w5;have cR:ak (aD w0 w5 g ah t180 t181):=⟨by rw [←gI];exact qI⟩;have cM:ak (aw w w5 g none):=⟨by rw [←gI];exact qK⟩;have cY:ak (Below w0.heap.size w0 w5):=⟨by rw [←gI];exact qB⟩;clear aQ HK HB gI;have aQ:=cR;have HK:=cM;have HB:=cY;clear cR cM cY));obtain⟨IQ,IS,kF,IT,IU⟩:=aQ.out;have IV:=aK kF;have IW:=aM kF;have IX:=aN kF;have IY:=ai kF 1;have IZ:=ai kF 2;clear kF IT))
    go_roundg k1
    case measure=>have:=dR.out;omega
    case rel=>exact⟨(wrap64 (t180+1)),(t181),H',⟨by have:=dR.out;omega⟩,⟨qI⟩,⟨qK⟩,⟨qB⟩⟩
   ·replace c4:=Bool.eq_false_iff.mpr c4
    subst c4
    have H1:(some (t180,t181))=some (r1,r2):=by rw [if_neg (show ¬(false=true) by decide)] at H;exact H
    clear H
    have H:=H1
    clear H1
    simp only [Option.some.injEq,Prod.mk.injEq] at H
    obtain⟨rfl,rfl⟩:=H
    go_wp2_with (first|(refine gL 104 3 Tryz.func104 #[.pointer (some ⟨g,0,none⟩),.int .i64 0] ?_;(with_reducible refine mK (aa.calls g ah aZ a8 0 t179 t180 t181 w0 _ qI qB A2.out) ?_);clear aQ HB HK;intro w7 aQ HB HK;refine⟨_,rfl,?_⟩)|(refine gL 105 4 Tryz.func105 #[.int .u8 t179] ?_;(with_reducible refine(bJ.calls t179 false _ A3.out).mono ?_);rintro e w' ⟨rfl,⟨nd,rfl⟩⟩;refine⟨_,rfl,?_⟩))
    first|go_end0|((try simp only [Exit.inBlock,Exit.then]);refine bodyPost_ret (results_none rfl _ _ _) rfl ?_)
    exact⟨qG,qI,qB,qK⟩
def bk.f (a0:Int):Option (Bool):=if a0=10 then (some true) else (if a0=13 then (some true) else (some (a0==12)))
theorem bk.calls (a0:Int) (r:Bool) (w:World) (h:bk.f a0=some r):
  Calls Tryz.prog 134 #[.int .u8 a0] w fun e w' =>e= .returned (.bool r)∧cS w w':=by
 have H:(if a0=10 then (some true) else (if a0=13 then (some true) else (some (a0==12))))=some r:=h
 clear h
 by_cases c2:a0=10
 ·rw [if_pos c2] at H
  have oc:(a0==10)=true:=beq_iff_eq.mpr c2
  have Gk:(a0 !=10)=false:=bne_eq_false_iff_eq.mpr c2
  clear c2
  obtain rfl:=Option.some.inj H
  go_enter Tryz.func134,Tryz.ntmps134
  go_wp2
  go_ret
  exact⟨qF,qE⟩
 ·rw [if_neg c2] at H
  have oc:(a0==10)=false:=beq_eq_false_iff_ne.mpr c2
  have Gk:(a0 !=10)=true:=bne_iff_ne.mpr c2
  by_cases c3:a0=13
  ·rw [if_pos c3] at H
   have jZ:(a0==13)=true:=beq_iff_eq.mpr c3
   have wu:(a0 !=13)=false:=bne_eq_false_iff_eq.mpr c3
   clear c3
   obtain rfl:=Option.some.inj H
   go_enter Tryz.func134,Tryz.ntmps134
   go_wp2
   go_ret
   exact⟨qF,qE⟩
  ·rw [if_neg c3] at H
   have jZ:(a0==13)=false:=beq_eq_false_iff_ne.mpr c3
   have wu:(a0 !=13)=true:=bne_iff_ne.mpr c3
   obtain rfl:=Option.some.inj H
   go_enter Tryz.func134,Tryz.ntmps134
   go_wp2
   go_ret
   exact⟨qF,qE⟩
def ay.f (ah:List Int) (bg:Int) (bq:Bool) (a1:Int):Option (Bool×Int×Bool):=(aa.f ah bg bq a1).bind fun jn=>(if jn.1=92 then (if (wrap64 ((wrap64 (jn.2.1+a1))+1))≥(ah.length:Int) then (some (false,jn.2.1,true)) else ((aa.f ah jn.2.1 jn.2.2 (wrap64 (a1+1))).bind fun mG=>((bk.f mG.1).bind fun t189=>(some (!t189,mG.2.1,mG.2.2))))) else (some (false,jn.2.1,jn.2.2)))
theorem ay.calls (g:Nat) (ah:List Int) (bg:Int) (bq:Bool) (a1:Int) (r1:Bool) (r2:Int) (r3:Bool) (w0 w:World) (hI:aD w0 w g ah bg bq) (hB:Below w0.heap.size w0 w) (h:ay.f ah bg bq a1=some (r1,r2,r3)):
  Calls Tryz.prog 135 #[.pointer (some ⟨g,0,none⟩),.int .i64 a1] w fun e w' =>e= .returned (.bool r1)∧aD w0 w' g ah r2 r3∧Below w0.heap.size w0 w' ∧aw w w' g none:=by
 have aQ:=am hI
 have HK:=am (aw.refl w g none)
 have HL:=am hB.size
 clear hI
 have yX:=am hB.size
 have HB:=am hB
 clear hB
 have H:((aa.f ah bg bq a1).bind fun jn=>(if jn.1=92 then (if (wrap64 ((wrap64 (jn.2.1+a1))+1))≥(ah.length:Int) then (some (false,jn.2.1,true)) else ((aa.f ah jn.2.1 jn.2.2 (wrap64 (a1+1))).bind fun mG=>((bk.f mG.1).bind fun t189=>(some (!t189,mG.2.1,mG.2.2))))) else (some (false,jn.2.1,jn.2.2))))=some (r1,r2,r3):=h
 clear h
 replace H:=Option.bind_eq_some_iff.mp H
 obtain⟨⟨t183,t184,t185⟩,wy,H⟩:=H
 replace H:(if t183=92 then (if (wrap64 ((wrap64 (t184+a1))+1))≥(ah.length:Int) then (some (false,t184,true)) else ((aa.f ah t184 t185 (wrap64 (a1+1))).bind fun mG=>((bk.f mG.1).bind fun t189=>(some (!t189,mG.2.1,mG.2.2))))) else (some (false,t184,t185)))=some (r1,r2,r3):=H
 have A3:=am wy
 clear wy
 by_cases c4:t183=92
 ·rw [if_pos c4] at H
  have eF:(t183==92)=true:=beq_iff_eq.mpr c4
  have uq:(t183 !=92)=false:=bne_eq_false_iff_eq.mpr c4
  clear c4
  by_cases c5:(wrap64 ((wrap64 (t184+a1))+1))≥(ah.length:Int)
  ·rw [if_pos c5] at H
   have df:decide ((ah.length:Int)≤(wrap64 ((wrap64 (t184+a1))+1)))=true:=decide_eq_true c5
   clear c5
   simp only [Option.some.injEq,Prod.mk.injEq] at H
   obtain⟨rfl,rfl,rfl⟩:=H
   go_enter Tryz.func135,Tryz.ntmps135
   go_wp2_with (first|(go_at_call 104;(with_reducible refine mK (aa.calls g ah bg bq a1 t183 t184 t185 w0 _ qI qB A3.out) ?_);clear aQ HB HK;intro w6 aQ HB HK;obtain⟨wz,wA,fM,wB,wC⟩:=aQ.out;have ly:=aK fM;have lz:=aM fM;have lA:=aN fM;have lB:=ai fM 1;have lC:=ai fM 2;clear fM wB))
   repeat(go_quiet (first|(go_at_call 104;(with_reducible refine mK (aa.calls g ah bg bq a1 t183 t184 t185 w0 _ qI qB A3.out) ?_);clear aQ HB HK;intro w6 aQ HB HK;obtain⟨wz,wA,fM,wB,wC⟩:=aQ.out;have ly:=aK fM;have lz:=aM fM;have lA:=aN fM;have lB:=ai fM 1;have lC:=ai fM 2;clear fM wB));try go_wp2_with (first|(go_at_call 104;(with_reducible refine mK (aa.calls g ah bg bq a1 t183 t184 t185 w0 _ qI qB A3.out) ?_);clear aQ HB HK;intro w6 aQ HB HK;obtain⟨wz,wA,fM,wB,wC⟩:=aQ.out;have ly:=aK fM;have lz:=aM fM;have lA:=aN fM;have lB:=ai fM 1;have lC:=ai fM 2;clear fM wB)))
   go_ret
   exact⟨qG,qI,qB,qK⟩
  ·rw [if_neg c5] at H
   have df:decide ((ah.length:Int)≤(wrap64 ((wrap64 (t184+a1))+1)))=false:=decide_eq_false c5
   clear c5
   replace H:=Option.bind_eq_some_iff.mp H
   obtain⟨⟨t186,t187,t188⟩,Ed,H⟩:=H
   replace H:((bk.f t186).bind fun t189=>(some (!t189,t187,t188)))=some (r1,r2,r3):=H
   have A8:=am Ed
   clear Ed
   replace H:=Option.bind_eq_some_iff.mp H
   obtain⟨t189,Ee,H⟩:=H
   replace H:(some (!t189,t187,t188))=some (r1,r2,r3):=H
   have A9:=am Ee
   clear Ee
   simp only [Option.some.injEq,Prod.mk.injEq] at H
   obtain⟨rfl,rfl,rfl⟩:=H
   go_enter Tryz.func135,Tryz.ntmps135
   go_wp2_with (first|(go_at_call 104;(with_reducible refine mK (aa.calls g ah bg bq a1 t183 t184 t185 w0 _ qI qB A3.out) ?_);clear aQ HB HK;intro Qg aQ HB HK;obtain⟨Ef,Eg,gA,yZ,Eh⟩:=aQ.out;have Ei:=aK gA;have Ej:=aM gA;have Ek:=aN gA;have El:=ai gA 1;have Em:=ai gA 2;clear gA yZ)|(go_at_call 104;(with_reducible refine(aa.calls g ah t184 t185 (wrap64 (a1+1)) t186 t187 t188 w0 _ ?side1 ?side2 A8.out).mono ?_);(case side1=>exact qI);(case side2=>exact qB);rintro e VS ⟨rfl,hi,hb,hk⟩;have cR:=am (aw.trans qK hk (.inl rfl));have cM:=am (hb);have cY:=am (hi);clear HK;clear HB;clear aQ;have HK:=cR;have HB:=cM;have aQ:=cY;clear cR cM cY;(try clear hb);(try clear dc);(try clear hk);(try clear hi))|(go_at_call 134;(with_reducible refine(bk.calls t186 t189 _ A9.out).mono ?_);rintro e w' ⟨rfl,⟨nd,rfl⟩⟩;(try first|exact⟨rfl,_,World.drewN_drewN _ _ _⟩|exact⟨rfl,_,Eq.trans (World.drewN_drewN _ _ _) (congrArg (World.drewN _) (Nat.add_assoc _ _ _))⟩)))
   repeat(go_quiet (first|(go_at_call 104;(with_reducible refine mK (aa.calls g ah bg bq a1 t183 t184 t185 w0 _ qI qB A3.out) ?_);clear aQ HB HK;intro Qg aQ HB HK;obtain⟨Ef,Eg,gA,yZ,Eh⟩:=aQ.out;have Ei:=aK gA;have Ej:=aM gA;have Ek:=aN gA;have El:=ai gA 1;have Em:=ai gA 2;clear gA yZ)|(go_at_call 104;(with_reducible refine(aa.calls g ah t184 t185 (wrap64 (a1+1)) t186 t187 t188 w0 _ ?side1 ?side2 A8.out).mono ?_);(case side1=>exact qI);(case side2=>exact qB);rintro e VS ⟨rfl,hi,hb,hk⟩;have cR:=am (aw.trans qK hk (.inl rfl));have cM:=am (hb);have cY:=am (hi);clear HK;clear HB;clear aQ;have HK:=cR;have HB:=cM;have aQ:=cY;clear cR cM cY;(try clear hb);(try clear dc);(try clear hk);(try clear hi))|(go_at_call 134;(with_reducible refine(bk.calls t186 t189 _ A9.out).mono ?_);rintro e w' ⟨rfl,⟨nd,rfl⟩⟩;(try first|exact⟨rfl,_,World.drewN_drewN _ _ _⟩|exact⟨rfl,_,Eq.trans (World.drewN_drewN _ _ _) (congrArg (World.drewN _) (Nat.add_assoc _ _ _))⟩)));try go_wp2_with (first|(go_at_call 104;(with_reducible refine mK (aa.calls g ah bg bq a1 t183 t184 t185 w0 _ qI qB A3.out) ?_);clear aQ HB HK;intro Qg aQ HB HK;obtain⟨Ef,Eg,gA,yZ,Eh⟩:=aQ.out;have Ei:=aK gA;have Ej:=aM gA;have Ek:=aN gA;have El:=ai gA 1;have Em:=ai gA 2;clear gA yZ)|(go_at_call 104;(with_reducible refine(aa.calls g ah t184 t185 (wrap64 (a1+1)) t186 t187 t188 w0 _ ?side1 ?side2 A8.out).mono ?_);(case side1=>exact qI);(case side2=>exact qB);rintro e VS ⟨rfl,hi,hb,hk⟩;have cR:=am (aw.trans qK hk (.inl rfl));have cM:=am (hb);have cY:=am (hi);clear HK;clear HB;clear aQ;have HK:=cR;have HB:=cM;have aQ:=cY;clear cR cM cY;(try clear hb);(try clear dc);(try clear hk);(try clear hi))|(go_at_call 134;(with_reducible refine(bk.calls t186 t189 _ A9.out).mono ?_);rintro e w' ⟨rfl,⟨nd,rfl⟩⟩;(try first|exact⟨rfl,_,World.drewN_drewN _ _ _⟩|exact⟨rfl,_,Eq.trans (World.drewN_drewN _ _ _) (congrArg (World.drewN _) (Nat.add_assoc _ _ _))⟩))))
   go_ret
   exact⟨qG,qI,qB,qK⟩
 ·rw [if_neg c4] at H
  have eF:(t183==92)=false:=beq_eq_false_iff_ne.mpr c4
  have uq:(t183 !=92)=true:=bne_iff_ne.mpr c4
  simp only [Option.some.injEq,Prod.mk.injEq] at H
  obtain⟨rfl,rfl,rfl⟩:=H
  go_enter Tryz.func135,Tryz.ntmps135
  go_wp2_with (first|(go_at_call 104;(with_reducible refine mK (aa.calls g ah bg bq a1 t183 t184 t185 w0 _ qI qB A3.out) ?_);clear aQ HB HK;intro Qh aQ HB HK))
  repeat(go_quiet (first|(go_at_call 104;(with_reducible refine mK (aa.calls g ah bg bq a1 t183 t184 t185 w0 _ qI qB A3.out) ?_);clear aQ HB HK;intro Qh aQ HB HK));try go_wp2_with (first|(go_at_call 104;(with_reducible refine mK (aa.calls g ah bg bq a1 t183 t184 t185 w0 _ qI qB A3.out) ?_);clear aQ HB HK;intro Qh aQ HB HK)))
  go_ret
  exact⟨qG,qI,qB,qK⟩
def aW.f (a0:Int):Option (Bool):=if a0≥48 then (some (decide (a0≤57))) else (some false)
theorem aW.calls (a0:Int) (r:Bool) (w:World) (h:aW.f a0=some r):
  Calls Tryz.prog 137 #[.int .u8 a0] w fun e w' =>e= .returned (.bool r)∧cS w w':=by
 have H:(if a0≥48 then (some (decide (a0≤57))) else (some false))=some r:=h
 clear h
 by_cases c2:a0≥48
 ·rw [if_pos c2] at H
  have oc:decide (48≤a0)=true:=decide_eq_true c2
  clear c2
  obtain rfl:=Option.some.inj H
  go_enter Tryz.func137,Tryz.ntmps137
  go_wp2
  go_ret
  exact⟨qF,qE⟩
 ·rw [if_neg c2] at H
  have oc:decide (48≤a0)=false:=decide_eq_false c2
  clear c2
  obtain rfl:=Option.some.inj H
  go_enter Tryz.func137,Tryz.ntmps137
  go_wp2
  go_ret
  exact⟨qF,qE⟩
def ax.j0:Nat→Int→Bool→Option (Int)
 | 0,_,_=>none
 | k+1,x0,x9=>if x9=true then (some (((x0 - 97) % 256)+10)) else (if x0≥65 then (if x0≤70 then (some (((x0 - 65) % 256)+10)) else (some (-1))) else (some (-1)))
def ax.f (k:Nat) (a0:Int):Option (Int):=(aW.f a0).bind fun t190=>(if t190=true then (some ((a0 - 48) % 256)) else (if a0≥97 then (ax.j0 k a0 (decide (a0≤102))) else (ax.j0 k a0 false)))
theorem ax.calls (k:Nat) (a0:Int) (r:Int) (w:World) (h:ax.f k a0=some r):
  Calls Tryz.prog 111 #[.int .u8 a0] w fun e w' =>e= .returned (.int .i64 r)∧cS w w':=by
 have H:((aW.f a0).bind fun t190=>(if t190=true then (some ((a0 - 48) % 256)) else (if a0≥97 then (ax.j0 k a0 (decide (a0≤102))) else (ax.j0 k a0 false))))=some r:=h
 clear h
 replace H:=Option.bind_eq_some_iff.mp H
 obtain⟨t190,mf,H⟩:=H
 replace H:(if t190=true then (some ((a0 - 48) % 256)) else (if a0≥97 then (ax.j0 k a0 (decide (a0≤102))) else (ax.j0 k a0 false)))=some r:=H
 have A2:=am mf
 clear mf
 by_cases c3:t190=true
 ·subst c3
  have H1:(some ((a0 - 48) % 256))=some r:=by rw [if_pos rfl] at H;exact H
  clear H
  have H:=H1
  clear H1
  obtain rfl:=Option.some.inj H
  go_enter Tryz.func111,Tryz.ntmps111
  go_wp2_with (first|(refine gL 137 5 Tryz.func137 #[.int .u8 a0] ?_;(with_reducible refine(aW.calls a0 true _ A2.out).mono ?_);rintro e w' ⟨rfl,⟨nd,rfl⟩⟩;refine⟨_,rfl,?_⟩))
  go_ret
  exact⟨qF,qE⟩
 ·replace c3:=Bool.eq_false_iff.mpr c3
  subst c3
  have H1:(if a0≥97 then (ax.j0 k a0 (decide (a0≤102))) else (ax.j0 k a0 false))=some r:=by rw [if_neg (show ¬(false=true) by decide)] at H;exact H
  clear H
  have H:=H1
  clear H1
  have Sh:=am H
  clear H
  go_enter Tryz.func111,Tryz.ntmps111
  go_upto_region 3 with (first|(refine gL 137 5 Tryz.func137 #[.int .u8 a0] ?_;(with_reducible refine(aW.calls a0 false _ A2.out).mono ?_);rintro e w' ⟨rfl,⟨nd,rfl⟩⟩;refine⟨_,rfl,?_⟩))
  (try simp only [Act.put,List.setIfInBounds_toArray,List.set_cons_zero,List.set_cons_succ])
  go_cut [9] (fun v9 wc=>∃(kq:Nat) (MY:Bool),v9= .bool MY∧ak (ax.j0 kq a0 MY=some r)∧ak (kq≤k)∧cS w wc)
  case first=>
   have H:=Sh.out
   clear Sh
   by_cases c5:a0≥97
   ·rw [if_pos c5] at H
    have df:decide (97≤a0)=true:=decide_eq_true c5
    clear c5
    (first|rw [df]|(simp only [cB,cJ];rw [df])|skip)
    have H':=am H
    clear H
    go_wp2
    go_meet
    case rel=>exact⟨_,(decide (a0≤102)),qF,H',⟨by first|omega|exact Nat.le_refl _⟩,qE⟩
   ·rw [if_neg c5] at H
    have df:decide (97≤a0)=false:=decide_eq_false c5
    clear c5
    (first|rw [df]|(simp only [cB,cJ];rw [df])|skip)
    have H':=am H
    clear H
    go_wp2
    go_meet
    case rel=>exact⟨_,(false),qF,H',⟨by first|omega|exact Nat.le_refl _⟩,qE⟩
  case rest=>
   clear Sh
   try clear c1
   try clear p2
   try clear c3
   try clear c5
   try clear df
   obtain⟨kq,MY,rfl,HA,Cu,⟨mc3,rfl⟩⟩:=hcut
   cases kq with
   | zero=>exact absurd HA.out (by simp [ax.j0])
   | succ MZ=>
    have H:=HA.out
    clear HA
    simp only [ax.j0] at H
    by_cases c6:MY=true
    ·subst c6
     have H1:(some (((a0 - 97) % 256)+10))=some r:=by rw [if_pos rfl] at H;exact H
     clear H
     have H:=H1
     clear H1
     obtain rfl:=Option.some.inj H
     go_wp2
     go_ret
     exact⟨qF,qE⟩
    ·replace c6:=Bool.eq_false_iff.mpr c6
     subst c6
     have H1:(if a0≥65 then (if a0≤70 then (some (((a0 - 65) % 256)+10)) else (some (-1))) else (some (-1)))=some r:=by rw [if_neg (show ¬(false=true) by decide)] at H;exact H
     clear H
     have H:=H1
     clear H1
     by_cases c7:a0≥65
     ·rw [if_pos c7] at H
      have mF:decide (65≤a0)=true:=decide_eq_true c7
      clear c7
      by_cases c8:a0≤70
      ·rw [if_pos c8] at H
       have Cv:decide (a0≤70)=true:=decide_eq_true c8
       clear c8
       obtain rfl:=Option.some.inj H
       go_wp2
       go_ret
       exact⟨qF,qE⟩
      ·rw [if_neg c8] at H
       have Cv:decide (a0≤70)=false:=decide_eq_false c8
       clear c8
       obtain rfl:=Option.some.inj H
       go_wp2
       go_ret
       exact⟨qF,qE⟩
     ·rw [if_neg c7] at H
      have mF:decide (65≤a0)=false:=decide_eq_false c7
      clear c7
      obtain rfl:=Option.some.inj H
      go_wp2
      go_ret
      exact⟨qF,qE⟩
end Go.Proofs.YtlglijnaeaonpaaGreatDoor.bG
end
