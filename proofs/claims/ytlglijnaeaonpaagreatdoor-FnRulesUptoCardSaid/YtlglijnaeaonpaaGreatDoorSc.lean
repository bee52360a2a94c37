/- FnRules: a part of the proof (Sc). -/
import Derived.Test.YtlglijnaeaonpaaGreatDoorRows
import Derived.Test.YtlglijnaeaonpaaGreatDoorRu
import Derived.Test.YtlglijnaeaonpaaGreatDoorRy
import Derived.Deep.Slices
import Derived.Test.YtlglijnaeaonpaaGreatDoorSb
import Derived.Test.YtlglijnaeaonpaaGreatDoorRz
import Derived.Test.YtlglijnaeaonpaaGreatDoorRx
import Derived.StillTailTactics
section
set_option maxHeartbeats 8000000
set_option maxRecDepth 100000
set_option linter.unusedVariables false
set_option linter.unusedSimpArgs false
namespace Go.Proofs.YtlglijnaeaonpaaGreatDoor.Lx
open Go.RowKit Go.ChangeShapes Go.WideShapes Go.ChangeAt Go.Deep Go.Proofs.YtlglijnaeaonpaaGreatDoorW.aC Go.Proofs.YtlglijnaeaonpaaGreatDoor.bG Go.Proofs.YtlglijnaeaonpaaGreatDoor.Rows
section
variable {H:Type}
theorem VN (d:DataW H):1≤uptoBulk d:=by
 cases d with
 | lit l=>cases l<;>simp [uptoBulk]
 | nil=>simp [uptoBulk]
 | ptr d=>simp [uptoBulk]
 | slice elems spare=>simp [uptoBulk]
 | agg parts=>simp [uptoBulk]
 | iface t d=>simp [uptoBulk]
 | map entries=>simp [uptoBulk]
 | held h=>simp [uptoBulk]
theorem yA {d:DataW H} {l:List (DataW H)} (h:d∈l):uptoBulk d≤uptoBulkAll l:=by
 induction l with
 | nil=>cases h
 | cons x r ih=>
  simp only [uptoBulkAll]
  cases List.mem_cons.1 h with
  | inl e=>subst e;omega
  | inr e=>have:=ih e;omega
theorem VO (l:List (DataW H)):l.length≤uptoBulkAll l:=by
 induction l with
 | nil=>simp [uptoBulkAll]
 | cons x r ih=>have:=VN x;simp only [uptoBulkAll,List.length_cons];omega
theorem nA {es sp:List (DataW H)}:es.length≤uptoBulk (.slice es sp)∧∀d∈es,uptoBulk d≤uptoBulk (.slice es sp):=by
 refine⟨?_,fun d hd=> ?_⟩
 ·have:=VO es
  simp only [uptoBulk]
  omega
 ·have:=yA hd
  simp only [uptoBulk]
  omega
theorem qP {ps:List (DataW H)}:∀d∈ps,uptoBulk d≤uptoBulk (.agg ps):=fun d hd=>by
 have:=yA hd
 simp only [uptoBulk]
 omega
end
variable {H:Type} {enc:TypeId×Value→H} {W:World}
theorem ug {n:Nat} {v:Value} {y:DataW H×List MemPlace} (h:DataW.trod enc Tryz.prog W 0 (fun _=>true) true n 24 [v]=some y):∃xs,ByK W v xs∧xs.length≤uptoBulk y.1:=by
 rcases open_ints Tryz.underlying24 Tryz.underlying5 (by kernel_rfl) h with ⟨jX,_⟩|⟨a,len,cap,zs,jX,_,hle,lS,hz,hx,bR,hwf⟩
 ·injection jX with hv _
  subst hv
  exact⟨[],⟨⟨none,0,rfl,Nat.le_refl _,yg _ _⟩,fun j=>by simp⟩,Nat.zero_le _⟩
 ·injection jX with hv _
  subst hv
  simp only [if_true] at hz
  have ng:(zs.take len).length=len:=by rw [List.length_take];omega
  have hby:∀z∈zs,0≤z∧z≤255:=fun z hz' =>by
   have:=hwf z hz'
   simp [Lit.wf,IntKind.min,IntKind.max,IntKind.bits,IntKind.signed] at this
   omega
  refine⟨zs.take len,⟨⟨some a,cap,by rw [ng],by rw [ng];exact hle,?_⟩,fun j=> ?_⟩,?_⟩
  ·rw [ng]
   refine Pm _ ng (by omega) fun j p hj=> ?_
   have pJ:j<len:=by
    have:=(List.getElem?_eq_some_iff.1 hj).1
    omega
   rw [List.getElem?_take,if_pos pJ] at hj
   refine⟨[.int .u8 p],rfl,rfl,fun i u hu=> ?_⟩
   have Oi:=(List.getElem?_eq_some_iff.1 hj).1
   have hc:=bR j Oi
   rw [List.getD_eq_getElem?_getD,hj] at hc
   match i,hu with
   | 0,hu=>
    injection hu with hu
    subst hu
    show W.cell? (a.add (j*1+0))=_
    rw [Nat.mul_one,Nat.add_zero]
    exact hc
  ·rw [List.getD_eq_getElem?_getD]
   cases hj:(zs.take len)[j]? with
   | none=>simp
   | some z=>
    have:=List.mem_of_mem_take (List.mem_of_getElem? hj)
    exact hby z this
  ·subst hx
   have:=(nA (es:=lits (H:=H) .u8 (zs.take len)) (sp:=lits .u8 (zs.drop len))).1
   simp only [lits,List.length_map] at this
   exact this
theorem BV {n:Nat} {v:Value} {y:DataW H×List MemPlace} (h:DataW.trod enc Tryz.prog W 0 (fun _=>true) true n 36 [v]=some y):∃ws,WdK W v ws∧ws.length≤uptoBulk y.1∧∀x∈ws,x.length≤uptoBulk y.1:=by
 rcases open_slice1 Tryz.underlying36 (by kernel_rfl) h with ⟨jX,_⟩|⟨a,len,cap,m,k,V,D,Pl,jX,_,hle,lS,hm,hx,bR⟩
 ·injection jX with hv _
  subst hv
  exact⟨[],⟨⟨none,0,rfl,Nat.le_refl _,yg _ _⟩,fun x hx=>by cases hx⟩,Nat.zero_le _,fun x hx=>by cases hx⟩
 ·injection jX with hv _
  subst hv
  simp only [if_true] at hm
  obtain⟨f,hf⟩:=choose_lt (n:=len) (fun i hi=>ug (bR i (by omega)).2)
  have ng:((List.range len).map f).length=len:=by simp
  have RT:=nA (es:=(List.range len).map D) (sp:=(List.range (m - len)).map fun j=>D (len+j))
  subst hx
  refine⟨(List.range len).map f,⟨⟨some a,cap,by rw [ng],by rw [ng];exact hle,?_⟩,fun x hx=> ?_⟩,?_,fun x hx=> ?_⟩
  ·rw [ng]
   refine Pm _ ng (by omega) fun j p hj=> ?_
   have pJ:j<len:=by
    have:=(List.getElem?_eq_some_iff.1 hj).1
    omega
   have hp:p=f j:=by
    rw [List.getElem?_map,List.getElem?_range pJ] at hj
    injection hj with hj
    exact hj.symm
   subst hp
   obtain⟨A,c,e,hl,hC⟩:=(hf j pJ).1.rd
   refine⟨[V j],rfl,⟨A,c,by rw [e],hl,hC⟩,fun i u hu=> ?_⟩
   match i,hu with
   | 0,hu=>
    injection hu with hu
    subst hu
    show W.cell? (a.add (j*1+0))=_
    rw [Nat.mul_one,Nat.add_zero]
    exact(bR j (by omega)).1
  ·obtain⟨i,hi,rfl⟩:=List.mem_map.1 hx
   exact(hf i (List.mem_range.1 hi)).1.oj
  ·have:=RT.1
   simp at this
   simpa using this
  ·obtain⟨i,hi,rfl⟩:=List.mem_map.1 hx
   have h1:=(hf i (List.mem_range.1 hi)).2
   have h2:=RT.2 (D i) (List.mem_map.2 ⟨i,hi,rfl⟩)
   exact Nat.le_trans h1 h2
theorem Mm {n:Nat} {v:Value} {y:DataW H×List MemPlace} (h:DataW.trod enc Tryz.prog W 0 (fun _=>true) true n 31 [v]=some y):
  ∃ds,DcK W v ds∧ds.length≤uptoBulk y.1∧∀d∈ds,d.f0.length≤uptoBulk y.1∧d.f1.length≤uptoBulk y.1∧∀x∈d.f1,x.length≤uptoBulk y.1:=by
 rcases open_slice_pairs Tryz.underlying31 Tryz.underlying68 (by kernel_rfl) rfl rfl (by kernel_rfl) (by kernel_rfl) h with ⟨jX,_⟩|⟨a,len,cap,m,k,V0,V1,D0,D1,P0,P1,jX,_,hle,lS,hm,hx,bR⟩
 ·injection jX with hv _
  subst hv
  exact⟨[],⟨⟨none,0,rfl,Nat.le_refl _,yg _ _⟩,fun x hx=>by cases hx⟩,Nat.zero_le _,fun x hx=>by cases hx⟩
 ·injection jX with hv _
  subst hv
  simp only [if_true] at hm
  obtain⟨f,hf⟩:=choose_lt (n:=len) (fun i hi=>ug (bR i (by omega)).2.2.1)
  obtain⟨g,hg⟩:=choose_lt (n:=len) (fun i hi=>BV (bR i (by omega)).2.2.2)
  have ng:((List.range len).map fun i=>(⟨f i,g i⟩:gx)).length=len:=by simp
  have RT:=nA (es:=(List.range len).map fun i=>DataW.agg [D0 i,D1 i]) (sp:=(List.range (m - len)).map fun j=> .agg [D0 (len+j),D1 (len+j)])
  subst hx
  refine⟨(List.range len).map fun i=>(⟨f i,g i⟩:gx),⟨⟨some a,cap,by rw [ng],by rw [ng];exact hle,?_⟩,fun x hx=> ?_⟩,?_,fun x hx=> ?_⟩
  ·rw [ng]
   refine Pm _ ng (by omega) fun j p hj=> ?_
   have pJ:j<len:=by
    have:=(List.getElem?_eq_some_iff.1 hj).1
    omega
   have hp:p=⟨f j,g j⟩:=by
    rw [List.getElem?_map,List.getElem?_range pJ] at hj
    injection hj with hj
    exact hj.symm
   subst hp
   obtain⟨A0,c0,e0,l0,g0⟩:=(hf j pJ).1.rd
   obtain⟨A1,c1,e1,l1,g1⟩:=(hg j pJ).1.rd
   refine⟨[V0 j,V1 j],rfl,?_,fun i u hu=> ?_⟩
   ·rw [e0,e1]
    exact R5 W ⟨f j,g j⟩ l0 g0 l1 g1
   ·match i,hu with
    | 0,hu=>
     injection hu with hu
     subst hu
     show W.cell? (a.add (j*2+0))=_
     rw [Nat.add_zero]
     exact(bR j (by omega)).1
    | 1,hu=>
     injection hu with hu
     subst hu
     exact(bR j (by omega)).2.1
  ·obtain⟨i,hi,rfl⟩:=List.mem_map.1 hx
   exact⟨(hf i (List.mem_range.1 hi)).1.oj,(hg i (List.mem_range.1 hi)).1.oj⟩
  ·have:=RT.1
   simp at this
   simpa using this
  ·obtain⟨i,hi,rfl⟩:=List.mem_map.1 hx
   have h1:=(hf i (List.mem_range.1 hi)).2
   obtain⟨h2,h3⟩:=(hg i (List.mem_range.1 hi)).2
   have h4:=RT.2 (.agg [D0 i,D1 i]) (List.mem_map.2 ⟨i,hi,rfl⟩)
   have h5:=qP (ps:=[D0 i,D1 i]) (D0 i) (.head _)
   have h6:=qP (ps:=[D0 i,D1 i]) (D1 i) (.tail _ (.head _))
   exact⟨Nat.le_trans h1 (Nat.le_trans h5 h4),Nat.le_trans h2 (Nat.le_trans h6 h4),fun x hx=>Nat.le_trans (h3 x hx) (Nat.le_trans h6 h4)⟩
instance:Inhabited PT:=⟨.mk ⟨#[]⟩ [] [] [] []⟩
def zPT:PT:=.mk ⟨#[]⟩ [] [] [] []
theorem P8:∀(d:Nat) {n:Nat} {v:Value} {y:DataW H×List MemPlace},DataW.trod enc Tryz.prog W 0 (fun _=>true) true n 22 [v]=some y→uptoBulk y.1≤1048576→∃A c ps,v= .slice A ps.length c∧PL d W A c ps:=by
 have SF:Tryz.prog.cellsOf 38=5:=by kernel_rfl
 have c9:Tryz.prog.cellsOf 9=1:=by kernel_rfl
 have mJ:Tryz.prog.cellsOf 24=1:=by kernel_rfl
 have V5:Tryz.prog.cellsOf 36=1:=by kernel_rfl
 have uh:Tryz.prog.cellsOf 31=1:=by kernel_rfl
 have Mw:Tryz.prog.cellsOf 22=1:=by kernel_rfl
 intro d
 induction d with
 | zero=>
  intro n v y h hb
  rcases open_slice Tryz.underlying22 h with ⟨jX,_⟩|⟨a,len,cap,m,k,D,Pl,jX,_,hle,lS,hm,hx,bR⟩
  ·injection jX with hv _
   exact⟨none,0,[],hv,⟨Nat.le_refl _,Nat.zero_le _,trivial⟩⟩
  ·injection jX with hv _
   subst hx
   have:=(nA (es:=(List.range len).map D) (sp:=(List.range (m - len)).map fun j=>D (len+j))).1
   simp at this
   exact⟨some a,cap,List.replicate len zPT,by rw [List.length_replicate];exact hv,⟨by rw [List.length_replicate];exact hle,by rw [List.length_replicate];exact Nat.le_trans this (Nat.le_trans hb (by decide)),trivial⟩⟩
 | succ d ih=>
  intro n v y h hb
  rcases open_slice Tryz.underlying22 h with ⟨jX,_⟩|⟨a,len,cap,m,k,D,Pl,jX,_,hle,lS,hm,hx,bR⟩
  ·injection jX with hv _
   exact⟨none,0,[],hv,⟨Nat.le_refl _,Nat.zero_le _,fun j p hp=>by simp at hp⟩⟩
  ·injection jX with hv _
   simp only [if_true] at hm
   subst hx
   have RT:=nA (es:=(List.range len).map D) (sp:=(List.range (m - len)).map fun j=>D (len+j))
   have hlen:len≤1048576:=by
    have:=RT.1
    simp only [List.length_map,List.length_range] at this
    exact Nat.le_trans this hb
   have each:∀i,i<len→∃p:PT,∃A1 c1 A2 c2 A3 c3 A4 c4,W.cell? (a.add (i*5))=some (.string p.kind)∧
     W.cell? (a.add (i*5+1))=some (.slice A1 p.name.length c1)∧W.cell? (a.add (i*5+2))=some (.slice A2 p.words.length c2)∧
     W.cell? (a.add (i*5+3))=some (.slice A3 p.decls.length c3)∧W.cell? (a.add (i*5+4))=some (.slice A4 p.parts.length c4)∧
     VB W A1 c1 p.name∧VL W A2 c2 p.words∧DL W A3 c3 p.decls∧p.parts.length≤c4∧p.parts.length≤2147483647∧Wu d W A4 p.parts:=by
    intro i hi
    obtain⟨Is,h1,h2⟩:=bR i (by omega)
    have gq:=RT.2 (D i) (List.mem_map.2 ⟨i,List.mem_range.2 hi,rfl⟩)
    rw [SF] at h1
    obtain⟨_,abu,Fo⟩:=World.cells?_some h1
    obtain⟨xs,k2,hk,hxy,_,o9,hf⟩:=DataW.trod_struct Tryz.underlying38 h2
    match xs,o9,Is,abu with
    | [y0,y1,y2,y3,y4],_,[v0,v1,v2,v3,v4],_=>
     simp only [Prod.mk.injEq] at hxy
     have hD:D i= .agg [y0.1,y1.1,y2.1,y3.1,y4.1]:=by simpa using hxy.1
     have g0:=hf 0 _ rfl
     have g1:=hf 1 _ rfl
     have g2:=hf 2 _ rfl
     have g3:=hf 3 _ rfl
     have g4:=hf 4 _ rfl
     simp only [c9,mJ,V5,uh,Mw,List.drop_zero,List.drop_succ_cons,List.take_succ_cons,List.take_zero,List.getElem?_cons_zero,List.getElem?_cons_succ] at g0 g1 g2 g3 g4
     have e0:=Fo 0 (by omega)
     have e1:=Fo 1 (by omega)
     have e2:=Fo 2 (by omega)
     have e3:=Fo 3 (by omega)
     have e4:=Fo 4 (by omega)
     rw [Go.Deep.add_add] at e0 e1 e2 e3 e4
     simp only [List.getElem?_cons_zero,List.getElem?_cons_succ,Nat.add_zero] at e0 e1 e2 e3 e4
     rw [hD] at gq
     have b1:=qP (ps:=[y0.1,y1.1,y2.1,y3.1,y4.1]) y1.1 (.tail _ (.head _))
     have b2:=qP (ps:=[y0.1,y1.1,y2.1,y3.1,y4.1]) y2.1 (.tail _ (.tail _ (.head _)))
     have b3:=qP (ps:=[y0.1,y1.1,y2.1,y3.1,y4.1]) y3.1 (.tail _ (.tail _ (.tail _ (.head _))))
     have b4:=qP (ps:=[y0.1,y1.1,y2.1,y3.1,y4.1]) y4.1 (.tail _ (.tail _ (.tail _ (.tail _ (.head _)))))
     have hDb:uptoBulk (.agg [y0.1,y1.1,y2.1,y3.1,y4.1])≤1048576:=Nat.le_trans gq hb
     obtain⟨s,hs,_⟩:=DataW.trod_string Tryz.underlying9 g0
     injection hs with hs _
     subst hs
     obtain⟨nm,⟨⟨A1,c1,ev1,l1,r1⟩,by1⟩,n1⟩:=ug g1
     obtain⟨ws,⟨⟨A2,c2,ev2,l2,r2⟩,by2⟩,n2,n2'⟩:=BV g2
     obtain⟨ds,⟨⟨A3,c3,ev3,l3,r3⟩,by3⟩,n3,n3'⟩:=Mm g3
     obtain⟨A4,c4,ps,ev4,k4⟩:=ih g4 (by omega)
     subst ev1;subst ev2;subst ev3;subst ev4
     have N1:nm.length≤2147483647:=by omega
     have N2:Ur ws:=by
      refine⟨by omega,fun m hm=> ?_⟩
      have:=n2' (ws.getD m []) (by rw [List.getD_eq_getElem?_getD,List.getElem?_eq_getElem hm];exact List.getElem_mem hm)
      omega
     have N3:ZZ ds:=by
      refine⟨by omega,fun m hm=> ?_⟩
      obtain⟨q1,q2,q3⟩:=n3' (ds.getD m VR) (by rw [List.getD_eq_getElem?_getD,List.getElem?_eq_getElem hm];exact List.getElem_mem hm)
      refine⟨by omega,by omega,fun k hk=> ?_⟩
      have:=q3 ((ds.getD m VR).f1.getD k []) (by rw [List.getD_eq_getElem?_getD (l:=(ds.getD m VR).f1),List.getElem?_eq_getElem hk];exact List.getElem_mem hk)
      omega
     exact⟨.mk s nm ws ds ps,A1,c1,A2,c2,A3,c3,A4,c4,e0,e1,e2,e3,e4,⟨l1,r1,by1,N1⟩,⟨l2,r2,by2,N2⟩,⟨l3,r3,by3,N3⟩,k4.cap,k4.len,k4.rd⟩
   obtain⟨f,hf⟩:=choose_lt each
   have ng:((List.range len).map f).length=len:=by simp
   refine⟨some a,cap,(List.range len).map f,by rw [ng];exact hv,⟨by rw [ng];exact hle,by rw [ng];omega,fun j p hp=> ?_⟩⟩
   have pJ:j<len:=by
    have:=(List.getElem?_eq_some_iff.1 hp).1
    omega
   have mB:p=f j:=by
    rw [List.getElem?_map,List.getElem?_range pJ] at hp
    injection hp with hp
    exact hp.symm
   subst mB
   obtain⟨A1,c1,A2,c2,A3,c3,A4,c4,e0,e1,e2,e3,e4,k1,k2,k3,k4,k5,k6⟩:=hf j pJ
   refine⟨a,A1,c1,A2,c2,A3,c3,A4,c4,rfl,e0,?_,?_,?_,?_,k1,k2,k3,k4,k5,k6⟩
   ·rw [←cf _ _ 1 (by omega)];exact e1
   ·rw [←cf _ _ 2 (by omega)];exact e2
   ·rw [←cf _ _ 3 (by omega)];exact e3
   ·rw [←cf _ _ 4 (by omega)];exact e4
end Go.Proofs.YtlglijnaeaonpaaGreatDoor.Lx
end
section
set_option maxHeartbeats 8000000
set_option maxRecDepth 100000
set_option linter.unusedVariables false
set_option linter.unusedSimpArgs false
namespace Go.Proofs.YtlglijnaeaonpaaGreatDoor.Lx
open Go.RowKit Go.Proofs.YtlglijnaeaonpaaGreatDoorW.aC Go.Proofs.YtlglijnaeaonpaaGreatDoor.bG
theorem P9 {k:ByteArray} (h:Vh k):Bz k:=by
 rcases h with rfl|rfl|rfl|rfl|rfl|rfl
 ·exact PC
 ·exact LR
 ·exact LS
 ·exact LU
 ·exact LV
 ·exact LW
theorem rX.slice3 {B:Nat} {w:World} {v:Value} {ps:List Pc} (h:rX B w v ps):∃A n c,v= .slice A n c:=by
 obtain⟨A,c,e⟩:=h.DS
 exact⟨A,_,c,e⟩
structure Lw (w:World) (A:Option Addr) (c:Nat) (ps:List PT) (st:Int):Prop where
 a:∀W,Below w.heap.size w W→Calls Tryz.prog 5 #[.slice A ps.length c,.int .i64 3] W fun e w' =>(e= .returned (.bool false)∧Below W.heap.size W w')∨(e= .returned (.bool true)∧Below W.heap.size W w' ∧ak (mx 3 ps))
 t:∀W,Below w.heap.size w W→mx 3 ps→Calls Tryz.prog 6 #[.slice A ps.length c,.int .i64 st] W fun e w1=>∃A1 n1 c1,e= .returned (.slice A1 n1 c1)∧Below W.heap.size W w1∧n1=(iT st 3 ps).length∧
  (n1≤20000→Calls Tryz.prog 7 #[.slice A1 n1 c1,.bool false] w1 fun e w2=>∃v qs,e= .returned (.tuple #[v,.bool true])∧wa qs (jH 3 ps)∧rX w1.heap.size w2 v qs∧Below w1.heap.size w1 w2)
 d:∀W,Below w.heap.size w W→mx 3 ps→(iT st 3 ps).length≤20000→Calls Tryz.prog 9 #[.slice A ps.length c] W (RM w W (jH 3 ps))
 s:∀(B B2:Nat) (W:World) (va vb:Value) (qs:List Pc),wa qs (jH 3 ps)→rX B W va qs→ir B2 w W vb (jH 3 ps)→Below w.heap.size w W→mx 3 ps→(iT st 3 ps).length≤20000→Calls Tryz.prog 8 #[va,vb] W fun e w' =>e= .returned (.bool true)∧Below W.heap.size W w'
theorem abv {w:World} {A:Option Addr} {c eT:Nat} {eA:Addr} {ps:List PT} {st:Int} (h:PL 4 w A c ps) (mb:0≤st) (Ip:st≤2) (hT:fU w) (hH:ld w) (mv:1<w.heap.size) (qO:w.cell? ⟨0,0,none⟩=some (.iface eT (.pointer (some eA))))
  (heq:∀W:World,(binOp .eql 61 (.iface eT (.pointer (some eA))) (.iface eT (.pointer (some eA)))).run Tryz.prog W= .ok (.bool true) W):Lw w A c ps st:=by
 refine⟨fun W hb=> ?_,fun W hb hv=> ?_,fun W hb hv hl=> ?_,fun B B2 W va vb qs Ot ha gu Ue hv hl=> ?_⟩
 ·refine(yz 3 (by decide) (h.below hb) (hT.below hb)).mono ?_
  rintro e w' ⟨r,he,CX,hv⟩
  cases r with
  | false=>exact .inl ⟨he,CX⟩
  | true=>exact .inr ⟨he,CX,⟨hv rfl⟩⟩
 ·refine(u6 mb Ip 3 (by rw [LB3];decide) (h.below hb) hv).mono ?_
  rintro e w1 ⟨v,rfl,bl,eW⟩
  obtain⟨A1,c1,rfl,oT⟩:=qj bl
  have dc:=hb.trans (eW.mono hb.size)
  refine⟨A1,_,c1,rfl,eW,rfl,fun hn=> ?_⟩
  have MU:=tV (st:=st) hv.2
  refine(DY oT (by omega) (by have:=dc.size;omega) (al dc qO) (Pj (L1 hv.2)) (aaW (by decide) hv.2) (hH.below dc) (by have:=dc.size;omega) (by omega) heq).mono ?_
  rintro e w2 ⟨v,qs,rfl,hq,hp,kX⟩
  exact⟨v,qs,rfl,hq,hp,kX⟩
 ·have MU:=tV (st:=st) hv.2
  exact rF 3 hb h hT hv (by omega)
 ·have MU:=tV (st:=st) hv.2
  exact BU Ot.1 ha gu Ue (fun i a b h1 h2=>⟨Ot.2 i a b h1 h2,P9 (L4 hv.2 b (List.mem_of_getElem? h2))⟩) (by omega)
theorem Qa {w:World} {A:Option Addr} {c eT:Nat} {eA:Addr} {ps:List PT} {st:Int} (h:PL 4 w A c ps) (hT:fU w) (hH:ld w) (mv:1<w.heap.size) (qO:w.cell? ⟨0,0,none⟩=some (.iface eT (.pointer (some eA))))
  (heq:∀W:World,(binOp .eql 61 (.iface eT (.pointer (some eA))) (.iface eT (.pointer (some eA)))).run Tryz.prog W= .ok (.bool true) W):
  Calls Tryz.prog 3 #[.slice A ps.length c,.int .i64 st] w fun e w' =>e= .returned (.bool true)∧Below w.heap.size w w':=by
 have hl:=h.len
 have hlz:decide ((ps.length:Int)>2147483647)=false:=decide_eq_false (by omega)
 by_cases mb:st<0
 ·have Wm:decide (st<0)=true:=decide_eq_true mb
  clear h hT hH qO heq mv
  go_enter Tryz.func3,Tryz.ntmps3
  go_wp2_with (fail)
  go_ret
  exact⟨rfl,Below.refl _ _⟩
 ·by_cases Ip:st>2
  ·have Wm:decide (st<0)=false:=decide_eq_false mb
   have hd1:decide (st>2)=true:=decide_eq_true Ip
   clear h hT hH qO heq mv
   go_enter Tryz.func3,Tryz.ntmps3
   go_wp2_with (fail)
   go_ret
   exact⟨rfl,Below.refl _ _⟩
  ·have Wm:decide (st<0)=false:=decide_eq_false mb
   have hd1:decide (st>2)=false:=decide_eq_false Ip
   have HL:=am (abv (st:=st) h (by omega) (by omega) hT hH mv qO heq)
   have HB0:=am (Below.refl w.heap.size w)
   clear h hT hH qO heq mv mb Ip
   go_enter Tryz.func3,Tryz.ntmps3
   go_wp2_with (first
    | (go_at_call 5;(with_reducible refine(HL.out.a _ HB0.out).mono ?_);rintro e w2 (⟨rfl,dc⟩|⟨rfl,dc,HV⟩)<;>have kY:=am dc<;>clear dc)
    | (go_at_call 6;(with_reducible refine(HL.out.t _ kY.out HV.out).mono ?_);rintro e w3 ⟨A1,n1,c1,rfl,kX,BY,hr⟩;have HB3:=am (kY.out.trans (kX.mono kY.out.size));have HR:=am hr;have HN:=am BY;clear kX hr BY;rcases Nat.lt_or_ge 20000 n1 with hnn|hnn)
    | (go_at_call 7;(with_reducible refine(HR.out hnn).mono ?_);rintro e w4 ⟨v4,qs,rfl,hq4,hp4,F4⟩;obtain⟨A4,n4,c4,rfl⟩:=hp4.slice3;have RN:=am (HB3.out.trans (F4.mono HB3.out.size));have kp:=am (And.intro hq4 hp4);clear F4 hp4 hq4)
    | (go_at_call 9;(with_reducible refine(HL.out.d _ RN.out HV.out (HN.out▸hnn)).mono ?_);rintro e w5 ⟨v5,rfl,Vk,jT⟩;obtain⟨A5,n5,c5,rfl⟩:=Vk.slice3;have oC:=am (And.intro (RN.out.trans (jT.mono RN.out.size)) jT);have nn:=am Vk;clear jT Vk)
    | (go_at_call 8;(with_reducible refine(HL.out.s _ _ _ _ _ _ kp.out.1 (kp.out.2.below oC.out.2) nn.out oC.out.1 HV.out (HN.out▸hnn)).mono ?_);rintro e w6 ⟨rfl,gw⟩;have qg:=am (oC.out.1.trans (gw.mono oC.out.1.size));clear gw))
   ·go_ret
    exact⟨rfl,kY.out⟩
   ·go_ret
    exact⟨rfl,HB3.out⟩
   ·go_ret
    exact⟨rfl,qg.out⟩
end Go.Proofs.YtlglijnaeaonpaaGreatDoor.Lx
end
