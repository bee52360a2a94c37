/- FnRules: a part of the proof (Rz). -/
import Derived.Test.YtlglijnaeaonpaaGreatDoorRu
import Derived.Orders
import Derived.RegionTactic
import Derived.Test.YtlglijnaeaonpaaGreatDoorRy
section
set_option maxHeartbeats 8000000
set_option maxRecDepth 100000
set_option linter.unusedVariables false
set_option linter.unusedSimpArgs false
namespace Go.Proofs.YtlglijnaeaonpaaGreatDoor.Lx
open Go.RowKit Go.Proofs.YtlglijnaeaonpaaGreatDoorW.aC
theorem L9 {D D' :Nat→Bool} (h:∀j,D j=true→D' j=true):∀l:List Nat,(l.filter (fun j=> !D' j)).length≤(l.filter (fun j=> !D j)).length
 | []=>Nat.le_refl _
 | x::l=>by
  have ih:=L9 h l
  simp only [List.filter_cons]
  cases h1:D x with
  | true=>simp [h x h1];exact ih
  | false=>
   cases h2:D' x with
   | true=>simp;omega
   | false=>simp;exact ih
theorem Ma {D D' :Nat→Bool} (h:∀j,D j=true→D' j=true) {i:Nat} (h0:D i=false) (h1:D' i=true):∀l:List Nat,i∈l→(l.filter (fun j=> !D' j)).length<(l.filter (fun j=> !D j)).length
 | [],hi=>by cases hi
 | x::l,hi=>by
  have hle:=L9 h l
  simp only [List.filter_cons]
  rcases List.mem_cons.1 hi with rfl|hi
  ·simp [h0,h1];omega
  ·have ih:=Ma h h0 h1 l hi
   cases h2:D x with
   | true=>simp [h x h2];exact ih
   | false=>
    cases h3:D' x with
    | true=>simp;omega
    | false=>simp;exact ih
theorem ix {P:Program} {ops:Array Oper} {Q:Exit→Act→World→Prop} {id:Nat} {a:Act} {w:World} (hm:P.follows .mixedOrders=true)
  (hac:((List.range ops.size).all fun i=>((ops[i]?).map fun o=>o.after.all fun e=>decide (e.on<i)).getD true)=true)
  (I:(Nat→Bool)→Act→World→Prop) (h0:I (fun _=>false) a w.drew)
  (hs:∀(D:Nat→Bool) (a:Act) (w:World),I D a w→∀(i:Nat) (o:Oper),ops[i]? =some o→D i=false→(∀e∈o.after,Region.binds .any e=true→D e.on=true)→wpOp P ops Q i (fun a' w' =>I (fun j=>if j=i then true else D j) a' w') a w)
  (hd:∀(D:Nat→Bool) (a:Act) (w:World),I D a w→(∀i,i<ops.size→D i=true)→Q .normal a w):
  (Code.region id ops true).wp P Q a w:=by
 have Vo:∀(listed:Array Bool) (D:Nat→Bool),listed.size=ops.size→(∀i,i<ops.size→listed.getD i true=D i)→Region.ready .any ops listed= []→∀i,i<ops.size→D i=true:=by
  intro listed D yB he hr i
  induction i using Nat.strongRecOn with
  | _ i ih=>
   intro hi
   cases hD:D i with
   | true=>rfl
   | false=>
    exfalso
    have PS:i∈Region.ready .any ops listed:=by
     refine mem_ready.2 ⟨by rw [he i hi,hD],ops[i],Array.getElem?_eq_getElem hi,fun e hee hb=> ?_⟩
     have eh:e.on<i:=by
      have h1:=(List.all_eq_true.1 hac) i (List.mem_range.2 hi)
      rw [Array.getElem?_eq_getElem hi] at h1
      simp only [Option.map_some,Option.getD_some] at h1
      have h2:=(Array.all_eq_true_iff_forall_mem.1 h1) e hee
      simpa using h2
     have h3:=ih e.on eh (by omega)
     rw [←he e.on (by omega)] at h3
     have h4:e.on<listed.size:=by omega
     simpa [h4] using h3
    rw [hr] at PS
    cases PS
 have key:∀(fuel:Nat) (listed:Array Bool) (a:Act) (w:World) (D:Nat→Bool),listed.size=ops.size→(∀i,i<ops.size→listed.getD i true=D i)→((List.range ops.size).filter (fun j=> !D j)).length≤fuel→I D a w→wpAny P .any ops Q fuel listed a w:=by
  intro fuel
  induction fuel with
  | zero=>
   intro listed a w D yB he hc hI
   have fi:∀i,i<ops.size→D i=true:=by
    intro i hi
    cases hD:D i with
    | true=>rfl
    | false=>
     exfalso
     have PS:i∈(List.range ops.size).filter (fun j=> !D j):=List.mem_filter.2 ⟨List.mem_range.2 hi,by simp [hD]⟩
     have:=List.length_pos_of_mem PS
     omega
   refine⟨?_,hd D a w hI fi⟩
   apply List.eq_nil_iff_forall_not_mem.2
   intro i hi
   obtain⟨h1,o,ho,h2⟩:=mem_ready.1 hi
   have uk:i<ops.size:=(Array.getElem?_eq_some_iff.1 ho).1
   rw [he i uk,fi i uk] at h1
   cases h1
  | succ fuel ih=>
   intro listed a w D yB he hc hI
   refine⟨fun hr=>hd D a w hI (Vo listed D yB he hr),fun i hi=> ?_⟩
   obtain⟨h1,o,ho,h2⟩:=mem_ready.1 hi
   have uk:i<ops.size:=(Array.getElem?_eq_some_iff.1 ho).1
   have gq:D i=false:=by rw [←he i uk];exact h1
   refine wpOp_mono ?_ (hs D a w hI i o ho gq (fun e hee hb=> ?_))
   ·intro a' w' hI'
    refine ih _ a' w' _ (by simpa using yB) (fun j hj=> ?_) ?_ hI'
    ·by_cases Hh:j=i
     ·subst Hh
      have:j<listed.size:=by omega
      simp [this]
     ·rw [getD_set_ne true (Ne.symm Hh),he j hj,if_neg Hh]
    ·have:=Ma (D:=D) (D':=fun j=>if j=i then true else D j) (fun j h=>by by_cases hj:j=i<;>simp [hj,h]) gq (by simp) (List.range ops.size) (List.mem_range.2 uk)
     omega
   ·have h3:=h2 e hee hb
    have eh:e.on<listed.size:=by
     rcases Nat.lt_or_ge e.on listed.size with h|h
     ·exact h
     ·simp [Array.getElem?_eq_none h] at h3
    rw [←he e.on (by omega)]
    simpa [eh] using h3
 refine wp_region_any hm ?_
 refine key ops.size _ a _ (fun _=>false) (by simp) (fun i hi=>by simp [hi]) ?_ h0
 have:=List.length_filter_le (fun j=> !(fun _:Nat=>false) j) (List.range ops.size)
 simpa using this
section
variable {P:Program} {ops:Array Oper} {Q:Exit→Act→World→Prop} {I:Act→World→Prop} {o:Oper} {i d:Nat} {l:List Value} {W:World}
theorem lj (l:List Value) (d:Nat) (v:Value):Act.put ⟨l.toArray,[]⟩ (some d) v=⟨(l.set d v).toArray,[]⟩:=by
 simp [Act.put]
theorem qa {s:Nat} {v:Value} (h:l.getD s default=v) (hs:s<l.length):(⟨l.toArray,[]⟩:Act).eval (.tmp s)=v:=by
 subst h
 simp [Act.eval,hs,List.getD_eq_getElem?_getD]
theorem gT {s:Nat} {v:Value} (h:s<l.length):(l.set s v).getD s default=v:=by
 simp [List.getD_eq_getElem?_getD,h]
theorem bQ {s t:Nat} {v:Value} (h:s≠t):(l.set s v).getD t default=l.getD t default:=by
 simp [List.getD_eq_getElem?_getD,List.getElem?_set_ne h]
theorem cy {W' :World} {v:Value} (ho:ops[i]? =some o) (hg:o.guard=none) (hd:o.dst=some d) (hr:(execOp (⟨l.toArray,[]⟩:Act).eval o).run P W= .ok (.value v) W') (h:I ⟨(l.set d v).toArray,[]⟩ W'):wpOp P ops Q i I ⟨l.toArray,[]⟩ W:=by
 refine wpOp_step ho fun K' hK=> ?_
 rw [if_pos (by simp [Region.wanted,hg])]
 unfold Oper.wp
 rw [hr]
 show K' (Act.put _ o.dst v) W'
 rw [hd,lj]
 exact hK _ _ h
theorem iq {W' :World} {s x:Nat} {t u:TypeId} {v y v1:Value} (ho:ops[i]? =some o) (hg:o.guard=none) (hd:o.dst=some d) (rh:o.op= .call {callee:=.builtin .append,args:=#[.tmp s,.tmp x],argTypes:=#[t,u]})
  (hs:l.getD s default=v) (hsl:s<l.length) (hx:l.getD x default=y) (o9:x<l.length) (hr:(Builtin.append_ #[t,u] o.type #[v,y]).run P W= .ok v1 W') (h:I ⟨(l.set d v1).toArray,[]⟩ W'):wpOp P ops Q i I ⟨l.toArray,[]⟩ W:=by
 refine cy ho hg hd ?_ h
 unfold execOp
 simp only [rh,resolve,invoke,builtin,Sem.run_bind,Sem.run_pure,Result.andThen_ok,List.map_toArray,List.map_cons,List.map_nil,qa hs hsl,qa hx o9,hr]
theorem jU {vs:Array Value} {f:FuncId} (ho:ops[i]? =some o) (hg:o.guard=none) (hd:o.dst=some d) (hr:(execOp (⟨l.toArray,[]⟩:Act).eval o).run P W= .ok (.enter f vs) W)
  (hc:Calls P f vs W fun e w' =>∃u,e= .returned u∧I ⟨(l.set d u).toArray,[]⟩ w'):wpOp P ops Q i I ⟨l.toArray,[]⟩ W:=by
 refine wpOp_step ho fun K' hK=> ?_
 rw [if_pos (by simp [Region.wanted,hg])]
 unfold Oper.wp
 rw [hr]
 show Calls P f vs W _
 refine hc.mono ?_
 rintro e w' ⟨u,rfl,h⟩
 show K' (Act.put _ o.dst u) w'
 rw [hd,lj]
 exact hK _ _ h
end
theorem iy {P:Program} {W:World} (base:Nat) (t ty e:TypeId) (k:IntKind) (bytes:Nat) (ht:P.underlying t=some (.slice e)) (gF:(P.info? e).map (fun i=>(i.zero,i.size,i.bytes))=some (some (.int k 0),1,bytes)) (qS:0<bytes)
  (v:Value) (xs ys:List Int) (A:Option Addr) (m c:Nat) (HO:W.ownsRow base e 1 v xs.length (bp k xs)) (HR:dU W k A m ys) (fx:base≤W.heap.size) (hl:(xs.length+m)*bytes≤140737488355328):
  ∃v1 w1,(Builtin.append_ #[t,t] ty #[v,.slice A m c]).run P W= .ok v1 w1∧w1.ownsRow base e 1 v1 (xs++ys).length (bp k (xs++ys))∧W.grownBy w1 v.ownBlock∧(v1.ownBlock=v.ownBlock∨v1.ownBlock=some W.heap.size):=by
 obtain⟨i0,hi,ku⟩:=Option.map_eq_some_iff.1 gF
 simp only [Prod.mk.injEq] at ku
 obtain⟨sa,o0,sc⟩:=ku
 have hm:ys.length=m:=HR.1
 have hlen:xs.length+m≤140737488355328:=Nat.le_trans (Nat.le_mul_of_pos_right _ qS) hl
 rcases A with _|ad
 ·have h0:m=0:=by
   rcases Nat.eq_zero_or_pos m with h0|h0
   ·exact h0
   ·obtain⟨ad,h,_⟩:=HR.2.2 h0
    cases h
  subst h0
  obtain rfl:ys= []:=List.eq_nil_of_length_eq_zero hm
  refine⟨v,W,?_,by simpa using HO,World.grownBy.refl W _,.inl rfl⟩
  rcases HO.2 with ⟨rfl,hn⟩|⟨g,cap,cur,rfl,_,_,Mr,_⟩
  ·simp [Builtin.append_,run_underlying ht,sizeOf,typeInfo,hi,Builtin.lenOf,Builtin.firstCells]
  ·simp [Builtin.append_,run_underlying ht,sizeOf,typeInfo,hi,Builtin.lenOf,Builtin.firstCells,Mr,storeCells]
 ·have Ca:∀j u,(bp k ys)[j]? =some u→W.cell? (ad.add j)=some u:=by
   intro j u hu
   have hj:j<ys.length:=by
    rcases Nat.lt_or_ge j ys.length with h|h
    ·exact h
    ·simp [bp,List.getElem?_eq_none h] at hu
   obtain⟨ad',h',hc⟩:=HR.2.2 (by omega)
   injection h' with h'
   subst h'
   have:=hc j (by omega)
   simp [bp,List.getElem?_eq_getElem hj] at hu
   subst hu
   rw [this]
   simp [List.getD_eq_getElem?_getD,List.getElem?_eq_getElem hj]
  obtain⟨v1,w1,hr,h2,h3,_,h5⟩:=run_append_own_at (P:=P) W base t ty e i0 (.int k 0) 1 bytes ht hi sa o0 sc rfl (by omega) v xs.length (bp k xs) HO ad m c (bp k ys) (by simp [bp,hm]) Ca
   (by intro u hu;simp only [bp,List.mem_map] at hu;obtain⟨q,_,rfl⟩:=hu;rfl) (by simp only [maxLen];omega) hl fx
  exact⟨v1,w1,hr,by simpa [bp,hm] using h2,h3,h5⟩
theorem yy {P:Program} {w:World} (base:Nat) (t u ty e:TypeId) (ht:P.underlying t=some (.slice e)) (hu:P.underlying u=some .string) (gF:(P.info? e).map (fun i=>(i.zero,i.size,i.bytes))=some (some (.int .u8 0),1,1))
  (v:Value) (xs:List Int) (s:ByteArray) (bl:w.ownsRow base e 1 v xs.length (bp .u8 xs)) (fx:base≤w.heap.size) (agk:xs.length+s.size≤140737488355328):
  ∃v1 w1,(Builtin.append_ #[t,u] ty #[v,.string s]).run P w= .ok v1 w1∧w1.ownsRow base e 1 v1 (xs++bytesOf s).length (bp .u8 (xs++bytesOf s))∧w.grownBy w1 v.ownBlock∧(v1.ownBlock=v.ownBlock∨v1.ownBlock=some w.heap.size):=by
 obtain⟨i,hi,ku⟩:=Option.map_eq_some_iff.1 gF
 simp only [Prod.mk.injEq] at ku
 obtain⟨hz,Mb,hby⟩:=ku
 have h63:xs.length+s.size≤maxLen:=by simp only [maxLen];omega
 have agl:xs.length+s.size≤9223372036854775807:=by omega
 have jX:bp .u8 (xs++bytesOf s)=bp .u8 xs++Lib.strCells s:=by
  rw [qQ]
  congr 1
  simp [bp,bytesOf,Lib.strCells]
 have hll:(xs++bytesOf s).length=xs.length+s.size:=by rw [List.length_append,jh]
 rw [jX,hll]
 generalize hn:xs.length=n at*
 generalize bp .u8 xs=cs at*
 have o9:cs.length=n:=by simpa using bl.1
 have hlen:(cs++Lib.strCells s).length=(n+s.size)*1:=by rw [List.length_append,o9,Lib.strCells_length,Nat.mul_one]
 have grown:∀(RG:Nat),RG<n+s.size→∀(row:Option Nat),
   (w.drew.alloc (.cells (cs.toArray++(Lib.strCells s).toArray++Builtin.zeroCells (Value.int .u8 0).cells (grownCap w (n+s.size) RG e - (n+s.size))) e)).ownsRow base e 1
    (.slice (some ⟨w.heap.size,0,none⟩) (n+s.size) (grownCap w (n+s.size) RG e)) (n+s.size) (cs++Lib.strCells s)∧
   w.grownBy (w.drew.alloc (.cells (cs.toArray++(Lib.strCells s).toArray++Builtin.zeroCells (Value.int .u8 0).cells (grownCap w (n+s.size) RG e - (n+s.size))) e)) row:=by
  intro RG ho row
  have MU:=grownCap_ge w (n+s.size) RG e
  have yS:grownCap w (n+s.size) RG e≤maxLen:=grownCap_le_maxLen w (n+s.size) RG e h63
  refine⟨⟨hlen,.inr ⟨w.heap.size,_,_,rfl,fx,heap_alloc_new w.drew _,MU,yS,?_,?_⟩⟩,⟨rfl,rfl,rfl,by simp,fun k hk _=>heap_alloc_old w.drew _ hk⟩⟩
  ·have o0:(Value.int IntKind.u8 0).cells.size=1:=rfl
   simp only [Array.size_append,List.size_toArray,size_zeroCells,o0,o9,Lib.strCells_length]
   omega
  ·simp only [Array.toList_append,List.append_assoc]
   rw [←List.append_assoc,←hlen]
   exact List.take_left
 rcases bl.2 with ⟨rfl,rfl⟩|⟨g,cap,cur,rfl,hbg,hg,Mr,yS,agm,Lf⟩
 ·have hx:cs= []:=List.eq_nil_of_length_eq_zero o9
  subst hx
  by_cases hm:s.size=0
  ·have YO :Lib.strCells s= []:=List.eq_nil_of_length_eq_zero (by rw [Lib.strCells_length];exact hm)
   refine⟨.slice none 0 0,w,?_,by rw [hm,YO];exact World.ownsRow_nil w base e 1,⟨rfl,rfl,rfl,Nat.le_refl _,fun _ _ _=>rfl⟩,.inl rfl⟩
   have hf:=Lib.run_firstCells_string (P:=P) w 1 s
   rw [hm] at hf
   simp [Builtin.append_,run_underlying ht,run_underlying hu,sizeOf,typeInfo,hi,Mb,Builtin.lenOf,hm,hf]
  ·have hr:=run_append_nil_string (P:=P) w t u ty e i (.int .u8 0) ht hu hi hz s (by omega) (by omega) (by rw [hby];omega)
   have Wv:=grown 0 (by omega) (Value.ownBlock (.slice none 0 0))
   simp only [Nat.zero_add,List.nil_append,Array.empty_append] at Wv⊢
   have e1:(s.data.map fun b=>Value.int .u8 b.toNat)=(Lib.strCells s).toArray:=by
    apply Array.ext'
    simp [Lib.strCells]
   rw [e1] at hr
   exact⟨_,_,hr,Wv.1,Wv.2,.inr rfl⟩
 ·by_cases RH:n+s.size≤cap
  ·have ahz:cur.size=cap:=by simpa using agm
   have hr:=Lib.run_append_room_string (P:=P) w t u ty e i ht hu hi Mb g n cap cur hg s RH (by omega)
   refine⟨_,_,hr,⟨hlen,.inr ⟨g,cap,_,rfl,hbg,setRow_heap w g cur _ e _ hg,RH,yS,?_,?_⟩⟩,⟨rfl,rfl,rfl,by simp,fun k _ hk=>setRow_other w g k _ (fun e=>hk (by simp [Value.ownBlock,e]))⟩,.inl rfl⟩
   ·simp only [List.size_toArray,List.length_append,List.length_take,List.length_drop,Array.length_toList,Lib.strCells_length]
    omega
   ·have vJ :cur.toList.take n=cs:=by simpa using Lf
    rw [vJ,←hlen]
    exact List.take_left
  ·have holds:∀j u,cs[j]? =some u→w.cell? ((⟨g,0,none⟩:Addr).add j)=some u:=bl.cells (g:=g) rfl
   have hr:=Lib.run_append_grow_string (P:=P) w t u ty e i (.int .u8 0) ht hu hi hz ⟨g,0,none⟩ n cap cs (by rw [Mb];simpa using o9) holds s (by omega) (by omega) (by rw [hby];exact growslice_fits (by omega) (by omega))
   have Wv:=grown cap (by omega) (Value.ownBlock (.slice (some ⟨g,0,none⟩) n cap))
   exact⟨_,_,hr,Wv.1,Wv.2,.inr rfl⟩
end Go.Proofs.YtlglijnaeaonpaaGreatDoor.Lx
end
section
set_option maxHeartbeats 8000000
set_option maxRecDepth 100000
set_option linter.unusedVariables false
set_option linter.unusedSimpArgs false
namespace Go.Proofs.YtlglijnaeaonpaaGreatDoor.Lx
open Go.RowKit Go.Proofs.YtlglijnaeaonpaaGreatDoorW.aC Go.Proofs.YtlglijnaeaonpaaGreatDoor.bG
theorem ey (l:List Value) (hl:l.length=80):∃f:Nat→Value,(∀i,l.getD i default=f i)∧l=f 0::f 1::f 2::f 3::f 4::f 5::f 6::f 7::f 8::f 9::f 10::f 11::f 12::f 13::f 14::f 15::f 16::f 17::f 18::f 19::f 20::f 21::f 22::f 23::f 24::f 25::f 26::f 27::f 28::f 29::f 30::f 31::f 32::f 33::f 34::f 35::f 36::f 37::f 38::f 39::f 40::f 41::f 42::f 43::f 44::f 45::f 46::f 47::f 48::f 49::f 50::f 51::f 52::f 53::f 54::f 55::f 56::f 57::f 58::f 59::f 60::f 61::f 62::f 63::f 64::f 65::f 66::f 67::f 68::f 69::f 70::f 71::f 72::f 73::f 74::f 75::f 76::f 77::f 78::f 79:: []:=by
 refine⟨fun i=>l.getD i default,fun _=>rfl,?_⟩
 conv=>lhs;rw [iP l,hl]
 kernel_rfl
section
variable {P:Program} {ops:Array Oper} {Q:Exit→Act→World→Prop} {I:Act→World→Prop} {o:Oper} {i d d0 k:Nat} {b:Bool} {l:List Value} {W:World}
theorem q8 (hg:o.guard=some (k,true)) (hk:(ops[k]?).bind (·.dst)=some d0) (hv:l.getD d0 default= .bool b) (hl:d0<l.length):Region.wanted o (yielded ops l.toArray)=b:=by
 have h2:l[d0]? =some (.bool b):=by
  rw [List.getD_eq_getElem?_getD,List.getElem?_eq_getElem hl] at hv
  rw [List.getElem?_eq_getElem hl]
  exact congrArg some hv
 unfold Region.wanted yielded
 rw [hg]
 dsimp only
 rw [hk]
 simp [h2]
theorem fw {v:Value} (ho:ops[i]? =some o) (hg:o.guard=some (k,true)) (hk:(ops[k]?).bind (·.dst)=some d0) (hv:l.getD d0 default= .bool b) (hl:d0<l.length) (hd:o.dst=some d)
  (h1:b=true→(execOp (⟨l.toArray,[]⟩:Act).eval o).run P W= .ok (.value v) W) (h:∀u,(b=true→u=v)→I ⟨(l.set d u).toArray,[]⟩ W):wpOp P ops Q i I ⟨l.toArray,[]⟩ W:=by
 refine wpOp_step ho fun K' hK=> ?_
 rw [q8 hg hk hv hl]
 cases b with
 | true=>
  rw [if_pos rfl]
  unfold Oper.wp
  rw [h1 rfl]
  show K' (Act.put _ o.dst v) W
  rw [hd,lj]
  exact hK _ _ (h _ fun _=>rfl)
 | false=>
  rw [if_neg (by decide)]
  rw [hd,lj]
  exact hK _ _ (h _ fun h=>by cases h)
theorem Mc {vs:Array Value} {f:FuncId} (ho:ops[i]? =some o) (hg:o.guard=some (k,true)) (hk:(ops[k]?).bind (·.dst)=some d0) (hv:l.getD d0 default= .bool b) (hl:d0<l.length) (hd:o.dst=some d)
  (h1:b=true→(execOp (⟨l.toArray,[]⟩:Act).eval o).run P W= .ok (.enter f vs) W) (hc:b=true→Calls P f vs W fun e w' =>∃u,e= .returned u∧I ⟨(l.set d u).toArray,[]⟩ w')
  (h2:b=false→∀u,I ⟨(l.set d u).toArray,[]⟩ W):wpOp P ops Q i I ⟨l.toArray,[]⟩ W:=by
 refine wpOp_step ho fun K' hK=> ?_
 rw [q8 hg hk hv hl]
 cases b with
 | true=>
  rw [if_pos rfl]
  unfold Oper.wp
  rw [h1 rfl]
  show Calls P f vs W _
  refine(hc rfl).mono ?_
  rintro e w' ⟨u,rfl,h⟩
  show K' (Act.put _ o.dst u) w'
  rw [hd,lj]
  exact hK _ _ h
 | false=>
  rw [if_neg (by decide)]
  rw [hd,lj]
  exact hK _ _ (h2 rfl _)
end
structure RP (F:List (Nat×Nat×Bool×Value)) (w:World) (z:Int) (g:Nat) (b:Array Value) (q4:Bool) (R:Prop) (D:Nat→Bool) (l:List Value) (W:World):Prop where
 len:l.length=80
 z1:l.getD 1 default= .int .i64 z
 box:l.getD 2 default= .pointer (some ⟨g,0,none⟩)
 eC:W.heap[g]? =some (.cells b 38 (0,0))
 be:Below w.heap.size w W
 CH:D 27=true→D 26=true
 nE:D 28=true→D 27=true
 f2:D 2=true→∃gn,l.getD 54 default= .slice (some ⟨gn,0,none⟩) 3 3∧W.heap[gn]? =some (.cells #[.string BD,.string BE,.string BF] 9 (0,0))
 f:∀x∈F,D x.1=true→x.2.2.1=true→l.getD x.2.1 default=x.2.2.2
 fr:∃r:Bool,(D 26=true→q4=true→l.getD 78 default= .bool r∧(r=true→R))∧(D 27=true→l.getD 79 default= .bool (q4&&r))∧(D 28=true→l.getD 4 default= .bool (q4&&r))
theorem RP.step {F:List (Nat×Nat×Bool×Value)} {w W W' :World} {z:Int} {g:Nat} {b:Array Value} {q4:Bool} {R:Prop} {D:Nat→Bool} {l:List Value} {i d:Nat} {v:Value} (h:RP F w z g b q4 R D l W) (hc:(decide (i<26∧d<78∧d≠1∧d≠2∧d≠4)&&F.all (fun x=>decide (x.1=i↔x.2.1=d)))=true) (hb:Below W.heap.size W W')
  (hv:∀x∈F,x.1=i→x.2.2.1=true→v=x.2.2.2) (hd:d=54↔i=2) (h2:i=2→∃gn,v= .slice (some ⟨gn,0,none⟩) 3 3∧W'.heap[gn]? =some (.cells #[.string BD,.string BE,.string BF] 9 (0,0))):RP F w z g b q4 R (fun j=>if j=i then true else D j) (l.set d v) W':=by
 simp only [Bool.and_eq_true,List.all_eq_true,decide_eq_true_eq] at hc
 obtain⟨⟨c1,c2,c3,c4,c5⟩,c6⟩:=hc
 have hl:d<l.length:=by rw [h.len];omega
 have Vp:(26=i)=False:=by simp;omega
 have Vq:(27=i)=False:=by simp;omega
 have e28:(28=i)=False:=by simp;omega
 refine⟨by rw [List.length_set];exact h.len,(bQ c3).trans h.z1,(bQ c4).trans h.box,bP h.eC hb,h.be.trans (hb.mono h.be.size),by simpa [Vp,Vq] using h.CH,by simpa [e28,Vq] using h.nE,fun hD=> ?_,fun x hx hD hq=> ?_,?_⟩
 ·by_cases hi:i=2
  ·obtain⟨gn,e,hg⟩:=h2 hi
   have Wn:=hd.2 hi
   subst Wn
   exact⟨gn,(gT hl).trans e,hg⟩
  ·obtain⟨gn,x1,x2⟩:=h.f2 (by simpa [Ne.symm hi] using hD)
   exact⟨gn,(bQ (fun e=>hi (hd.1 e))).trans x1,bP x2 hb⟩
 ·by_cases Ge:x.1=i
  ·rw [(c6 x hx).1 Ge,←hv x hx Ge hq]
   exact gT hl
  ·exact(bQ (fun e=>Ge ((c6 x hx).2 e.symm))).trans (h.f x hx (by simpa [Ge] using hD) hq)
 ·obtain⟨r,x1,x2,x3⟩:=h.fr
  refine⟨r,fun hD hq=> ?_,fun hD=> ?_,fun hD=> ?_⟩
  ·have:=x1 (by simpa [Vp] using hD) hq
   exact⟨(bQ (by omega)).trans this.1,this.2⟩
  ·exact(bQ (by omega)).trans (x2 (by simpa [Vq] using hD))
  ·exact(bQ c5).trans (x3 (by simpa [e28] using hD))
noncomputable def r15:Code:=bI [1,0,1,0,1,1,1,1,1,0,0] (Tryz.f15.body.getD .skip)
theorem abo {w:World} {z:Int} {g:Nat} {kb s:ByteArray} {A1 A2 A3 A4:Option Addr} {n1 n2 n3 n4 c1 c2 c3 c4:Nat} {q1 b2 b3 b4:Bool} {R:Prop} {W0:World} {l:List Value} {K:Act→World→Prop} {Q:Exit→Act→World→Prop}
  (hl:l.length=80) (h1:l.getD 1 default= .int .i64 z) (h2:l.getD 2 default= .pointer (some ⟨g,0,none⟩)) (dd:W0.heap[g]? =some (.cells #[.string kb,.slice A1 n1 c1,.slice A2 n2 c2,.slice A3 n3 c3,.slice A4 n4 c4] 38 (0,0))) (hbe:Below w.heap.size w W0)
  (sa:0≤z) (o0:z≤1000) (JR:n2≤2147483647) (hn3:n3≤2147483647) (N4:(!s.toList.isEmpty)=q1) (dc:decide (0<n2)=b2) (kX:((n3:Int)==0)=b3) (F4:decide (0<z)=b4)
  (hC:∀W gn,Below w.heap.size w W→W.heap[gn]? =some (.cells #[.string BD,.string BE,.string BF] 9 (0,0))→Calls Tryz.prog 34 #[.slice A1 n1 c1,.slice (some ⟨gn,0,none⟩) 3 3] W fun e w' =>e= .returned (.string s)∧w' =W)
  (IH:(q1&&b2&&b3&&b4)=true→∀W,Below w.heap.size w W→Calls Tryz.prog 5 #[.slice A4 n4 c4,.int .i64 (z - 1)] W (B6 W R))
  (hK:∀(l' :List Value) (W:World) (r:Bool),l'.length=80→l'.getD 4 default= .bool r→Below w.heap.size w W→(r=true→(q1&&b2&&b3&&b4)=true∧R)→K ⟨l'.toArray,[]⟩ W):
  Code.wp Tryz.prog r15 (Exit.then K Q) ⟨l.toArray,[]⟩ W0:=by
 have hzw:IntKind.i64.wrap (z - 1)=z - 1:=by rw [IntWalk.i64_in _ (by omega)]
 conv=>arg 2;whnf
 refine ix (by kernel_rfl) (by kernel_rfl) (fun D a W=>∃l,a=⟨l.toArray,[]⟩∧RP [(0,52,true,.pointer (some ⟨g,1,none⟩)),(1,53,true,.slice A1 n1 c1),(3,55,true,.string s),(4,56,true,.bool q1),(5,57,true,.bool q1),(6,58,q1,.pointer (some ⟨g,2,none⟩)),(7,59,q1,.slice A2 n2 c2),(8,60,q1,.int .i64 n2),(9,61,q1,.bool b2),(10,62,true,.bool (q1&&b2)),(11,63,true,.bool (q1&&b2)),(12,64,(q1&&b2),.pointer (some ⟨g,3,none⟩)),(13,65,(q1&&b2),.slice A3 n3 c3),(14,66,(q1&&b2),.int .i64 n3),(15,67,(q1&&b2),.bool b3),(16,68,true,.bool (q1&&b2&&b3)),(17,69,true,.bool (q1&&b2&&b3)),(18,70,(q1&&b2&&b3),.int .i64 z),(19,71,(q1&&b2&&b3),.bool b4),(20,72,true,.bool (q1&&b2&&b3&&b4)),(21,73,true,.bool (q1&&b2&&b3&&b4)),(22,74,(q1&&b2&&b3&&b4),.pointer (some ⟨g,4,none⟩)),(23,75,(q1&&b2&&b3&&b4),.slice A4 n4 c4),(24,76,(q1&&b2&&b3&&b4),.int .i64 z),(25,77,(q1&&b2&&b3&&b4),.int .i64 (z - 1))] w z g #[.string kb,.slice A1 n1 c1,.slice A2 n2 c2,.slice A3 n3 c3,.slice A4 n4 c4] (q1&&b2&&b3&&b4) R D l W) ?_ ?_ ?_
 ·exact⟨l,rfl,⟨hl,h1,h2,dd,bn hbe 1,(fun h=>by cases h),(fun h=>by cases h),(fun h=>by cases h),(fun x hx h=>by cases h),false,(fun h=>by cases h),(fun h=>by cases h),(fun h=>by cases h)⟩⟩
 ·rintro D a W ⟨l,rfl,hr⟩ i op ho gq bo
  have hl:=hr.len
  have hi:i<29:=(Array.getElem?_eq_some_iff.1 ho).1
  have pM:i=0∨i=1∨i=2∨i=3∨i=4∨i=5∨i=6∨i=7∨i=8∨i=9∨i=10∨i=11∨i=12∨i=13∨i=14∨i=15∨i=16∨i=17∨i=18∨i=19∨i=20∨i=21∨i=22∨i=23∨i=24∨i=25∨i=26∨i=27∨i=28:=by omega
  rcases pM with rfl|rfl|rfl|rfl|rfl|rfl|rfl|rfl|rfl|rfl|rfl|rfl|rfl|rfl|rfl|rfl|rfl|rfl|rfl|rfl|rfl|rfl|rfl|rfl|rfl|rfl|rfl|rfl|rfl
  ·cases ho
   refine cy rfl rfl rfl (v:=.pointer (some ⟨g,1,none⟩)) (W':=W) ?_ ⟨_,rfl,hr.step (by kernel_rfl) (Below.refl _ _) (by simp) (by decide) (by simp)⟩
   ·have h:=hr.box
    clear hr bo
    obtain⟨f,hf,rfl⟩:=ey l hl
    rw [hf] at h
    rw [h]
    first|(go_simp;done)|(go_simp;simp [*];done)|(go_simp;rfl)
  ·cases ho
   have es:D 0=true:=bo ⟨0,.data⟩ (by simp) (by rfl)
   refine cy rfl rfl rfl (v:=.slice A1 n1 c1) (W':=W) ?_ ⟨_,rfl,hr.step (by kernel_rfl) (Below.refl _ _) (by simp) (by decide) (by simp)⟩
   ·have h:l.getD 52 default= .pointer (some ⟨g,1,none⟩):=hr.f (0,52,true,.pointer (some ⟨g,1,none⟩)) (by simp) es rfl
    have kx:W.cell? ⟨g,1,none⟩=some (.slice A1 n1 c1):=by rw [ao hr.eC];rfl
    clear hr bo
    obtain⟨f,hf,rfl⟩:=ey l hl
    rw [hf] at h
    rw [h]
    first|(go_simp;done)|(go_simp;simp [*];done)|(go_simp;rfl)
  ·cases ho
   refine jU rfl rfl rfl (f:=36) (vs:=#[]) ?_ ((yv W).mono ?_)
   ·clear hr bo
    obtain⟨f,hf,rfl⟩:=ey l hl
    go_simp
   ·rintro e w1 ⟨rfl,rfl⟩
    exact⟨_,rfl,_,rfl,hr.step (by kernel_rfl) (au (Below.refl _ W) _) (by simp) (by decide) (fun _=>⟨_,rfl,heap_alloc_new W _⟩)⟩
  ·cases ho
   have e1:D 1=true:=bo ⟨1,.data⟩ (by simp) (by rfl)
   obtain⟨gn,y1,y2⟩:=hr.f2 (bo ⟨2,.data⟩ (by simp) (by rfl))
   refine jU rfl rfl rfl (f:=34) (vs:=#[.slice A1 n1 c1,.slice (some ⟨gn,0,none⟩) 3 3]) ?_ ((hC W gn hr.be y2).mono ?_)
   ·have h:l.getD 53 default= .slice A1 n1 c1:=hr.f (1,53,true,.slice A1 n1 c1) (by simp) e1 rfl
    clear hr bo
    obtain⟨f,hf,rfl⟩:=ey l hl
    rw [hf] at h y1
    rw [h,y1]
    go_simp
   ·rintro e w1 ⟨rfl,rfl⟩
    exact⟨_,rfl,_,rfl,hr.step (by kernel_rfl) (Below.refl _ _) (by simp) (by decide) (by simp)⟩
  ·cases ho
   have es:D 3=true:=bo ⟨3,.data⟩ (by simp) (by rfl)
   refine cy rfl rfl rfl (v:=.bool q1) (W':=W) ?_ ⟨_,rfl,hr.step (by kernel_rfl) (Below.refl _ _) (by simp) (by decide) (by simp)⟩
   ·have h:l.getD 55 default= .string s:=hr.f (3,55,true,.string s) (by simp) es rfl
    clear hr bo
    obtain⟨f,hf,rfl⟩:=ey l hl
    rw [hf] at h
    rw [h]
    first|(go_simp;done)|(go_simp;simp [*];done)|(go_simp;rfl)
  ·cases ho
   have es:D 4=true:=bo ⟨4,.data⟩ (by simp) (by rfl)
   refine cy rfl rfl rfl (v:=.bool q1) (W':=W) ?_ ⟨_,rfl,hr.step (by kernel_rfl) (Below.refl _ _) (by simp) (by decide) (by simp)⟩
   ·have h:l.getD 56 default= .bool q1:=hr.f (4,56,true,.bool q1) (by simp) es rfl
    clear hr bo
    obtain⟨f,hf,rfl⟩:=ey l hl
    rw [hf] at h
    rw [h]
    first|(go_simp;done)|(go_simp;simp [*];done)|(go_simp;rfl)
  ·cases ho
   have eg:D 5=true:=bo ⟨5,.guard⟩ (by simp) (by rfl)
   refine fw (v:=.pointer (some ⟨g,2,none⟩)) (b:=q1) rfl rfl rfl (hr.f (5,57,true,.bool q1) (by simp) eg rfl) (by omega) rfl (fun hq=> ?_) (fun u hu=>⟨_,rfl,hr.step (by kernel_rfl) (Below.refl _ _) (by simpa using hu) (by decide) (by simp)⟩)
   ·have h:=hr.box
    clear hr bo
    obtain⟨f,hf,rfl⟩:=ey l hl
    rw [hf] at h
    rw [h]
    first|(go_simp;done)|(go_simp;simp [*];done)|(go_simp;rfl)
  ·cases ho
   have eg:D 5=true:=bo ⟨5,.guard⟩ (by simp) (by rfl)
   have es:D 6=true:=bo ⟨6,.data⟩ (by simp) (by rfl)
   refine fw (v:=.slice A2 n2 c2) (b:=q1) rfl rfl rfl (hr.f (5,57,true,.bool q1) (by simp) eg rfl) (by omega) rfl (fun hq=> ?_) (fun u hu=>⟨_,rfl,hr.step (by kernel_rfl) (Below.refl _ _) (by simpa using hu) (by decide) (by simp)⟩)
   ·have h:l.getD 58 default= .pointer (some ⟨g,2,none⟩):=hr.f (6,58,q1,.pointer (some ⟨g,2,none⟩)) (by simp) es hq
    have kx:W.cell? ⟨g,2,none⟩=some (.slice A2 n2 c2):=by rw [ao hr.eC];rfl
    clear hr bo
    obtain⟨f,hf,rfl⟩:=ey l hl
    rw [hf] at h
    rw [h]
    first|(go_simp;done)|(go_simp;simp [*];done)|(go_simp;rfl)
  ·cases ho
   have eg:D 5=true:=bo ⟨5,.guard⟩ (by simp) (by rfl)
   have es:D 7=true:=bo ⟨7,.data⟩ (by simp) (by rfl)
   refine fw (v:=.int .i64 n2) (b:=q1) rfl rfl rfl (hr.f (5,57,true,.bool q1) (by simp) eg rfl) (by omega) rfl (fun hq=> ?_) (fun u hu=>⟨_,rfl,hr.step (by kernel_rfl) (Below.refl _ _) (by simpa using hu) (by decide) (by simp)⟩)
   ·have h:l.getD 59 default= .slice A2 n2 c2:=hr.f (7,59,q1,.slice A2 n2 c2) (by simp) es hq
    clear hr bo
    obtain⟨f,hf,rfl⟩:=ey l hl
    rw [hf] at h
    rw [h]
    first|(go_simp;done)|(go_simp;simp [*];done)|(go_simp;rfl)
  ·cases ho
   have eg:D 5=true:=bo ⟨5,.guard⟩ (by simp) (by rfl)
   have es:D 8=true:=bo ⟨8,.data⟩ (by simp) (by rfl)
   refine fw (v:=.bool b2) (b:=q1) rfl rfl rfl (hr.f (5,57,true,.bool q1) (by simp) eg rfl) (by omega) rfl (fun hq=> ?_) (fun u hu=>⟨_,rfl,hr.step (by kernel_rfl) (Below.refl _ _) (by simpa using hu) (by decide) (by simp)⟩)
   ·have h:l.getD 60 default= .int .i64 n2:=hr.f (8,60,q1,.int .i64 n2) (by simp) es hq
    clear hr bo
    obtain⟨f,hf,rfl⟩:=ey l hl
    rw [hf] at h
    rw [h]
    clear kX F4 N4 hK IH
    first|(go_simp;done)|(go_simp;simp [*];done)|(go_simp;rfl)
  ·cases ho
   have ea:D 5=true:=bo ⟨5,.data⟩ (by simp) (by rfl)
   have eb:D 9=true:=bo ⟨9,.data⟩ (by simp) (by rfl)
   refine cy rfl rfl rfl (v:=.bool (q1&&b2)) (W':=W) ?_ ⟨_,rfl,hr.step (by kernel_rfl) (Below.refl _ _) (by simp) (by decide) (by simp)⟩
   ·have h:l.getD 57 default= .bool q1:=hr.f (5,57,true,.bool q1) (by simp) ea rfl
    have h2:q1=true→l.getD 61 default= .bool b2:=hr.f (9,61,q1,.bool b2) (by simp) eb
    clear hr bo N4 dc kX F4 IH hC hK
    obtain⟨f,hf,rfl⟩:=ey l hl
    rw [hf] at h h2
    rw [h]
    cases hc:q1 with
    | true=>
     rw [h2 hc]
     go_simp
    | false=>go_simp
  ·cases ho
   have es:D 10=true:=bo ⟨10,.data⟩ (by simp) (by rfl)
   refine cy rfl rfl rfl (v:=.bool (q1&&b2)) (W':=W) ?_ ⟨_,rfl,hr.step (by kernel_rfl) (Below.refl _ _) (by simp) (by decide) (by simp)⟩
   ·have h:l.getD 62 default= .bool (q1&&b2):=hr.f (10,62,true,.bool (q1&&b2)) (by simp) es rfl
    clear hr bo
    obtain⟨f,hf,rfl⟩:=ey l hl
    rw [hf] at h
    rw [h]
    first|(go_simp;done)|(go_simp;simp [*];done)|(go_simp;rfl)
  ·cases ho
   have eg:D 11=true:=bo ⟨11,.guard⟩ (by simp) (by rfl)
   refine fw (v:=.pointer (some ⟨g,3,none⟩)) (b:=(q1&&b2)) rfl rfl rfl (hr.f (11,63,true,.bool (q1&&b2)) (by simp) eg rfl) (by omega) rfl (fun hq=> ?_) (fun u hu=>⟨_,rfl,hr.step (by kernel_rfl) (Below.refl _ _) (by simpa using hu) (by decide) (by simp)⟩)
   ·have h:=hr.box
    clear hr bo
    obtain⟨f,hf,rfl⟩:=ey l hl
    rw [hf] at h
    rw [h]
    first|(go_simp;done)|(go_simp;simp [*];done)|(go_simp;rfl)
  ·cases ho
   have eg:D 11=true:=bo ⟨11,.guard⟩ (by simp) (by rfl)
   have es:D 12=true:=bo ⟨12,.data⟩ (by simp) (by rfl)
   refine fw (v:=.slice A3 n3 c3) (b:=(q1&&b2)) rfl rfl rfl (hr.f (11,63,true,.bool (q1&&b2)) (by simp) eg rfl) (by omega) rfl (fun hq=> ?_) (fun u hu=>⟨_,rfl,hr.step (by kernel_rfl) (Below.refl _ _) (by simpa using hu) (by decide) (by simp)⟩)
   ·have h:l.getD 64 default= .pointer (some ⟨g,3,none⟩):=hr.f (12,64,(q1&&b2),.pointer (some ⟨g,3,none⟩)) (by simp) es hq
    have kx:W.cell? ⟨g,3,none⟩=some (.slice A3 n3 c3):=by rw [ao hr.eC];rfl
    clear hr bo
    obtain⟨f,hf,rfl⟩:=ey l hl
    rw [hf] at h
    rw [h]
    first|(go_simp;done)|(go_simp;simp [*];done)|(go_simp;rfl)
  ·cases ho
   have eg:D 11=true:=bo ⟨11,.guard⟩ (by simp) (by rfl)
   have es:D 13=true:=bo ⟨13,.data⟩ (by simp) (by rfl)
   refine fw (v:=.int .i64 n3) (b:=(q1&&b2)) rfl rfl rfl (hr.f (11,63,true,.bool (q1&&b2)) (by simp) eg rfl) (by omega) rfl (fun hq=> ?_) (fun u hu=>⟨_,rfl,hr.step (by kernel_rfl) (Below.refl _ _) (by simpa using hu) (by decide) (by simp)⟩)
   ·have h:l.getD 65 default= .slice A3 n3 c3:=hr.f (13,65,(q1&&b2),.slice A3 n3 c3) (by simp) es hq
    clear hr bo
    obtain⟨f,hf,rfl⟩:=ey l hl
    rw [hf] at h
    rw [h]
    first|(go_simp;done)|(go_simp;simp [*];done)|(go_simp;rfl)
  ·cases ho
   have eg:D 11=true:=bo ⟨11,.guard⟩ (by simp) (by rfl)
   have es:D 14=true:=bo ⟨14,.data⟩ (by simp) (by rfl)
   refine fw (v:=.bool b3) (b:=(q1&&b2)) rfl rfl rfl (hr.f (11,63,true,.bool (q1&&b2)) (by simp) eg rfl) (by omega) rfl (fun hq=> ?_) (fun u hu=>⟨_,rfl,hr.step (by kernel_rfl) (Below.refl _ _) (by simpa using hu) (by decide) (by simp)⟩)
   ·have h:l.getD 66 default= .int .i64 n3:=hr.f (14,66,(q1&&b2),.int .i64 n3) (by simp) es hq
    clear hr bo
    obtain⟨f,hf,rfl⟩:=ey l hl
    rw [hf] at h
    rw [h]
    first|(go_simp;done)|(go_simp;simp [*];done)|(go_simp;rfl)
  ·cases ho
   have ea:D 11=true:=bo ⟨11,.data⟩ (by simp) (by rfl)
   have eb:D 15=true:=bo ⟨15,.data⟩ (by simp) (by rfl)
   refine cy rfl rfl rfl (v:=.bool (q1&&b2&&b3)) (W':=W) ?_ ⟨_,rfl,hr.step (by kernel_rfl) (Below.refl _ _) (by simp) (by decide) (by simp)⟩
   ·have h:l.getD 63 default= .bool (q1&&b2):=hr.f (11,63,true,.bool (q1&&b2)) (by simp) ea rfl
    have h2:(q1&&b2)=true→l.getD 67 default= .bool b3:=hr.f (15,67,(q1&&b2),.bool b3) (by simp) eb
    clear hr bo N4 dc kX F4 IH hC hK
    obtain⟨f,hf,rfl⟩:=ey l hl
    rw [hf] at h h2
    rw [h]
    cases hc:(q1&&b2) with
    | true=>
     rw [h2 hc]
     go_simp
    | false=>go_simp
  ·cases ho
   have es:D 16=true:=bo ⟨16,.data⟩ (by simp) (by rfl)
   refine cy rfl rfl rfl (v:=.bool (q1&&b2&&b3)) (W':=W) ?_ ⟨_,rfl,hr.step (by kernel_rfl) (Below.refl _ _) (by simp) (by decide) (by simp)⟩
   ·have h:l.getD 68 default= .bool (q1&&b2&&b3):=hr.f (16,68,true,.bool (q1&&b2&&b3)) (by simp) es rfl
    clear hr bo
    obtain⟨f,hf,rfl⟩:=ey l hl
    rw [hf] at h
    rw [h]
    first|(go_simp;done)|(go_simp;simp [*];done)|(go_simp;rfl)
  ·cases ho
   have eg:D 17=true:=bo ⟨17,.guard⟩ (by simp) (by rfl)
   refine fw (v:=.int .i64 z) (b:=(q1&&b2&&b3)) rfl rfl rfl (hr.f (17,69,true,.bool (q1&&b2&&b3)) (by simp) eg rfl) (by omega) rfl (fun hq=> ?_) (fun u hu=>⟨_,rfl,hr.step (by kernel_rfl) (Below.refl _ _) (by simpa using hu) (by decide) (by simp)⟩)
   ·have h:=hr.z1
    clear hr bo
    obtain⟨f,hf,rfl⟩:=ey l hl
    rw [hf] at h
    rw [h]
    first|(go_simp;done)|(go_simp;simp [*];done)|(go_simp;rfl)
  ·cases ho
   have eg:D 17=true:=bo ⟨17,.guard⟩ (by simp) (by rfl)
   have es:D 18=true:=bo ⟨18,.data⟩ (by simp) (by rfl)
   refine fw (v:=.bool b4) (b:=(q1&&b2&&b3)) rfl rfl rfl (hr.f (17,69,true,.bool (q1&&b2&&b3)) (by simp) eg rfl) (by omega) rfl (fun hq=> ?_) (fun u hu=>⟨_,rfl,hr.step (by kernel_rfl) (Below.refl _ _) (by simpa using hu) (by decide) (by simp)⟩)
   ·have h:l.getD 70 default= .int .i64 z:=hr.f (18,70,(q1&&b2&&b3),.int .i64 z) (by simp) es hq
    clear hr bo
    obtain⟨f,hf,rfl⟩:=ey l hl
    rw [hf] at h
    rw [h]
    first|(go_simp;done)|(go_simp;simp [*];done)|(go_simp;rfl)
  ·cases ho
   have ea:D 17=true:=bo ⟨17,.data⟩ (by simp) (by rfl)
   have eb:D 19=true:=bo ⟨19,.data⟩ (by simp) (by rfl)
   refine cy rfl rfl rfl (v:=.bool (q1&&b2&&b3&&b4)) (W':=W) ?_ ⟨_,rfl,hr.step (by kernel_rfl) (Below.refl _ _) (by simp) (by decide) (by simp)⟩
   ·have h:l.getD 69 default= .bool (q1&&b2&&b3):=hr.f (17,69,true,.bool (q1&&b2&&b3)) (by simp) ea rfl
    have h2:(q1&&b2&&b3)=true→l.getD 71 default= .bool b4:=hr.f (19,71,(q1&&b2&&b3),.bool b4) (by simp) eb
    clear hr bo N4 dc kX F4 IH hC hK
    obtain⟨f,hf,rfl⟩:=ey l hl
    rw [hf] at h h2
    rw [h]
    cases hc:(q1&&b2&&b3) with
    | true=>
     rw [h2 hc]
     go_simp
    | false=>go_simp
  ·cases ho
   have es:D 20=true:=bo ⟨20,.data⟩ (by simp) (by rfl)
   refine cy rfl rfl rfl (v:=.bool (q1&&b2&&b3&&b4)) (W':=W) ?_ ⟨_,rfl,hr.step (by kernel_rfl) (Below.refl _ _) (by simp) (by decide) (by simp)⟩
   ·have h:l.getD 72 default= .bool (q1&&b2&&b3&&b4):=hr.f (20,72,true,.bool (q1&&b2&&b3&&b4)) (by simp) es rfl
    clear hr bo
    obtain⟨f,hf,rfl⟩:=ey l hl
    rw [hf] at h
    rw [h]
    first|(go_simp;done)|(go_simp;simp [*];done)|(go_simp;rfl)
  ·cases ho
   have eg:D 21=true:=bo ⟨21,.guard⟩ (by simp) (by rfl)
   refine fw (v:=.pointer (some ⟨g,4,none⟩)) (b:=(q1&&b2&&b3&&b4)) rfl rfl rfl (hr.f (21,73,true,.bool (q1&&b2&&b3&&b4)) (by simp) eg rfl) (by omega) rfl (fun hq=> ?_) (fun u hu=>⟨_,rfl,hr.step (by kernel_rfl) (Below.refl _ _) (by simpa using hu) (by decide) (by simp)⟩)
   ·have h:=hr.box
    clear hr bo
    obtain⟨f,hf,rfl⟩:=ey l hl
    rw [hf] at h
    rw [h]
    first|(go_simp;done)|(go_simp;simp [*];done)|(go_simp;rfl)
  ·cases ho
   have eg:D 21=true:=bo ⟨21,.guard⟩ (by simp) (by rfl)
   have es:D 22=true:=bo ⟨22,.data⟩ (by simp) (by rfl)
   refine fw (v:=.slice A4 n4 c4) (b:=(q1&&b2&&b3&&b4)) rfl rfl rfl (hr.f (21,73,true,.bool (q1&&b2&&b3&&b4)) (by simp) eg rfl) (by omega) rfl (fun hq=> ?_) (fun u hu=>⟨_,rfl,hr.step (by kernel_rfl) (Below.refl _ _) (by simpa using hu) (by decide) (by simp)⟩)
   ·have h:l.getD 74 default= .pointer (some ⟨g,4,none⟩):=hr.f (22,74,(q1&&b2&&b3&&b4),.pointer (some ⟨g,4,none⟩)) (by simp) es hq
    have kx:W.cell? ⟨g,4,none⟩=some (.slice A4 n4 c4):=by rw [ao hr.eC];rfl
    clear hr bo
    obtain⟨f,hf,rfl⟩:=ey l hl
    rw [hf] at h
    rw [h]
    first|(go_simp;done)|(go_simp;simp [*];done)|(go_simp;rfl)
  ·cases ho
   have eg:D 21=true:=bo ⟨21,.guard⟩ (by simp) (by rfl)
   refine fw (v:=.int .i64 z) (b:=(q1&&b2&&b3&&b4)) rfl rfl rfl (hr.f (21,73,true,.bool (q1&&b2&&b3&&b4)) (by simp) eg rfl) (by omega) rfl (fun hq=> ?_) (fun u hu=>⟨_,rfl,hr.step (by kernel_rfl) (Below.refl _ _) (by simpa using hu) (by decide) (by simp)⟩)
   ·have h:=hr.z1
    clear hr bo
    obtain⟨f,hf,rfl⟩:=ey l hl
    rw [hf] at h
    rw [h]
    first|(go_simp;done)|(go_simp;simp [*];done)|(go_simp;rfl)
  ·cases ho
   have eg:D 21=true:=bo ⟨21,.guard⟩ (by simp) (by rfl)
   have es:D 24=true:=bo ⟨24,.data⟩ (by simp) (by rfl)
   refine fw (v:=.int .i64 (z - 1)) (b:=(q1&&b2&&b3&&b4)) rfl rfl rfl (hr.f (21,73,true,.bool (q1&&b2&&b3&&b4)) (by simp) eg rfl) (by omega) rfl (fun hq=> ?_) (fun u hu=>⟨_,rfl,hr.step (by kernel_rfl) (Below.refl _ _) (by simpa using hu) (by decide) (by simp)⟩)
   ·have h:l.getD 76 default= .int .i64 z:=hr.f (24,76,(q1&&b2&&b3&&b4),.int .i64 z) (by simp) es hq
    clear hr bo
    obtain⟨f,hf,rfl⟩:=ey l hl
    rw [hf] at h
    rw [h]
    first|(go_simp;done)|(go_simp;simp [*];done)|(go_simp;rfl)
  ·cases ho
   have eg:D 21=true:=bo ⟨21,.guard⟩ (by simp) (by rfl)
   have e1:D 23=true:=bo ⟨23,.data⟩ (by simp) (by rfl)
   have e2:D 25=true:=bo ⟨25,.data⟩ (by simp) (by rfl)
   have n27:D 27=false:=by
    cases hh:D 27 with
    | false=>rfl
    | true=>exact absurd ((hr.CH hh).symm.trans gq) (by decide)
   have Vr:D 28=false:=by
    cases hh:D 28 with
    | false=>rfl
    | true=>exact absurd ((hr.nE hh).symm.trans n27) (by decide)
   refine Mc (f:=5) (vs:=#[.slice A4 n4 c4,.int .i64 (z - 1)]) (b:=(q1&&b2&&b3&&b4)) rfl rfl rfl (hr.f (21,73,true,.bool (q1&&b2&&b3&&b4)) (by simp) eg rfl) (by omega) rfl (fun hq=> ?_) (fun hq=>(IH hq W hr.be).mono ?_) (fun hq u=>⟨_,rfl,?_⟩)
   ·have h:l.getD 75 default= .slice A4 n4 c4:=hr.f (23,75,(q1&&b2&&b3&&b4),.slice A4 n4 c4) (by simp) e1 hq
    have h' :l.getD 77 default= .int .i64 (z - 1):=hr.f (25,77,(q1&&b2&&b3&&b4),.int .i64 (z - 1)) (by simp) e2 hq
    clear hr bo
    obtain⟨f,hf,rfl⟩:=ey l hl
    rw [hf] at h h'
    rw [h,h']
    go_simp
   ·rintro e w1 ⟨r,rfl,hb,hR⟩
    exact⟨_,rfl,_,rfl,⟨by rw [List.length_set];exact hl,(bQ (by decide)).trans hr.z1,(bQ (by decide)).trans hr.box,bP hr.eC hb,hr.be.trans (hb.mono hr.be.size),(fun h=>absurd (n27.symm.trans (by simpa using h)) (by decide)),(fun h=>absurd (Vr.symm.trans (by simpa using h)) (by decide)),(fun h=>by obtain⟨gn,x1,x2⟩:=hr.f2 (by simpa using h);exact⟨gn,(bQ (by decide)).trans x1,bP x2 hb⟩),(fun x hx hD hq=>(bQ (fun e=>by simp at hx;rcases hx with rfl|rfl|rfl|rfl|rfl|rfl|rfl|rfl|rfl|rfl|rfl|rfl|rfl|rfl|rfl|rfl|rfl|rfl|rfl|rfl|rfl|rfl|rfl|rfl|rfl<;>simp at e)).trans (hr.f x hx (by simp at hx;rcases hx with rfl|rfl|rfl|rfl|rfl|rfl|rfl|rfl|rfl|rfl|rfl|rfl|rfl|rfl|rfl|rfl|rfl|rfl|rfl|rfl|rfl|rfl|rfl|rfl|rfl<;>simpa using hD) hq)),⟨r,(fun _ _=>⟨gT (by omega),hR⟩),(fun h=>absurd (n27.symm.trans (by simpa using h)) (by decide)),(fun h=>absurd (Vr.symm.trans (by simpa using h)) (by decide))⟩⟩⟩
   ·exact⟨by rw [List.length_set];exact hl,(bQ (by decide)).trans hr.z1,(bQ (by decide)).trans hr.box,hr.eC,hr.be,(fun h=>absurd (n27.symm.trans (by simpa using h)) (by decide)),(fun h=>absurd (Vr.symm.trans (by simpa using h)) (by decide)),(fun h=>by obtain⟨gn,x1,x2⟩:=hr.f2 (by simpa using h);exact⟨gn,(bQ (by decide)).trans x1,x2⟩),(fun x hx hD hq=>(bQ (fun e=>by simp at hx;rcases hx with rfl|rfl|rfl|rfl|rfl|rfl|rfl|rfl|rfl|rfl|rfl|rfl|rfl|rfl|rfl|rfl|rfl|rfl|rfl|rfl|rfl|rfl|rfl|rfl|rfl<;>simp at e)).trans (hr.f x hx (by simp at hx;rcases hx with rfl|rfl|rfl|rfl|rfl|rfl|rfl|rfl|rfl|rfl|rfl|rfl|rfl|rfl|rfl|rfl|rfl|rfl|rfl|rfl|rfl|rfl|rfl|rfl|rfl<;>simpa using hD) hq)),⟨false,(fun _ N5=>absurd (hq.symm.trans N5) (by decide)),(fun h=>absurd (n27.symm.trans (by simpa using h)) (by decide)),(fun h=>absurd (Vr.symm.trans (by simpa using h)) (by decide))⟩⟩
  ·cases ho
   have ea:D 21=true:=bo ⟨21,.data⟩ (by simp) (by rfl)
   have Vp:D 26=true:=bo ⟨26,.data⟩ (by simp) (by rfl)
   have Vr:D 28=false:=by
    cases hh:D 28 with
    | false=>rfl
    | true=>exact absurd ((hr.nE hh).symm.trans gq) (by decide)
   obtain⟨r,x1,x2,x3⟩:=hr.fr
   refine cy rfl rfl rfl (v:=.bool ((q1&&b2&&b3&&b4)&&r)) (W':=W) ?_ ⟨_,rfl,?_⟩
   ·have h:l.getD 73 default= .bool (q1&&b2&&b3&&b4):=hr.f (21,73,true,.bool (q1&&b2&&b3&&b4)) (by simp) ea rfl
    have h2:=fun hq=>(x1 Vp hq).1
    clear hr bo N4 dc kX F4 IH hC hK x1 x2 x3
    obtain⟨f,hf,rfl⟩:=ey l hl
    rw [hf] at h h2
    rw [h]
    cases hc:(q1&&b2&&b3&&b4) with
    | true=>
     rw [h2 hc]
     go_simp
    | false=>go_simp
   ·exact⟨by rw [List.length_set];exact hl,(bQ (by decide)).trans hr.z1,(bQ (by decide)).trans hr.box,hr.eC,hr.be,(fun _=>by simpa using Vp),(fun h=>absurd (Vr.symm.trans (by simpa using h)) (by decide)),(fun h=>by obtain⟨gn,x1,x2⟩:=hr.f2 (by simpa using h);exact⟨gn,(bQ (by decide)).trans x1,x2⟩),(fun x hx hD hq=>(bQ (fun e=>by simp at hx;rcases hx with rfl|rfl|rfl|rfl|rfl|rfl|rfl|rfl|rfl|rfl|rfl|rfl|rfl|rfl|rfl|rfl|rfl|rfl|rfl|rfl|rfl|rfl|rfl|rfl|rfl<;>simp at e)).trans (hr.f x hx (by simp at hx;rcases hx with rfl|rfl|rfl|rfl|rfl|rfl|rfl|rfl|rfl|rfl|rfl|rfl|rfl|rfl|rfl|rfl|rfl|rfl|rfl|rfl|rfl|rfl|rfl|rfl|rfl<;>simpa using hD) hq)),⟨r,(fun h hq=>⟨(bQ (by decide)).trans (x1 Vp hq).1,(x1 Vp hq).2⟩),(fun _=>gT (by omega)),(fun h=>absurd (Vr.symm.trans (by simpa using h)) (by decide))⟩⟩
  ·cases ho
   have Vq:D 27=true:=bo ⟨27,.data⟩ (by simp) (by rfl)
   obtain⟨r,x1,x2,x3⟩:=hr.fr
   refine cy rfl rfl rfl (v:=.bool ((q1&&b2&&b3&&b4)&&r)) (W':=W) ?_ ⟨_,rfl,?_⟩
   ·have h:=x2 Vq
    clear hr bo x1 x2 x3
    obtain⟨f,hf,rfl⟩:=ey l hl
    rw [hf] at h
    rw [h]
    go_simp
   ·exact⟨by rw [List.length_set];exact hl,(bQ (by decide)).trans hr.z1,(bQ (by decide)).trans hr.box,hr.eC,hr.be,(fun h=>by simpa using hr.CH (by simpa using h)),(fun _=>by simpa using Vq),(fun h=>by obtain⟨gn,x1,x2⟩:=hr.f2 (by simpa using h);exact⟨gn,(bQ (by decide)).trans x1,x2⟩),(fun x hx hD hq=>(bQ (fun e=>by simp at hx;rcases hx with rfl|rfl|rfl|rfl|rfl|rfl|rfl|rfl|rfl|rfl|rfl|rfl|rfl|rfl|rfl|rfl|rfl|rfl|rfl|rfl|rfl|rfl|rfl|rfl|rfl<;>simp at e)).trans (hr.f x hx (by simp at hx;rcases hx with rfl|rfl|rfl|rfl|rfl|rfl|rfl|rfl|rfl|rfl|rfl|rfl|rfl|rfl|rfl|rfl|rfl|rfl|rfl|rfl|rfl|rfl|rfl|rfl|rfl<;>simpa using hD) hq)),⟨r,(fun h hq=>⟨(bQ (by decide)).trans (x1 (by simpa using h) hq).1,(x1 (by simpa using h) hq).2⟩),(fun h=>(bQ (by decide)).trans (x2 Vq)),(fun _=>gT (by omega))⟩⟩
 ·rintro D a W ⟨l,rfl,hr⟩ fi
  obtain⟨r,x1,x2,x3⟩:=hr.fr
  refine hK _ _ ((q1&&b2&&b3&&b4)&&r) hr.len (x3 (fi 28 (by decide))) hr.be fun h=> ?_
  rw [Bool.and_eq_true] at h
  exact⟨h.1,(x1 (fi 26 (by decide)) h.1).2 h.2⟩
theorem tY {z:Int} {R:Prop} {w:World} {A1 A2 A3 A4:Option Addr} {c1 c2 c3 c4:Nat} {name:List Int} {words:List (List Int)} {decls:List gx} {parts:List PT} (k1:VB w A1 c1 name) (wi:words.length≤2147483647) (hl3:decls.length≤2147483647)
  (sa:0≤z) (o0:z≤1000) (IH:0<z→∀W,Below w.heap.size w W→Calls Tryz.prog 5 #[.slice A4 parts.length c4,.int .i64 (z - 1)] W (B6 W R)):
  Calls Tryz.prog 15 #[.agg #[.string ⟨#[98,108,111,99,107]⟩,.slice A1 name.length c1,.slice A2 words.length c2,.slice A3 decls.length c3,.slice A4 parts.length c4],.int .i64 z] w (B6 w (name∈jG∧words≠ []∧decls= []∧0<z∧R)):=by
 have dR:=am k1
 have HIH:=am IH
 obtain⟨s,hs⟩:∃s,u5 (strOfNums name) BD BE BF=s:=⟨_,rfl⟩
 have HM:ak ((!s.toList.isEmpty)=true→name∈jG):=⟨fun hb=>by
  rcases yw (strOfNums name) BD BE BF with h|⟨h,he⟩
  ·rw [←hs,h,ByteArray.toList_eq] at hb
   simp at hb
  ·exact PO k1.oj h he⟩
 have HC:ak (∀W gn,Below w.heap.size w W→W.heap[gn]? =some (.cells #[.string BD,.string BE,.string BF] 9 (0,0))→Calls Tryz.prog 34 #[.slice A1 name.length c1,.slice (some ⟨gn,0,none⟩) 3 3] W fun e w' =>e= .returned (.string s)∧w' =W):=
  ⟨fun W gn hb hg=>hs▸tW (dR.out.below hb) hg⟩
 have HW:ak (0<words.length→words≠ []):=⟨fun h e=>by rw [e] at h;exact absurd h (by decide)⟩
 have HD:ak (((decls.length:Int)==0)=true→decls= []):=⟨fun h=>List.length_eq_zero_iff.1 (by simpa using h)⟩
 have HA:=am (au (Below.refl w.heap.size w) (.cells #[.string ⟨#[98,108,111,99,107]⟩,.slice A1 name.length c1,.slice A2 words.length c2,.slice A3 decls.length c3,.slice A4 parts.length c4] 38))
 have L8:=am (heap_alloc_new w (.cells #[.string ⟨#[98,108,111,99,107]⟩,.slice A1 name.length c1,.slice A2 words.length c2,.slice A3 decls.length c3,.slice A4 parts.length c4] 38))
 have x0:=(Bx.new w ⟨#[98,108,111,99,107]⟩ (.slice A1 name.length c1) (.slice A2 words.length c2) (.slice A3 decls.length c3) (.slice A4 parts.length c4)).1
 clear hs k1 IH dR
 generalize words.length=n2 at*
 generalize decls.length=n3 at*
 generalize parts.length=n4 at*
 generalize name.length=n1 at*
 go_enter Tryz.func15,Tryz.ntmps15
 go_wp2_with (fail)
 show Code.wp Tryz.prog r15 _ _ _
 refine abo (w:=w) (z:=z) (R:=R) (by kernel_rfl) rfl rfl L8.out HA.out sa o0 wi hl3 rfl rfl rfl rfl HC.out (fun hq=>HIH.out (by simp only [Bool.and_eq_true,decide_eq_true_eq] at hq;exact hq.2)) ?_
 intro l' W r hl h4 hb hr
 obtain⟨f,hf,rfl⟩:=ey l' hl
 rw [hf] at h4
 rw [h4]
 have HR:=am (And.intro hb hr)
 clear hf hl h4 hb hr L8 x0
 go_wp2_with (fail)
 go_ret
 refine⟨r,rfl,HR.out.1,fun h=> ?_⟩
 obtain⟨h1,h2⟩:=HR.out.2 h
 simp only [Bool.and_eq_true,decide_eq_true_eq] at h1
 exact⟨HM.out h1.1.1.1,HW.out h1.1.1.2,HD.out h1.1.2,h1.2,h2⟩
theorem BG {z:Int} {w:World} {v1 v2 v3 v4:Value} {kind:ByteArray} (h1:(kind.toList==([114,117,108,101]:List UInt8))=false) (h2:(kind.toList==([97,116]:List UInt8))=false) (h3:(kind.toList==([98,108,111,99,107]:List UInt8))=false):
  Calls Tryz.prog 15 #[.agg #[.string kind,v1,v2,v3,v4],.int .i64 z] w (B6 w False):=by
 have HA:=am (au (Below.refl w.heap.size w) (.cells #[.string kind,v1,v2,v3,v4] 38))
 have L8:=am (Bx.new w kind v1 v2 v3 v4)
 go_enter Tryz.func15,Tryz.ntmps15
 go_wp2
 go_ret
 exact⟨false,rfl,HA.out,fun h=>by cases h⟩
theorem BH {z:Int} {w:World} {A1 A2 A3 A4:Option Addr} {c1 c2 c3 c4:Nat} {name:List Int} {words:List (List Int)} {decls:List gx} {parts:List PT} (k1:VB w A1 c1 name) (k3:DL w A3 c3 decls) (wi:words.length≤2147483647) (We:parts.length≤2147483647) (hT:fU w):
  Calls Tryz.prog 15 #[.agg #[.string ⟨#[114,117,108,101]⟩,.slice A1 name.length c1,.slice A2 words.length c2,.slice A3 decls.length c3,.slice A4 parts.length c4],.int .i64 z] w (B6 w (Py name∧Wi decls∧words= []∧parts= [])):=by
 have hl3:=k3.fit.1
 have HX:=am (And.intro k1 (And.intro k3 hT))
 have L8:=am (Bx.new w ⟨#[114,117,108,101]⟩ (.slice A1 name.length c1) (.slice A2 words.length c2) (.slice A3 decls.length c3) (.slice A4 parts.length c4))
 have HA:=am (au (Below.refl w.heap.size w) (.cells #[.string ⟨#[114,117,108,101]⟩,.slice A1 name.length c1,.slice A2 words.length c2,.slice A3 decls.length c3,.slice A4 parts.length c4] 38))
 clear k1 k3 hT
 obtain⟨bz,B4⟩:∃b,((words.length:Int)+(parts.length:Int)==0)=b:=⟨_,rfl⟩
 have rU:=am B4
 go_enter Tryz.func15,Tryz.ntmps15
 go_wp2_with (first
  | (go_at_call 33;(with_reducible refine(tX (HX.out.1.below HA.out) (HX.out.2.2.below HA.out)).mono ?_);rintro e w5 ⟨r,rfl,q1,q2⟩;have HS:=am (And.intro (HA.out.trans (q1.mono HA.out.size)) (And.intro q2 (L8.out.below q1)));obtain⟨z0,z1,z2,z3,z4⟩:=HS.out.2.2;clear q1 q2;rcases r with _|_)
  | (go_at_call 11;(with_reducible refine(oo (HX.out.2.1.below HS.out.1) (HX.out.2.2.below HS.out.1)).mono ?_);rintro e w6 ⟨r2,rfl,q1,q2⟩;have HD:=am (And.intro (HS.out.1.trans (q1.mono HS.out.1.size)) (And.intro q2 (HS.out.2.2.below q1)));obtain⟨y0,y1,y2,y3,y4⟩:=HD.out.2.2;clear q1 q2;rcases r2 with _|_))
 ·go_ret
  exact⟨false,rfl,HS.out.1,fun h=>by cases h⟩
 ·go_ret
  exact⟨false,rfl,HD.out.1,fun h=>by cases h⟩
 ·go_ret
  refine⟨bz,rfl,HD.out.1,fun h=> ?_⟩
  have e1:=rU.out
  rw [h] at e1
  have e2:=eq_of_beq e1
  exact⟨HS.out.2.1 (by simp),HD.out.2.1 (by simp),List.length_eq_zero_iff.1 (by omega),List.length_eq_zero_iff.1 (by omega)⟩
theorem DZ {d:Nat} (IH:∀d',d=d' +1→∀{w:World} {A:Option Addr} {c:Nat} {ps:List PT},PL (d' +1) w A c ps→fU w→Calls Tryz.prog 5 #[.slice A ps.length c,.int .i64 d'] w (B6 w (mx d' ps)))
  {w:World} {A1 A2 A3 A4:Option Addr} {c1 c2 c3 c4:Nat} {kind:ByteArray} {name:List Int} {words:List (List Int)} {decls:List gx} {parts:List PT} (k1:VB w A1 c1 name) (k2:VL w A2 c2 words) (k3:DL w A3 c3 decls) (k4:PL d w A4 c4 parts) (hT:fU w) (hv:MG words) (hd:d≤1000):
  Calls Tryz.prog 15 #[.agg #[.string kind,.slice A1 name.length c1,.slice A2 words.length c2,.slice A3 decls.length c3,.slice A4 parts.length c4],.int .i64 d] w (B6 w (qi d (.mk kind name words decls parts))):=by
 have hx:∀x∈words,Tx x:=fun x hx=>by
  obtain⟨qs,hq⟩:=hv.ok x hx
  exact⟨by have:=hq.len;omega,k2.oj x hx⟩
 cases h1:(kind.toList==([114,117,108,101]:List UInt8)) with
 | true=>
  obtain rfl:kind=⟨#[114,117,108,101]⟩:=yx (by rw [eq_of_beq h1];kernel_rfl)
  refine(BH k1 k3 k2.fit.1 k4.len hT).mono ?_
  rintro e w' ⟨r,rfl,hb,hr⟩
  refine⟨r,rfl,hb,fun h=> ?_⟩
  obtain⟨a1,a2,rfl,rfl⟩:=hr h
  exact .p9 d name decls a1 k1.tx a2.len (UP k3 a2)
 | false=>
  cases h2:(kind.toList==([97,116]:List UInt8)) with
  | true=>
   obtain rfl:kind=⟨#[97,116]⟩:=yx (by rw [eq_of_beq h2];kernel_rfl)
   refine(Ia k1 k2.fit.1 k3.fit.1 k4.len).mono ?_
   rintro e w' ⟨r,rfl,hb,hr⟩
   refine⟨r,rfl,hb,fun h=> ?_⟩
   obtain⟨a1,a2,rfl,rfl⟩:=hr h
   exact .yK d name words a1 a2 hv hx
  | false=>
   cases h3:(kind.toList==([98,108,111,99,107]:List UInt8)) with
   | true=>
    obtain rfl:kind=⟨#[98,108,111,99,107]⟩:=yx (by rw [eq_of_beq h3];kernel_rfl)
    cases d with
    | zero=>
     refine(tY (R:=True) k1 k2.fit.1 k3.fit.1 (by omega) (by omega) (fun h=>absurd h (by decide))).mono ?_
     rintro e w' ⟨r,rfl,hb,hr⟩
     exact⟨r,rfl,hb,fun h=>absurd (hr h).2.2.2.1 (by decide)⟩
    | succ d' =>
     refine(tY (R:=mx d' parts) k1 k2.fit.1 k3.fit.1 (by omega) (by omega) (fun h W hb=> ?_)).mono ?_
     ·have:=IH d' rfl (k4.below hb) (hT.below hb)
      rw [show (((d' +1:Nat):Int) - 1)=(d' :Int) by omega]
      exact this
     ·rintro e w' ⟨r,rfl,hb,hr⟩
      refine⟨r,rfl,hb,fun h=> ?_⟩
      obtain⟨a1,a2,rfl,-,a5⟩:=hr h
      exact .eC d' name words parts a1 a2 hv hx a5.1 a5.2
   | false=>
    refine(BG h1 h2 h3).mono ?_
    rintro e w' ⟨r,rfl,hb,hr⟩
    exact⟨r,rfl,hb,fun h=>(hr h).elim⟩
theorem oG {d:Nat} (hd:d≤1000) (IH:∀d',d=d' +1→∀{w:World} {A:Option Addr} {c:Nat} {ps:List PT},PL (d' +1) w A c ps→fU w→Calls Tryz.prog 5 #[.slice A ps.length c,.int .i64 d'] w (B6 w (mx d' ps)))
  {w:World} {A:Option Addr} {c:Nat} {ps:List PT} (h:PL (d+1) w A c ps) (hT:fU w):
  Calls Tryz.prog 5 #[.slice A ps.length c,.int .i64 d] w (B6 w (mx d ps)):=by
 have hl:=h.len
 have HV:=am h
 have HT:=am hT
 have HIH:=am @IH
 clear h hT IH
 go_enter Tryz.func5,Tryz.ntmps5
 go_wp2
 go_loopg [9] (ps.length+1) (fun gk v9 wr=>∃j:Int,v9= .int .i64 j∧0≤j∧j≤ps.length∧ak (Below w.heap.size w wr∧(∀m:Nat,(m:Int)<j→∀x,ps[m]? =some x→qi d x))∧gk=((ps.length:Int) - j).toNat+1)
 case atStart=>exact⟨0,rfl,by omega,by omega,⟨Below.refl _ _,fun m hm=>by omega⟩,by omega⟩
 case round=>
  obtain⟨j,rfl,h0,h1,HR,rfl⟩:=hrel
  by_cases hj:j<ps.length
  ·obtain⟨ad,A1,c1,A2,c2,A3,c3,A4,c4,kind,name,words,decls,parts,rfl,hx,x0,x1,x2,x3,x4,k1,k2,k3,k4⟩:=(HV.out.below HR.out.1).get h0 hj
   have B7:=eq_true h0
   have HA:ak (Below wr.heap.size wr (wr.alloc (.cells #[.string kind,.slice A1 name.length c1,.slice A2 words.length c2,.slice A3 decls.length c3,.slice A4 parts.length c4] 38))):=⟨au (Below.refl _ _) _⟩
   have L8:=am (Bx.new wr kind (.slice A1 name.length c1) (.slice A2 words.length c2) (.slice A3 decls.length c3) (.slice A4 parts.length c4))
   have HX:=am (And.intro hx (And.intro (k1.below HA.out) (And.intro (k2.below HA.out) (And.intro (k3.below HA.out) (And.intro (k4.below HA.out) (HT.out.below (HR.out.1.trans (HA.out.mono HR.out.1.size))))))))
   have uU:=am (HR.out.1.trans (HA.out.mono HR.out.1.size))
   clear hx k1 k2 k3 k4
   go_wp2_with (first
    | (go_at_call 14;(with_reducible refine(ko HX.out.2.2.1 HX.out.2.2.2.2.2).mono ?_);rintro e w6 ⟨r,rfl,q1,q2⟩;have HQ:=am (And.intro q1 (And.intro q2 (L8.out.below q1)));obtain⟨y0,y1,y2,y3,y4⟩:=HQ.out.2.2;clear q1 q2;rcases r with _|_)
    | (go_at_call 15;(with_reducible refine(DZ HIH.out (HX.out.2.1.below HQ.out.1) (HX.out.2.2.1.below HQ.out.1) (HX.out.2.2.2.1.below HQ.out.1) (HX.out.2.2.2.2.1.below HQ.out.1) (HX.out.2.2.2.2.2.below HQ.out.1) (HQ.out.2.1 (by simp)) hd).mono ?_);rintro e w7 ⟨r,rfl,q1,q2⟩;have HP:=am (And.intro (uU.out.trans ((HQ.out.1.trans (q1.mono HQ.out.1.size)).mono uU.out.size)) q2);clear q1 q2;rcases r with _|_))
   ·go_ret
    exact⟨false,rfl,uU.out.trans (HQ.out.1.mono uU.out.size),fun h=>by cases h⟩
   ·go_ret
    exact⟨false,rfl,HP.out.1,fun h=>by cases h⟩
   ·go_roundg (((ps.length:Int) - (j+1)).toNat+1)
    case measure=>omega
    case rel=>
     refine⟨j+1,rfl,by omega,by omega,⟨HP.out.1,fun m hm y hy=> ?_⟩,rfl⟩
     rcases Int.lt_or_le (m:Int) j with h'|h'
     ·exact HR.out.2 m h' y hy
     ·obtain rfl:m=j.toNat:=by omega
      rw [HX.out.1] at hy
      injection hy with hy
      subst hy
      exact HP.out.2 (by simp)
  ·have rC:j=ps.length:=by omega
   subst rC
   by_cases h8:ps.length≤10
   ·have Q1:(ps.length:Int)≤10:=by omega
    go_wp2
    go_ret
    refine⟨true,by simp,HR.out.1,fun _=>⟨h8,fun x hx=> ?_⟩⟩
    obtain⟨m,hm,Z4⟩:=List.getElem_of_mem hx
    exact HR.out.2 m (by omega) x (by rw [List.getElem?_eq_getElem hm,Z4])
   ·have Q1:¬((ps.length:Int)≤10):=by omega
    have h8b:decide ((ps.length:Int)≤10)=false:=decide_eq_false Q1
    go_wp2
    go_ret
    exact⟨false,by simp,HR.out.1,fun h=>by cases h⟩
theorem yz:∀(d:Nat),d≤1000→∀{w:World} {A:Option Addr} {c:Nat} {ps:List PT},PL (d+1) w A c ps→fU w→Calls Tryz.prog 5 #[.slice A ps.length c,.int .i64 d] w (B6 w (mx d ps)):=by
 intro d
 induction d with
 | zero=>intro hd w A c ps h hT;exact oG hd (fun d' e=>by omega) h hT
 | succ d ih=>intro hd w A c ps h hT;exact oG hd (fun d' e=>by obtain rfl:d=d':=(by omega);exact ih (by omega)) h hT
end Go.Proofs.YtlglijnaeaonpaaGreatDoor.Lx
end
