/- FnRules: a part of the proof (RWords); in it lines that print.sh printed, those that are used. -/
import Derived.Below
import Derived.Deep.Draws
import Derived.Deep.AppendLies
import Derived.Maps.AppendAt
import Derived.OwnWalk
import Derived.Laws.BytesArg
import Derived.Laws.MakeOwn
import Derived.Laws.OwnMore
import Derived.Deep.OwnRows
import Derived.Tactics
import Derived.Lib.ConvBytes
import Derived.Laws.Slices
import Derived.WalkKit
import Derived.KernelRfl
import Derived.RowKit3
import Derived.Deep.LoopGhost
import Derived.Deep.QuietTactic
import Derived.BigQuiet
import Derived.WideLaws
import Derived.Deep.DeepCutAuto
import Derived.Deep.CutBlock
import Derived.Deep.RegionHeld3
import Derived.Laws.Rows
import Derived.Lib.AppendStr
import Derived.ArgAppend
import Derived.Laws.IdiomCopy
import Derived.RowKit
import Derived.OrdersHeld
import Derived.Laws.BitsLemmas
import Derived.Laws.StructEq
section
set_option maxHeartbeats 8000000
set_option maxRecDepth 100000
set_option linter.unusedVariables false
set_option linter.unusedSimpArgs false
namespace Go.Proofs.YtlglijnaeaonpaaGreatDoorW.aC
open Go.RowKit
structure ak (p:Prop):Prop where mk::(out:p)
theorem am {p:Prop} (h:p):ak p:=⟨h⟩
structure cS (w w' :World):Prop where mk::(out:∃n,w' =w.drewN n)
theorem cS.refl (w:World):cS w w:=⟨⟨0,rfl⟩⟩
theorem cS.step {w w' :World} (h:cS w w') (n:Nat):cS w (w'.drewN n):=by
 obtain⟨m,rfl⟩:=h
 exact⟨⟨m+n,World.drewN_drewN ..⟩⟩
theorem cS.below {w w' :World} (h:cS w w'):Below w.heap.size w w':=by
 obtain⟨n,rfl⟩:=h
 induction n with
 | zero=>exact Below.refl _ _
 | succ n ih=>rw [←World.drew_drewN];exact ih.drew
def rd (xs:List Int) (i:Int):Int:=xs.getD i.toNat 0
def bt (s:ByteArray) (i:Int):Int:=if h:i.toNat<s.size then ((s[i.toNat]'h).toNat:Int) else 0
def bp (k:IntKind) (xs:List Int):List Value:=xs.map fun x=> .int k x
theorem dM (k:IntKind) (xs:List Int):(bp k xs).length=xs.length:=by simp [bp]
theorem qQ (k:IntKind) (xs ys:List Int):bp k (xs++ys)=bp k xs++bp k ys:=by simp [bp]
theorem au {w W:World} (h:Below w.heap.size w W) (o:Obj):Below w.heap.size w (W.alloc o):=h.alloc h.size o
theorem oH {B:Nat} {w W:World} (h:Below B w W):Below B w W.drew:=⟨h.os,h.tape,h.output,h.size,h.block⟩
theorem bn {B:Nat} {w W:World} (h:Below B w W) (n:Nat):Below B w (W.drewN n):=⟨h.os,h.tape,h.output,h.size,h.block⟩
theorem B8 {B:Nat} {w w1 w2:World} (h:Below B w w1) (hB:B≤w1.heap.size) (k:Below w1.heap.size w1 w2):Below B w w2:=
 h.trans ⟨k.os,k.tape,k.output,k.size,fun i hi=>k.block i (Nat.lt_of_lt_of_le hi hB)⟩
theorem mC {w w1:World} (h:Below w.heap.size w w1) (row:Option Nat):w.grownBy w1 row:=⟨h.os,h.tape,h.output,h.size,fun i hi _=>h.block i hi⟩
theorem al {w w1:World} (h:Below w.heap.size w w1) {a:Addr} {v:Value} (hc:w.cell? a=some v):w1.cell? a=some v:=(h.cell (World.block_lt_of_cell? w a hc)).trans hc
theorem add_plain (g j:Nat):(⟨g,0,none⟩:Addr).add j=⟨g,j,none⟩:=by unfold Addr.add;split<;>simp_all
def dU (w:World) (k:IntKind) (A:Option Addr) (n:Nat) (xs:List Int):Prop:=
 xs.length=n∧n≤9223372036854775807∧(0<n→∃ad,A=some ad∧∀j,j<n→w.cell? (ad.add j)=some (.int k (xs.getD j 0)))
theorem dU.below {w w1:World} {k:IntKind} {A:Option Addr} {n:Nat} {xs:List Int} (h:dU w k A n xs) (hb:Below w.heap.size w w1):dU w1 k A n xs:=
 ⟨h.1,h.2.1,fun hn=>by
  obtain⟨ad,e,hc⟩:=h.2.2 hn
  exact⟨ad,e,fun j hj=>al hb (hc j hj)⟩⟩
theorem MP (W:World) (base:Nat) (e:TypeId) (size:Nat):W.ownsRow base e size (.slice none 0 0) 0 []:=⟨by simp,.inl ⟨rfl,rfl⟩⟩
theorem fg {w:World} {base:Nat} {e:TypeId} {size n:Nat} {v:Value} {xs:List Value} (h:w.ownsRow base e size v n xs) (k:Nat) (hk:v.ownBlock=some k):base≤k:=by
 rcases h.2 with ⟨rfl,_⟩|⟨g,cap,cur,rfl,hb,_⟩
 ·simp [Value.ownBlock] at hk
 ·have:g=k:=by simpa [Value.ownBlock] using hk
  omega
theorem RU {w:World} {base:Nat} {e:TypeId} {size n:Nat} {v:Value} {xs:List Value} (h:w.ownsRow base e size v n xs) (k:Nat) (hk:v.ownBlock=some k):k<w.heap.size:=by
 rcases h.2 with ⟨rfl,_⟩|⟨g,cap,cur,rfl,hb,hh,_⟩
 ·simp [Value.ownBlock] at hk
 ·have:g=k:=by simpa [Value.ownBlock] using hk
  subst this
  exact(Array.getElem?_eq_some_iff.1 hh).1
theorem cX {w w1:World} {base:Nat} {e:TypeId} {size n:Nat} {v:Value} {xs:List Value} (h:w.ownsRow base e size v n xs) (hb:Below w.heap.size w w1):w1.ownsRow base e size v n xs:=
 h.kept (mC hb none) (by cases v.ownBlock<;>simp)
theorem qj {w:World} {base n:Nat} {e:TypeId} {k:IntKind} {v:Value} {xs:List Int} (h:w.ownsRow base e 1 v n (bp k xs)):∃A c,v= .slice A n c∧dU w k A n xs:=by
 have hl:xs.length=n:=by have:=h.1;simp [bp] at this;exact this
 rcases Nat.eq_zero_or_pos n with h0|h0
 ·rcases h.2 with ⟨rfl,rfl⟩|⟨g,cap,cur,rfl,_⟩
  ·exact⟨none,0,rfl,hl,by omega,fun hp=>absurd hp (by omega)⟩
  ·exact⟨_,cap,rfl,hl,by omega,fun hp=>absurd hp (by omega)⟩
 ·obtain⟨g,cap,rfl,_,_⟩:=h.form h0
  have hm:n≤9223372036854775807:=by
   rcases h.2 with ⟨_,h1⟩|⟨g',yL,cur,he,_,_,h1,h2,_⟩
   ·omega
   ·simp only [maxLen] at h2
    omega
  refine⟨_,cap,rfl,hl,hm,fun _=>⟨_,rfl,fun j hj=>h.cells (g:=g) rfl j _ ?_⟩⟩
  simp [bp,List.getElem?_eq_getElem (show j<xs.length by omega),List.getD_eq_getElem?_getD]
theorem dP {w:World} {base n:Nat} {e:TypeId} {size:Nat} {v:Value} {xs:List Value} (h:w.ownsRow base e size v n xs):∃A c,v= .slice A n c:=by
 rcases h.2 with ⟨rfl,rfl⟩|⟨g,cap,cur,rfl,_⟩
 ·exact⟨none,0,rfl⟩
 ·exact⟨_,cap,rfl⟩
theorem r9 {P:Program} {w:World} {base n:Nat} {e' src dst e:TypeId} {v:Value} {xs:List Int} (hs:P.underlying src=some (.slice e)) (he:P.underlying e=some (.int .u8)) (hd:P.underlying dst=some .string)
  (h:w.ownsRow base e' 1 v n (bp .u8 xs)):(convert src dst v).run P w= .ok (.string (strOfNums xs)) w:=by
 have hl:xs.length=n:=by have:=h.1;simp [bp] at this;exact this
 rcases h.2 with ⟨rfl,rfl⟩|⟨g,cap,cur,rfl,_⟩
 ·obtain rfl:xs= []:=List.eq_nil_of_length_eq_zero hl
  exact run_convert_bytes_nil w src e hs he 0 0 dst hd
 ·refine run_convert_bytes_arg w src e hs he g 0 n cap xs hl (fun i hi=> ?_) dst hd
  have hc:=h.cells (g:=g) rfl i (.int .u8 (xs.getD i 0)) (by simp [bp,List.getElem?_eq_getElem (show i<xs.length by omega),List.getD_eq_getElem?_getD])
  have ha:(⟨g,0,none⟩:Addr).add i=⟨g,0+i,none⟩:=by unfold Addr.add;split<;>simp_all
  rwa [ha] at hc
section
variable {P:Program} {ops:Array Oper} {rest:List Oper} {o:Oper} {a:Act} {Q:Exit→Act→World→Prop}
theorem wh {w0 W:World} (base:Nat) (qR:o.guard=none) (s x:Operand) (t e:TypeId) (z:Value) (bytes:Nat)
  (ho:o.op= .call {callee:=.builtin .append,args:=#[s,x],argTypes:=#[t,t]})
  (ht:P.underlying t=some (.slice e)) (gF:(P.info? e).map (fun i=>(i.zero,i.size,i.bytes))=some (some z,1,bytes)) (hz:z.cells.size=1) (qS:0<bytes)
  (v:Value) (xs:List Value) (y:Value) (hs:a.eval s=v) (hx:a.eval x= .slice (some ⟨W.heap.size,0,none⟩) 1 1) (h1:y.oneCell' =true)
  (HO:W.ownsRow base e 1 v xs.length xs) (HB:Below base w0 W) (fx:base≤W.heap.size) (hl:(xs.length+1)*bytes≤140737488355328)
  (h:∀v1 w1,w1.ownsRow base e 1 v1 (xs++ [y]).length (xs++ [y])→Below base w0 w1→W.grownBy w1 v.ownBlock→(v1.ownBlock=v.ownBlock∨∃b,v1.ownBlock=some b∧W.heap.size≤b)→wpList P ops Q rest (a.put o.dst v1) w1):
  wpList P ops Q (o::rest) a (W.alloc (.cells #[y] e)):=by
 obtain⟨i0,hi,ku⟩:=Option.map_eq_some_iff.1 gF
 simp only [Prod.mk.injEq] at ku
 obtain⟨sa,o0,sc⟩:=ku
 have hlen:xs.length+1≤140737488355328:=Nat.le_trans (Nat.le_mul_of_pos_right _ qS) hl
 refine wpList_append_own_at (W.alloc (.cells #[y] e)) qR s x t ho base e i0 z 1 bytes ht hi sa o0 sc hz (by omega) v xs.length xs hs (HO.alloc _) ⟨W.heap.size,0,none⟩ 1 1 [y] hx rfl
  (World.news_of_block (cs:=#[y]) (t:=e) (fr:=(0,0)) (heap_alloc_new W _)) (by simpa using h1) (by simp only [maxLen];omega) hl (by simp;omega) ?_
 intro v1 w1 bl hg _ dz
 refine h v1 w1 (by simpa using bl) ((HB.alloc fx _).grown hg (by simp;omega) (fg HO)) (World.grownBy.trans (World.grownBy_alloc W _ _) hg) ?_
 rcases dz with dz|dz
 ·exact .inl dz
 ·exact .inr ⟨_,dz,by simp⟩
theorem cz {w0 W:World} (base:Nat) (qR:o.guard=none) (s x:Operand) (t e:TypeId) (k:IntKind) (bytes:Nat)
  (ho:o.op= .call {callee:=.builtin .append,args:=#[s,x],argTypes:=#[t,t]})
  (ht:P.underlying t=some (.slice e)) (gF:(P.info? e).map (fun i=>(i.zero,i.size,i.bytes))=some (some (.int k 0),1,bytes)) (qS:0<bytes)
  (v:Value) (xs:List Int) (y:Int) (hs:a.eval s=v) (hx:a.eval x= .slice (some ⟨W.heap.size,0,none⟩) 1 1)
  (HO:W.ownsRow base e 1 v xs.length (bp k xs)) (HB:Below base w0 W) (fx:base≤W.heap.size) (hl:(xs.length+1)*bytes≤140737488355328)
  (h:∀v1 w1,w1.ownsRow base e 1 v1 (xs++ [y]).length (bp k (xs++ [y]))→Below base w0 w1→W.grownBy w1 v.ownBlock→(v1.ownBlock=v.ownBlock∨∃b,v1.ownBlock=some b∧W.heap.size≤b)→wpList P ops Q rest (a.put o.dst v1) w1):
  wpList P ops Q (o::rest) a (W.alloc (.cells #[.int k y] e)):=
 wh base qR s x t e (.int k 0) bytes ho ht gF rfl qS v (bp k xs) (.int k y) hs hx rfl (by rw [dM];exact HO) HB fx (by rw [dM];exact hl)
  fun v1 w1 bl hB hg dz=>h v1 w1 (by simpa [bp] using bl) hB hg dz
end
section
variable {P:Program}
theorem B9 (t e:TypeId) (k:IntKind) (bytes:Nat) (ht:P.underlying t=some (.slice e)) (gF:(P.info? e).map (fun i=>(i.zero,i.size,i.bytes))=some (some (.int k 0),1,bytes)) (qS:0<bytes)
  (m:Nat) (hn:m*bytes≤281474976710656):
  ∀W:World,(Instr.makeSlice t (.int .i64 (m:Int)) (.int .i64 (m:Int))).run P W= .ok (.slice (some ⟨W.heap.size,0,none⟩) m m) (W.alloc (.cells (madeCells #[.int k 0] m) e)):=by
 intro W
 have hm:m≤281474976710656:=Nat.le_trans (Nat.le_mul_of_pos_right _ qS) hn
 exact run_make_row' t e (.int k 0) bytes ht gF rfl .i64 .i64 m (by rw [Nat.mul_comm];exact hn) (by omega) W
end
theorem MQ (W:World) (base:Nat) (e:TypeId) (k:IntKind) (xs:List Int) (hb:base≤W.heap.size) (hm:xs.length≤9223372036854775807):
  (W.alloc (.cells (bp k xs).toArray e)).ownsRow base e 1 (.slice (some ⟨W.heap.size,0,none⟩) xs.length xs.length) xs.length (bp k xs):=by
 have h:=World.ownsRow_lit (base:=base) (e:=e) (size:=1) W (bp k xs).toArray xs.length hb (by simpa [maxLen] using hm) (by simp [bp])
 simpa using h
section
variable {P:Program} {ops:Array Oper} {rest:List Oper} {o:Oper} {a:Act} {Q:Exit→Act→World→Prop}
theorem cA {w0 W:World} (base:Nat) (qR:o.guard=none) (s x:Operand) (t e:TypeId) (k:IntKind) (bytes:Nat)
  (ho:o.op= .call {callee:=.builtin .append,args:=#[s,x],argTypes:=#[t,t]})
  (ht:P.underlying t=some (.slice e)) (gF:(P.info? e).map (fun i=>(i.zero,i.size,i.bytes))=some (some (.int k 0),1,bytes)) (qS:0<bytes)
  (v:Value) (xs ys:List Int) (A:Option Addr) (m c:Nat) (hs:a.eval s=v) (hx:a.eval x= .slice A m c)
  (HO:W.ownsRow base e 1 v xs.length (bp k xs)) (HR:dU W k A m ys) (HB:Below base w0 W) (fx:base≤W.heap.size) (hl:(xs.length+m)*bytes≤140737488355328)
  (h:∀v1 w1,w1.ownsRow base e 1 v1 (xs++ys).length (bp k (xs++ys))→Below base w0 w1→W.grownBy w1 v.ownBlock→(v1.ownBlock=v.ownBlock∨∃b,v1.ownBlock=some b∧W.heap.size≤b)→wpList P ops Q rest (a.put o.dst v1) w1):
  wpList P ops Q (o::rest) a W:=by
 obtain⟨i0,hi,ku⟩:=Option.map_eq_some_iff.1 gF
 simp only [Prod.mk.injEq] at ku
 obtain⟨sa,o0,sc⟩:=ku
 have hm:ys.length=m:=HR.1
 have hlen:xs.length+m≤140737488355328:=Nat.le_trans (Nat.le_mul_of_pos_right _ qS) hl
 have bZ:∃v1 w1,(Builtin.append_ #[t,t] o.type #[v,.slice A m c]).run P W= .ok v1 w1∧w1.ownsRow base e 1 v1 (xs++ys).length (bp k (xs++ys))∧W.grownBy w1 v.ownBlock∧(v1.ownBlock=v.ownBlock∨v1.ownBlock=some W.heap.size):=by
  rcases A with _|ad
  ·have h0:m=0:=by
    rcases Nat.eq_zero_or_pos m with h0|h0
    ·exact h0
    ·obtain⟨ad,h,_⟩:=HR.2.2 h0
     cases h
   subst h0
   obtain rfl:ys= []:=List.eq_nil_of_length_eq_zero hm
   refine⟨v,W,?_,by simpa using HO,World.grownBy.refl W _,.inl rfl⟩
   rcases HO.2 with ⟨rfl,hn⟩|⟨g,cap,cur,rfl,_,_,Mr,_⟩
   ·simp [Builtin.append_,run_underlying ht,sizeOf,typeInfo,hi,Builtin.lenOf,Builtin.firstCells]
   ·simp [Builtin.append_,run_underlying ht,sizeOf,typeInfo,hi,Builtin.lenOf,Builtin.firstCells,Mr,storeCells]
  ·have Ca:∀j u,(bp k ys)[j]? =some u→W.cell? (ad.add j)=some u:=by
    intro j u hu
    have hj:j<ys.length:=by
     rcases Nat.lt_or_ge j ys.length with h|h
     ·exact h
     ·simp [bp,List.getElem?_eq_none h] at hu
    obtain⟨ad',h',hc⟩:=HR.2.2 (by omega)
    injection h' with h'
    subst h'
    have:=hc j (by omega)
    simp [bp,List.getElem?_eq_getElem hj] at hu
    subst hu
    rw [this]
    simp [List.getD_eq_getElem?_getD,List.getElem?_eq_getElem hj]
   obtain⟨v1,w1,hr,h2,h3,_,h5⟩:=run_append_own_at (P:=P) W base t o.type e i0 (.int k 0) 1 bytes ht hi sa o0 sc rfl (by omega) v xs.length (bp k xs) HO ad m c (bp k ys) (by simp [bp,hm]) Ca
    (by intro u hu;simp only [bp,List.mem_map] at hu;obtain⟨q,_,rfl⟩:=hu;rfl) (by simp only [maxLen];omega) hl fx
   exact⟨v1,w1,hr,by simpa [bp,hm] using h2,h3,h5⟩
 obtain⟨v1,w1,hr,bl,hg,dz⟩:=bZ
 refine wpList_plain qR fun K hK=> ?_
 unfold Oper.wp execOp
 simp only [ho,resolve,invoke,builtin,Sem.run_bind,Sem.run_pure,Result.andThen_ok,List.map_toArray,List.map_cons,List.map_nil,hs,hx,hr]
 refine hK _ _ (h v1 w1 bl (HB.grown hg fx (fg HO)) hg ?_)
 rcases dz with dz|dz
 ·exact .inl dz
 ·exact .inr ⟨_,dz,Nat.le_refl _⟩
end
def bytesOf (s:ByteArray):List Int:=s.data.toList.map fun b=>(b.toNat:Int)
theorem yM (s:ByteArray):s.data.toList.length=s.size:=by rw [Array.length_toList];rfl
theorem jh (s:ByteArray):(bytesOf s).length=s.size:=by rw [bytesOf,List.length_map,yM]
def eX {α:Type} (R:α→List Value→Prop) (size:Nat) (ps:List α) (cs:List Value):Prop:=
 cs.length=ps.length*size∧∀j p,ps[j]? =some p→R p ((cs.drop (j*size)).take size)
theorem eX.none {α:Type} (R:α→List Value→Prop) (size:Nat):eX R size [] []:=⟨by simp,fun j p h=>by simp at h⟩
theorem eX.snoc {α:Type} {R:α→List Value→Prop} {size:Nat} {ps:List α} {cs c:List Value} {p:α} (h:eX R size ps cs) (hp:R p c) (hc:c.length=size):eX R size (ps++ [p]) (cs++c):=by
 refine⟨by rw [List.length_append,h.1,hc,List.length_append,List.length_singleton,Nat.add_mul,Nat.one_mul],fun j q hq=> ?_⟩
 rcases Nat.lt_or_ge j ps.length with hj|hj
 ·rw [List.getElem?_append_left hj] at hq
  have h1:j*size+size≤cs.length:=by rw [h.1,←Nat.succ_mul];exact Nat.mul_le_mul_right _ hj
  have h2:=h.2 j q hq
  rw [List.drop_append_of_le_length (by omega),List.take_append_of_le_length (by rw [List.length_drop];omega)]
  exact h2
 ·have hj' :j=ps.length:=by
   have:=(List.getElem?_eq_some_iff.1 hq).1
   rw [List.length_append,List.length_singleton] at this
   omega
  subst hj'
  have hq' :p=q:=by simpa using hq
  subst hq'
  rw [←h.1,List.drop_left,←hc,List.take_length]
  exact hp
theorem eX.pg {α:Type} {R R' :α→List Value→Prop} {size:Nat} {ps:List α} {cs:List Value} (h:eX R size ps cs) (hR:∀p c,R p c→R' p c):eX R' size ps cs:=⟨h.1,fun j p hj=>hR _ _ (h.2 j p hj)⟩
def cr {α:Type} (R:α→List Value→Prop) (size:Nat) (w:World) (A:Option Addr) (n:Nat) (ps:List α):Prop:=
 ps.length=n∧n≤9223372036854775807∧(0<n→∃ad,A=some ad∧∀j p,ps[j]? =some p→∃c,c.length=size∧R p c∧∀i u,c[i]? =some u→w.cell? (ad.add (j*size+i))=some u)
theorem cr.aek {α:Type} {R:α→List Value→Prop} {size:Nat} {w:World} {A:Option Addr} {n:Nat} {ps:List α} (h:cr R size w A n ps) (d:α) (i:Int) (h0:0≤i) (h1:i<n):
  ∃ad c,A=some ad∧c.length=size∧R (ps.getD i.toNat d) c∧∀j u,c[j]? =some u→w.cell? (ad.add (i.toNat*size+j))=some u:=by
 obtain⟨ad,e,hc⟩:=h.2.2 (by omega)
 have hl:i.toNat<ps.length:=by have:=h.1;omega
 obtain⟨c,hs,hr,bR⟩:=hc i.toNat _ (List.getElem?_eq_getElem hl)
 refine⟨ad,c,e,hs,?_,bR⟩
 rw [List.getD_eq_getElem?_getD,List.getElem?_eq_getElem hl]
 exact hr
theorem cr.pg {α:Type} {R R' :α→List Value→Prop} {size:Nat} {w w1:World} {A:Option Addr} {n:Nat} {ps:List α} (h:cr R size w A n ps) (hb:Below w.heap.size w w1) (hR:∀p c,R p c→R' p c):cr R' size w1 A n ps:=
 ⟨h.1,h.2.1,fun hn=>by
  obtain⟨ad,e,hc⟩:=h.2.2 hn
  refine⟨ad,e,fun j p hj=> ?_⟩
  obtain⟨c,hs,hr,bR⟩:=hc j p hj
  exact⟨c,hs,hR _ _ hr,fun i u hu=>al hb (bR i u hu)⟩⟩
theorem jV {α:Type} {R:α→List Value→Prop} {w:World} {base n size:Nat} {e:TypeId} {v:Value} {ps:List α} {cs:List Value} (h:w.ownsRow base e size v n cs) (hR:eX R size ps cs) (hn:ps.length=n):
  ∃A c,v= .slice A n c∧cr R size w A n ps:=by
 rcases Nat.eq_zero_or_pos n with h0|h0
 ·rcases h.2 with ⟨rfl,rfl⟩|⟨g,cap,cur,rfl,_⟩
  ·exact⟨none,0,rfl,hn,by omega,fun hp=>absurd hp (by omega)⟩
  ·exact⟨_,cap,rfl,hn,by omega,fun hp=>absurd hp (by omega)⟩
 ·obtain⟨g,cap,rfl,_,_⟩:=h.form h0
  have hm:n≤9223372036854775807:=by
   rcases h.2 with ⟨_,h1⟩|⟨g',yL,cur,he,_,_,h1,h2,_⟩
   ·omega
   ·simp only [maxLen] at h2
    omega
  refine⟨_,cap,rfl,hn,hm,fun _=>⟨_,rfl,fun j p hj=>⟨(cs.drop (j*size)).take size,?_,hR.2 j p hj,fun i u hu=> ?_⟩⟩⟩
  ·have D8:=(List.getElem?_eq_some_iff.1 hj).1
   have h1:j*size+size≤cs.length:=by rw [hR.1,←Nat.succ_mul];exact Nat.mul_le_mul_right _ D8
   rw [List.length_take,List.length_drop]
   omega
  ·refine h.cells (g:=g) rfl _ u ?_
   rw [List.getElem?_take] at hu
   split at hu
   ·rw [List.getElem?_drop] at hu
    exact hu
   ·cases hu
theorem cf (ad:Addr) (m j:Nat) (hj:0<j):ad.add (m+j)=⟨(ad.add m).block,(ad.add m).off+j,none⟩:=by
 unfold Addr.add
 by_cases hm:m=0
 ·subst hm
  simp [Nat.ne_of_gt hj]
 ·simp [hm,Nat.add_assoc]
section
variable {P:Program} {ops:Array Oper} {rest:List Oper} {o:Oper} {a:Act} {Q:Exit→Act→World→Prop}
theorem di {w0 W:World} (base:Nat) (qR:o.guard=none) (s x:Operand) (t e:TypeId) (z:Value) (size bytes:Nat)
  (ho:o.op= .call {callee:=.builtin .append,args:=#[s,x],argTypes:=#[t,t]})
  (ht:P.underlying t=some (.slice e)) (gF:(P.info? e).map (fun i=>(i.zero,i.size,i.bytes))=some (some z,size,bytes)) (hz:z.cells.size=size) (mb:0<size) (qS:0<bytes)
  (v:Value) (n:Nat) (xs ys:List Value) (hs:a.eval s=v) (hx:a.eval x= .slice (some ⟨W.heap.size,0,none⟩) 1 1) (hys:ys.length=size) (h1:∀u∈ys,u.oneCell' =true)
  (HO:W.ownsRow base e size v n xs) (HB:Below base w0 W) (fx:base≤W.heap.size) (hl:(n+1)*bytes≤140737488355328)
  (h:∀v1 w1,w1.ownsRow base e size v1 (n+1) (xs++ys)→Below base w0 w1→W.grownBy w1 v.ownBlock→(v1.ownBlock=v.ownBlock∨∃b,v1.ownBlock=some b∧W.heap.size≤b)→wpList P ops Q rest (a.put o.dst v1) w1):
  wpList P ops Q (o::rest) a (W.alloc (.cells ys.toArray e)):=by
 obtain⟨i0,hi,ku⟩:=Option.map_eq_some_iff.1 gF
 simp only [Prod.mk.injEq] at ku
 obtain⟨sa,o0,sc⟩:=ku
 have hlen:n+1≤140737488355328:=Nat.le_trans (Nat.le_mul_of_pos_right _ qS) hl
 refine wpList_append_own_at (W.alloc (.cells ys.toArray e)) qR s x t ho base e i0 z size bytes ht hi sa o0 sc hz mb v n xs hs (HO.alloc _) ⟨W.heap.size,0,none⟩ 1 1 ys hx (by rw [hys];simp)
  (by simpa using World.news_of_block (cs:=ys.toArray) (t:=e) (fr:=(0,0)) (heap_alloc_new W (.cells ys.toArray e))) h1 (by simp only [maxLen];omega) hl (by simp;omega) ?_
 intro v1 w1 bl hg _ dz
 refine h v1 w1 bl ((HB.alloc fx _).grown hg (by simp;omega) (fg HO)) (World.grownBy.trans (World.grownBy_alloc W _ _) hg) ?_
 rcases dz with dz|dz
 ·exact .inl dz
 ·exact .inr ⟨_,dz,by simp⟩
end
theorem dJ {w:World} {base:Nat} {e t:TypeId} {size n g:Nat} {v:Value} {xs:List Value} {cs:Array Value} (h:w.ownsRow base e size v n xs) (hg:w.heap[g]? =some (.cells cs t (0,0))) (jJ:e≠t):some g≠v.ownBlock:=by
 rcases h.2 with ⟨rfl,_⟩|⟨g',cap,cur,rfl,_,hh,_⟩
 ·simp [Value.ownBlock]
 ·intro he
  have:g=g':=by simpa [Value.ownBlock] using he
  subst this
  rw [hg] at hh
  injection hh with hh
  injection hh with _ ht
  exact jJ ht.symm
theorem de {w:World} {base:Nat} {e:TypeId} {size n:Nat} {v:Value} {xs:List Value} (h:w.ownsRow base e size v n xs) {p:Addr} (jJ:some p.block≠v.ownBlock) (u:Value):(w.setCell p u).ownsRow base e size v n xs:=by
 obtain⟨h1,h2⟩:=h
 refine⟨h1,?_⟩
 rcases h2 with h2|⟨g,cap,cur,rfl,hg,hh,r⟩
 ·exact .inl h2
 ·exact .inr ⟨g,cap,cur,rfl,hg,by rw [Below.heap_setCell _ _ _ _ (fun e=>jJ (by rw [e];rfl))];exact hh,r⟩
theorem cj {w:World} {g:Nat} {t:TypeId} {cs:Array Value} (h:w.heap[g]? =some (.cells cs t (0,0))) (i:Nat) (u:Value):(w.setCell ⟨g,i,none⟩ u).heap[g]? =some (.cells (cs.setIfInBounds i u) t (0,0)):=by
 simp [World.setCell,Array.getElem?_modify,h]
theorem ee {w:World} {g:Nat} {t:TypeId} {cs:Array Value} (h:w.heap[g]? =some (.cells cs t (0,0))) {p:Addr} (hp:g≠p.block) (u:Value):(w.setCell p u).heap[g]? =some (.cells cs t (0,0)):=(Below.heap_setCell w p u g hp).trans h
theorem cT {w:World} {g:Nat} {o:Obj} (h:w.heap[g]? =some o):g<w.heap.size:=(Array.getElem?_eq_some_iff.1 h).1
theorem ao {w:World} {g:Nat} {t:TypeId} {cs:Array Value} (h:w.heap[g]? =some (.cells cs t (0,0))) (i:Nat):w.cell? ⟨g,i,none⟩=cs[i]?:=cell_of_row w g i cs t (0,0) h
theorem ai {w:World} {g:Nat} {t:TypeId} {cs:Array Value} (h:w.heap[g]? =some (.cells cs t (0,0))) (i:Nat):w.frozen? ⟨g,i,none⟩=false:=by simp [World.frozen?,h]
theorem cE {w w1:World} {g:Nat} {o:Obj} {row:Option Nat} (h:w.heap[g]? =some o) (hg:w.grownBy w1 row) (jJ:some g≠row):w1.heap[g]? =some o:=(hg.block g (cT h) jJ).trans h
theorem qk {w:World} {g g' :Nat} {t t' :TypeId} {cs Is :Array Value} (h:w.heap[g]? =some (.cells cs t (0,0))) (h' :w.heap[g']? =some (.cells Is t' (0,0))) (jJ:t≠t'):g≠g':=by
 rintro rfl
 rw [h] at h'
 injection h' with h'
 injection h' with _ ht
 exact jJ ht
def aw (w w' :World) (g:Nat) (row:Option Nat):Prop:=w.heap.size≤w'.heap.size∧∀i,i<w.heap.size→i≠g→some i≠row→w'.heap[i]? =w.heap[i]?
theorem aw.refl (w:World) (g:Nat) (row:Option Nat):aw w w g row:=⟨Nat.le_refl _,fun _ _ _ _=>rfl⟩
theorem aw.iz {w w1:World} {row:Option Nat} (h:w.grownBy w1 row) (g:Nat):aw w w1 g row:=⟨h.size,fun i hi _ hr=>h.block i hi hr⟩
theorem aw.fh {w w1:World} (h:Below w.heap.size w w1) (g:Nat) (row:Option Nat):aw w w1 g row:=⟨h.size,fun i hi _ _=>h.block i hi⟩
theorem aw.gG {w w1:World} {g:Nat} {row:Option Nat} (h:aw w w1 g row) (j:Nat) (u:Value):aw w (w1.setCell ⟨g,j,none⟩ u) g row:=
 ⟨by simpa [World.setCell] using h.1,fun i hi hg hr=>(Below.heap_setCell w1 ⟨g,j,none⟩ u i hg).trans (h.2 i hi hg hr)⟩
theorem aw.trans {w w1 w2:World} {g:Nat} {row RV:Option Nat} (h:aw w w1 g row) (k:aw w1 w2 g RV) (hr:RV=row∨∃b,RV=some b∧w.heap.size≤b):aw w w2 g row:=
 ⟨Nat.le_trans h.1 k.1,fun i hi hg hn=>by
  refine(k.2 i (Nat.lt_of_lt_of_le hi h.1) hg ?_).trans (h.2 i hi hg hn)
  rcases hr with rfl|⟨b,rfl,hb⟩
  ·exact hn
  ·intro e
   injection e with e
   omega⟩
theorem aw.eC {w w1:World} {g g' :Nat} {row:Option Nat} {o:Obj} (h:aw w w1 g row) (hb:w.heap[g']? =some o) (hg:g' ≠g) (hr:some g' ≠row):w1.heap[g']? =some o:=(h.2 g' (cT hb) hg hr).trans hb
theorem aw.own {w w1:World} {g:Nat} {row:Option Nat} {base:Nat} {e:TypeId} {size n:Nat} {v:Value} {xs:List Value} (h:aw w w1 g row) (ho:w.ownsRow base e size v n xs) (hg:v.ownBlock≠some g) (hr:v.ownBlock=none∨v.ownBlock≠row):w1.ownsRow base e size v n xs:=by
 obtain⟨h1,h2⟩:=ho
 refine⟨h1,?_⟩
 rcases h2 with h2|⟨b,cap,cur,rfl,hb,hh,r⟩
 ·exact .inl h2
 ·refine .inr ⟨b,cap,cur,rfl,hb,h.eC hh ?_ ?_,r⟩
  ·intro e
   exact hg (by rw [←e];rfl)
  ·rcases hr with hr|hr
   ·simp [Value.ownBlock] at hr
   ·exact hr
def Ev {α:Type} (g:Nat→Option α) (r:α):Prop:=∃K,∀k,K≤k→g k=some r
section
variable {P:Program} {ops:Array Oper} {o:Oper} {a:Act} {Q:Exit→Act→World→Prop} {K:Act→World→Prop}
end
theorem oI {w:World} {base mc :Nat} {e:TypeId} {size n:Nat} {v:Value} {xs:List Value} (h:w.ownsRow base e size v n xs) (hb:mc ≤base):w.ownsRow mc e size v n xs:=by
 obtain⟨h1,h2⟩:=h
 refine⟨h1,?_⟩
 rcases h2 with h2|⟨g,cap,cur,rfl,hg,r⟩
 ·exact .inl h2
 ·exact .inr ⟨g,cap,cur,rfl,Nat.le_trans hb hg,r⟩
section
variable {α:Type} {enc:α→Value} {d:α}
def It (enc:α→Value) (xs:List α):List Value:=xs.map enc
def ra (d:α) (xs:List α) (i:Int):α:=xs.getD i.toNat d
theorem yN (xs:List α):(It enc xs).length=xs.length:=by simp [It]
def nB (enc:α→Value) (d:α) (w:World) (A:Option Addr) (n:Nat) (xs:List α):Prop:=
 xs.length=n∧n≤9223372036854775807∧(0<n→∃ad,A=some ad∧∀j,j<n→w.cell? (ad.add j)=some (enc (xs.getD j d)))
theorem nB.at_ {w:World} {A:Option Addr} {n:Nat} {xs:List α} (h:nB enc d w A n xs) (i:Int) (h0:0≤i) (h1:i<n):∃ad,A=some ad∧w.cell? (ad.add i.toNat)=some (enc (ra d xs i)):=by
 obtain⟨ad,e,hc⟩:=h.2.2 (by omega)
 exact⟨ad,e,hc _ (by omega)⟩
end
section
variable {α:Type} {P:Program} {ops:Array Oper} {rest:List Oper} {o:Oper} {a:Act} {Q:Exit→Act→World→Prop}
end
theorem bm {w:World} {g:Nat} {o:Obj} (h:w.heap[g]? =some o) (o' :Obj):(w.alloc o').heap[g]? =some o:=(Below.heap_alloc w o' g (cT h)).trans h
theorem cL {w:World} {g:Nat} {o:Obj} (h:w.heap[g]? =some o):w.drew.heap[g]? =some o:=h
theorem cg {w:World} {g:Nat} {o:Obj} (h:w.heap[g]? =some o) (n:Nat):(w.drewN n).heap[g]? =some o:=h
theorem gX {w w1:World} {g:Nat} {o:Obj} (h:w.heap[g]? =some o) (hb:Below w.heap.size w w1):w1.heap[g]? =some o:=(hb.block g (cT h)).trans h
theorem MR (w:World) (o:Obj):(w.alloc o).heap[w.heap.size]? =some o:=heap_alloc_new w o
section
variable {P:Program}
end
theorem Cb {w:World} {base n m c size:Nat} {e:TypeId} {A:Option Addr} {xs:List Value} (h:w.ownsRow base e size (.slice A m c) n xs):m≤c:=by
 rcases h.2 with ⟨he,_⟩|⟨g,cap,cur,he,_,_,Mr,_⟩
 ·injection he with _ h2 h3
  omega
 ·injection he with _ h2 h3
  omega
def jW {α:Type} (R:α→List Value→Prop) (e:TypeId) (size:Nat) (w:World) (base:Nat) (v:Value) (ps:List α):Prop:=
 ∃inner,w.ownsRow base e size v ps.length inner∧eX R size ps inner
section
variable {α:Type} {R R' :α→List Value→Prop} {e:TypeId} {size:Nat} {w w1:World} {base:Nat} {v:Value} {ps:List α}
theorem jW.pg (h:jW R e size w base v ps) (hR:∀p c,R p c→R' p c):jW R' e size w base v ps:=by
 obtain⟨inner,ho,hr⟩:=h
 exact⟨inner,ho,hr.pg hR⟩
theorem jW.reads (h:jW R e size w base v ps):∃A c,v= .slice A ps.length c∧ps.length≤c∧cr R size w A ps.length ps:=by
 obtain⟨inner,ho,hr⟩:=h
 obtain⟨A,c,rfl,ael⟩:=jV ho hr rfl
 exact⟨A,c,rfl,Cb ho,ael⟩
theorem jW.Iu (h:jW R e size w base v ps) {g:Nat} {t:TypeId} {cells:Array Value} (hb:w.heap[g]? =some (.cells cells t (0,0))) (ht:e≠t):some g≠v.ownBlock:=by
 obtain⟨inner,ho,hr⟩:=h
 exact dJ ho hb ht
end
section
variable {P:Program} {ops:Array Oper} {rest:List Oper} {o:Oper} {a:Act} {Q:Exit→Act→World→Prop} {α:Type} {R:α→List Value→Prop}
end
section
variable {P:Program} {ops:Array Oper} {o:Oper} {a:Act} {Q:Exit→Act→World→Prop} {K:Act→World→Prop} {α:Type} {R:α→List Value→Prop}
end
theorem cr.RW {α:Type} {R:α→List Value→Prop} {size:Nat} {w:World} {ad:Addr} {n:Nat} {ps:List α} (h:cr R size w (some ad) n ps):
  ∃inner,eX R size ps inner∧∀j u,inner[j]? =some u→w.cell? (ad.add j)=some u:=by
 have key:∀m,m≤ps.length→∃inner,eX R size (ps.take m) inner∧∀j u,inner[j]? =some u→w.cell? (ad.add j)=some u:=by
  intro m
  induction m with
  | zero=>exact fun _=>⟨[],eX.none _ _,fun j u hu=>by simp at hu⟩
  | succ m ih=>
   intro hm
   obtain⟨inner,hr,hc⟩:=ih (by omega)
   obtain⟨ad',he,bR⟩:=h.2.2 (by have:=h.1;omega)
   injection he with he
   subst he
   obtain⟨c,kx,hp,yO⟩:=bR m _ (List.getElem?_eq_getElem (show m<ps.length by omega))
   refine⟨inner++c,?_,fun j u hu=> ?_⟩
   ·rw [List.take_succ_eq_append_getElem (show m<ps.length by omega)]
    exact hr.snoc hp kx
   ·have uk:inner.length=m*size:=by rw [hr.1,List.length_take,Nat.min_eq_left (by omega)]
    rcases Nat.lt_or_ge j inner.length with hj|hj
    ·rw [List.getElem?_append_left hj] at hu
     exact hc j u hu
    ·rw [List.getElem?_append_right hj] at hu
     have:=yO (j - inner.length) u hu
     rwa [uk,Nat.add_sub_cancel' (by omega)] at this
 obtain⟨inner,hr,hc⟩:=key ps.length (Nat.le_refl _)
 rw [List.take_length] at hr
 exact⟨inner,hr,hc⟩
section
variable {α:Type} {P:Program}
theorem yP {w:World} {k:IntKind} {A:Option Addr} {n:Nat} {xs:List Int}:dU w k A n xs↔nB (Value.int k) (0:Int) w A n xs:=Iff.rfl
end
section
variable {P:Program} {ops:Array Oper} {rest:List Oper} {o:Oper} {a:Act} {Q:Exit→Act→World→Prop}
theorem dj {w0 W:World} (base:Nat) (qR:o.guard=none) (s x:Operand) (t u e:TypeId)
  (ho:o.op= .call {callee:=.builtin .append,args:=#[s,x],argTypes:=#[t,u]})
  (ht:P.underlying t=some (.slice e)) (hu:P.underlying u=some .string) (gF:(P.info? e).map (fun i=>(i.zero,i.size,i.bytes))=some (some (.int .u8 0),1,1))
  (v:Value) (xs:List Int) (y:ByteArray) (hs:a.eval s=v) (hx:a.eval x= .string y)
  (HO:W.ownsRow base e 1 v xs.length (bp .u8 xs)) (HB:Below base w0 W) (fx:base≤W.heap.size) (hl:xs.length+y.size≤140737488355328)
  (h:∀v1 w1,w1.ownsRow base e 1 v1 (xs++bytesOf y).length (bp .u8 (xs++bytesOf y))→Below base w0 w1→W.grownBy w1 v.ownBlock→wpList P ops Q rest (a.put o.dst v1) w1):
  wpList P ops Q (o::rest) a W:=by
 obtain⟨i0,hi,ku⟩:=Option.map_eq_some_iff.1 gF
 simp only [Prod.mk.injEq] at ku
 obtain⟨sa,o0,sc⟩:=ku
 refine Lib.wpList_append_own_string W qR s x t u ho base e i0 ht hu hi sa o0 sc v xs.length (bp .u8 xs) hs HO y hx (by simp only [maxLen];omega) hl fx ?_
 intro v1 w1 bl hg _
 have wi:(xs++bytesOf y).length=xs.length+y.size:=by rw [List.length_append,jh]
 have hc:bp .u8 (xs++bytesOf y)=bp .u8 xs++Lib.strCells y:=by
  rw [qQ]
  congr 1
  simp [bp,bytesOf,Lib.strCells]
 exact h v1 w1 (by rw [wi,hc];exact bl) (HB.grown hg fx (fg HO)) hg
end
structure Kd (α:Type) where
 sz:Nat
 E:List Nat
 K:World→α→List Value→Prop
 M:World→Nat→(Nat→Prop)→α→List Value→Prop
 ji:∀{w x cs},K w x cs→cs.length=sz
 jk:∀{w x cs},K w x cs→∀u∈cs,u.oneCell' =true
 eO:∀{w w1:World} {x cs},Below w.heap.size w w1→K w x cs→K w1 x cs
 fm:∀{w base ok x cs},M w base ok x cs→K w x cs
 dV:∀{w base ok yQ x cs},(∀k,ok k→yQ k)→M w base ok x cs→M w base yQ x cs
 ef:∀{w:World} {base ok x cs},M w base ok x cs→M w base (fun k=>ok k∧base≤k∧k<w.heap.size∧∃q,q∈E∧∃cells,w.heap[k]? =some (.cells cells q (0,0))) x cs
 fy:∀{w w1:World} {base ok x cs},(∀k,ok k→w1.heap[k]? =w.heap[k]?)→M w base ok x cs→M w1 base ok x cs
 ft:∀{w base mc ok x cs},mc ≤base→M w base ok x cs→M w mc ok x cs
theorem Iv {w w1:World} {base:Nat} {e:TypeId} {size n:Nat} {v:Value} {xs:List Value} (h:w.ownsRow base e size v n xs) (hm:∀k,v.ownBlock=some k→w1.heap[k]? =w.heap[k]?):w1.ownsRow base e size v n xs:=by
 obtain⟨h1,h2⟩:=h
 refine⟨h1,?_⟩
 rcases h2 with h2|⟨g,cap,cur,rfl,hg,hh,r⟩
 ·exact .inl h2
 ·exact .inr ⟨g,cap,cur,rfl,hg,(hm g (by simp [Value.ownBlock])).trans hh,r⟩
theorem ql {w:World} {base:Nat} {e:TypeId} {size n:Nat} {v:Value} {xs:List Value} (h:w.ownsRow base e size v n xs) (k:Nat) (hk:v.ownBlock=some k):∃cells,w.heap[k]? =some (.cells cells e (0,0)):=by
 rcases h.2 with ⟨rfl,_⟩|⟨g,cap,cur,rfl,hg,hh,r⟩
 ·simp [Value.ownBlock] at hk
 ·have:g=k:=by simpa [Value.ownBlock] using hk
  subst this
  exact⟨cur,hh⟩
namespace Kd
def C {α:Type} (d:Kd α) (w:World) (A:Option Addr) (n:Nat) (xs:List α):Prop:=cr (d.K w) d.sz w A n xs
def R {α:Type} (d:Kd α) (e:Nat) (w:World) (base:Nat) (ok:Nat→Prop) (v:Value) (xs:List α):Prop:=
 (∀k,v.ownBlock=some k→ok k)∧jW (d.M w base (fun k=>ok k∧some k≠v.ownBlock)) e d.sz w base v xs
section
variable {α:Type} {d:Kd α} {e:Nat} {w w1:World} {base:Nat} {ok yQ :Nat→Prop} {v:Value} {xs:List α}
theorem cG {A:Option Addr} {n:Nat} (h:d.C w A n xs) (hb:Below w.heap.size w w1):d.C w1 A n xs:=cr.pg h hb (fun _ _ hp=>d.eO hb hp)
theorem oJ (h:d.R e w base ok v xs) (sd:∀k,ok k→yQ k):d.R e w base yQ v xs:=⟨fun k hk=>sd k (h.1 k hk),h.2.pg (fun _ _ hp=>d.dV (fun k hk=>⟨sd k hk.1,hk.2⟩) hp)⟩
theorem wj (h:d.R e w base ok v xs):d.R e w base (fun k=>ok k∧base≤k∧k<w.heap.size∧∃q,q∈e::d.E∧∃cells,w.heap[k]? =some (.cells cells q (0,0))) v xs:=by
 obtain⟨h0,inner,ho,hr⟩:=h
 refine⟨fun k hk=> ?_,inner,ho,hr.pg (fun _ _ hp=>d.dV (fun k hk=> ?_) (d.ef hp))⟩
 ·obtain⟨cells,hc⟩:=ql ho k hk
  exact⟨h0 k hk,fg ho k hk,RU ho k hk,e,List.mem_cons_self,cells,hc⟩
 ·obtain⟨⟨h1,h2⟩,h3,h4,q,hq,hc⟩:=hk
  exact⟨⟨h1,h3,h4,q,List.mem_cons_of_mem _ hq,hc⟩,h2⟩
theorem Iw (h:d.R e w base ok v xs) (hm:∀k,ok k→w1.heap[k]? =w.heap[k]?):d.R e w1 base ok v xs:=by
 obtain⟨h0,inner,ho,hr⟩:=h
 exact⟨h0,inner,Iv ho (fun k hk=>hm k (h0 k hk)),hr.pg (fun _ _ hp=>d.fy (fun k hk=>hm k hk.1) hp)⟩
theorem lu {mc :Nat} (h:d.R e w base ok v xs) (hb:mc ≤base):d.R e w mc ok v xs:=by
 obtain⟨h0,inner,ho,hr⟩:=h
 exact⟨h0,inner,oI ho hb,hr.pg (fun _ _ hp=>d.ft hb hp)⟩
theorem Cc (h:d.R e w base ok v xs) (hm:∀k,ok k→k<w.heap.size→w1.heap[k]? =w.heap[k]?):d.R e w1 base ok v xs:=
 oJ (Iw (wj h) (fun k hk=>hm k hk.1 hk.2.2.1)) (fun _ hk=>hk.1)
theorem RX {x:α} {cs:List Value} (h:d.M w base ok x cs) (hm:∀k,ok k→k<w.heap.size→w1.heap[k]? =w.heap[k]?):d.M w1 base ok x cs:=
 d.dV (fun _ hk=>hk.1) (d.fy (fun k hk=>hm k hk.1 hk.2.2.1) (d.ef h))
theorem nC (h:d.R e w base ok v xs) (hb:Below w.heap.size w w1):d.R e w1 base ok v xs:=Cc h (fun k _ hk=>hb.block k hk)
theorem MS {x:α} {cs:List Value} (h:d.M w base ok x cs) (hb:Below w.heap.size w w1):d.M w1 base ok x cs:=RX h (fun k _ hk=>hb.block k hk)
theorem me (h:d.R e w base ok v xs) {p:Addr} (sd:∀k,ok k→k≠p.block) (u:Value):d.R e (w.setCell p u) base ok v xs:=Cc h (fun k ho _=>Below.heap_setCell w p u k (sd k ho))
theorem Ix (h:d.R e w base ok v xs) {g:Nat} (hk:aw w w1 g none) (sd:∀k,ok k→k≠g):d.R e w1 base ok v xs:=Cc h (fun k ho eh=>hk.2 k eh (sd k ho) (by simp))
theorem wk (h:d.R e w base ok v xs) {g t:Nat} {cells:Array Value} (hb:w.heap[g]? =some (.cells cells t (0,0))) (ht:∀q,q∈e::d.E→q≠t):d.R e w base (fun k=>ok k∧k≠g) v xs:=
 oJ (wj h) (fun k hk=>⟨hk.1,by
  obtain⟨_,_,_,q,hq,aem,hc⟩:=hk
  rintro rfl
  rw [hc] at hb
  injection hb with hb
  injection hb with _ hb
  exact ht q hq hb⟩)
theorem wm (h:d.R e w base ok v xs):∃A c,v= .slice A xs.length c∧xs.length≤c∧d.C w A xs.length xs:=by
 obtain⟨A,c,he,hl,hr⟩:=jW.reads h.2
 exact⟨A,c,he,hl,hr.pg (Below.refl _ _) (fun _ _ hp=>d.fm hp)⟩
theorem nD (h:d.R e w base ok v xs):∃A c,v= .slice A xs.length c:=by
 obtain⟨A,c,he,_⟩:=wm h
 exact⟨A,c,he⟩
theorem Gi (h:d.R e w base ok v xs) {g t:Nat} {cells:Array Value} (hb:w.heap[g]? =some (.cells cells t (0,0))) (ht:e≠t):some g≠v.ownBlock:=jW.Iu h.2 hb ht
end
def scalar {α:Type} (enc:α→Value) (h1:∀x,(enc x).oneCell' =true):Kd α where
 sz:=1
 E:=[]
 K:=fun _ x cs=>cs= [enc x]
 M:=fun _ _ _ x cs=>cs= [enc x]
 ji:=fun h=>by rw [h];rfl
 jk:=fun h u hu=>by
  rw [h] at hu
  rw [List.mem_singleton.1 hu]
  exact h1 _
 eO:=fun _ h=>h
 fm:=fun h=>h
 dV:=fun _ h=>h
 ef:=fun h=>h
 fy:=fun _ h=>h
 ft:=fun _ h=>h
def int (k:IntKind):Kd Int:=scalar (Value.int k) (fun _=>rfl)
def bool:Kd Bool:=scalar Value.bool (fun _=>rfl)
def string:Kd ByteArray:=scalar Value.string (fun _=>rfl)
def slice {α:Type} (e:Nat) (d:Kd α):Kd (List α) where
 sz:=1
 E:=e::d.E
 K:=fun w xs cs=>∃A c,cs= [.slice A xs.length c]∧xs.length≤c∧d.C w A xs.length xs
 M:=fun w base ok xs cs=>∃v,cs= [v]∧d.R e w base ok v xs
 ji:=by
  rintro w x cs ⟨A,c,rfl,_⟩
  rfl
 jk:=by
  rintro w x cs ⟨A,c,rfl,_⟩ u hu
  rw [List.mem_singleton.1 hu]
  rfl
 eO:=by
  rintro w w1 x cs hb ⟨A,c,rfl,hl,hr⟩
  exact⟨A,c,rfl,hl,cG hr hb⟩
 fm:=by
  rintro w base ok x cs ⟨v,rfl,h⟩
  obtain⟨A,c,rfl,hl,hr⟩:=wm h
  exact⟨A,c,rfl,hl,hr⟩
 dV:=by
  rintro w base ok yQ x cs sd ⟨v,rfl,h⟩
  exact⟨v,rfl,oJ h sd⟩
 ef:=by
  rintro w base ok x cs ⟨v,rfl,h⟩
  exact⟨v,rfl,wj h⟩
 fy:=by
  rintro w w1 base ok x cs hm ⟨v,rfl,h⟩
  exact⟨v,rfl,Iw h hm⟩
 ft:=by
  rintro w base mc ok x cs hb ⟨v,rfl,h⟩
  exact⟨v,rfl,lu h hb⟩
def pair {α β:Type} (a:Kd α) (b:Kd β):Kd (α×β) where
 sz:=a.sz+b.sz
 E:=a.E++b.E
 K:=fun w x cs=>∃c0 c1,cs=c0++c1∧a.K w x.1 c0∧b.K w x.2 c1
 M:=fun w base ok x cs=>∃c0 c1,cs=c0++c1∧a.M w base ok x.1 c0∧b.M w base ok x.2 c1
 ji:=by
  rintro w x cs ⟨c0,c1,rfl,h0,h1⟩
  rw [List.length_append,a.ji h0,b.ji h1]
 jk:=by
  rintro w x cs ⟨c0,c1,rfl,h0,h1⟩ u hu
  rcases List.mem_append.1 hu with hu|hu
  ·exact a.jk h0 u hu
  ·exact b.jk h1 u hu
 eO:=by
  rintro w w1 x cs hb ⟨c0,c1,rfl,h0,h1⟩
  exact⟨c0,c1,rfl,a.eO hb h0,b.eO hb h1⟩
 fm:=by
  rintro w base ok x cs ⟨c0,c1,rfl,h0,h1⟩
  exact⟨c0,c1,rfl,a.fm h0,b.fm h1⟩
 dV:=by
  rintro w base ok yQ x cs sd ⟨c0,c1,rfl,h0,h1⟩
  exact⟨c0,c1,rfl,a.dV sd h0,b.dV sd h1⟩
 ef:=by
  rintro w base ok x cs ⟨c0,c1,rfl,h0,h1⟩
  refine⟨c0,c1,rfl,a.dV ?_ (a.ef h0),b.dV ?_ (b.ef h1)⟩
  ·rintro k ⟨h2,h3,h4,q,hq,hc⟩
   exact⟨h2,h3,h4,q,List.mem_append_left _ hq,hc⟩
  ·rintro k ⟨h2,h3,h4,q,hq,hc⟩
   exact⟨h2,h3,h4,q,List.mem_append_right _ hq,hc⟩
 fy:=by
  rintro w w1 base ok x cs hm ⟨c0,c1,rfl,h0,h1⟩
  exact⟨c0,c1,rfl,a.fy hm h0,b.fy hm h1⟩
 ft:=by
  rintro w base mc ok x cs hb ⟨c0,c1,rfl,h0,h1⟩
  exact⟨c0,c1,rfl,a.ft hb h0,b.ft hb h1⟩
def iso {α β:Type} (d:Kd α) (f:β→α):Kd β where
 sz:=d.sz
 E:=d.E
 K:=fun w x cs=>d.K w (f x) cs
 M:=fun w base ok x cs=>d.M w base ok (f x) cs
 ji:=d.ji
 jk:=d.jk
 eO:=d.eO
 fm:=d.fm
 dV:=d.dV
 ef:=d.ef
 fy:=d.fy
 ft:=d.ft
def bot {α:Type} (sz:Nat) (E:List Nat):Kd α where
 sz:=sz
 E:=E
 K:=fun _ _ _=>False
 M:=fun _ _ _ _ _=>False
 ji:=fun h=>h.elim
 jk:=fun h=>h.elim
 eO:=fun _ h=>h
 fm:=fun h=>h
 dV:=fun _ h=>h
 ef:=fun h=>h
 fy:=fun _ h=>h
 ft:=fun _ h=>h
def upto {α:Type} (F:Kd α→Kd α) (sz:Nat) (E:List Nat):Nat→Kd α
 | 0=>bot sz E
 | n+1=>F (upto F sz E n)
theorem Iy {α:Type} {d:Kd α} {w:World} {A:Option Addr} {n:Nat} {xs:List α} (h:d.C w A n xs) (z:α) (i:Int) (h0:0≤i) (h1:i<n):
  ∃ad c,A=some ad∧c.length=d.sz∧d.K w (xs.getD i.toNat z) c∧∀j u,c[j]? =some u→w.cell? (ad.add (i.toNat*d.sz+j))=some u:=cr.aek h z i h0 h1
theorem Cd {α:Type} {d:Kd α} {e base:Nat} {ok okp:Nat→Prop} {W w1:World} {v v1:Value} {xs:List α} {p:α} {inner cs:List Value} (h0:∀k,v.ownBlock=some k→ok k) (hr:eX (d.M W base (fun k=>ok k∧some k≠v.ownBlock)) d.sz xs inner) (hp:d.M W base okp p cs) (Iz:∀k,okp k→ok k∧some k≠v.ownBlock) (oK:∀k,W.heap.size≤k→ok k)
  (bl:w1.ownsRow base e d.sz v1 (xs.length+1) (inner++cs)) (hg:W.grownBy w1 v.ownBlock) (dz:v1.ownBlock=v.ownBlock∨∃b,v1.ownBlock=some b∧W.heap.size≤b):d.R e w1 base ok v1 (xs++ [p]):=by
 have jJ:∀k,some k≠v.ownBlock→k<W.heap.size→some k≠v1.ownBlock:=by
  intro k hk eh
  rcases dz with dz|⟨b,hb,hle⟩
  ·rw [dz];exact hk
  ·rw [hb]
   intro he
   injection he with he
   omega
 have step:∀{q:α} {c:List Value} {o:Nat→Prop},d.M W base o q c→(∀k,o k→ok k∧some k≠v.ownBlock)→d.M w1 base (fun k=>ok k∧some k≠v1.ownBlock) q c:=by
  intro q c o hq ho
  have h1:=d.fy (w1:=w1) (fun k hk=>hg.block k hk.2.2.1 (ho k hk.1).2) (d.ef hq)
  exact d.dV (fun k hk=>⟨(ho k hk.1).1,jJ k (ho k hk.1).2 hk.2.2.1⟩) h1
 refine⟨fun k hk=> ?_,inner++cs,by rw [List.length_append,List.length_singleton];exact bl,?_⟩
 ·rcases dz with dz|⟨b,hb,hle⟩
  ·exact h0 k (dz▸hk)
  ·rw [hb] at hk
   injection hk with hk
   exact oK k (by omega)
 ·exact(hr.pg (fun _ _ hq=>step hq (fun _ hk=>hk))).snoc (step hp Iz) (d.ji (d.fm hp))
section
variable {P:Program} {ops:Array Oper} {rest:List Oper} {o:Oper} {a:Act} {Q:Exit→Act→World→Prop} {α:Type}
theorem jl (d:Kd α) {w0 W:World} (base:Nat) (qR:o.guard=none) (s x:Operand) (t e:TypeId) (z:Value) (bytes:Nat)
  (ho:o.op= .call {callee:=.builtin .append,args:=#[s,x],argTypes:=#[t,t]})
  (ht:P.underlying t=some (.slice e)) (gF:(P.info? e).map (fun i=>(i.zero,i.size,i.bytes))=some (some z,d.sz,bytes)) (hz:z.cells.size=d.sz) (mb:0<d.sz) (qS:0<bytes)
  (v:Value) (xs:List α) (p:α) (cs:List Value) (ok okp:Nat→Prop) (hs:a.eval s=v) (hx:a.eval x= .slice (some ⟨W.heap.size,0,none⟩) 1 1) (hp:d.M W base okp p cs) (Iz:∀k,okp k→ok k∧some k≠v.ownBlock) (oK:∀k,W.heap.size≤k→ok k)
  (HO:d.R e W base ok v xs) (HB:Below base w0 W) (fx:base≤W.heap.size) (hl:(xs.length+1)*bytes≤140737488355328)
  (h:∀v1 w1,d.R e w1 base ok v1 (xs++ [p])→Below base w0 w1→W.grownBy w1 v.ownBlock→(v1.ownBlock=v.ownBlock∨∃b,v1.ownBlock=some b∧W.heap.size≤b)→wpList P ops Q rest (a.put o.dst v1) w1):
  wpList P ops Q (o::rest) a (W.alloc (.cells cs.toArray e)):=by
 obtain⟨h0,inner,bl,hr⟩:=HO
 refine di base qR s x t e z d.sz bytes ho ht gF hz mb qS v xs.length inner cs hs hx (d.ji (d.fm hp)) (d.jk (d.fm hp)) bl HB fx hl ?_
 intro v1 w1 dW eW jm mq
 exact h v1 w1 (Cd h0 hr hp Iz oK dW jm mq) eW jm mq
end
section
variable {P:Program} {ops:Array Oper} {o:Oper} {a:Act} {Q:Exit→Act→World→Prop} {Kc:Act→World→Prop} {α:Type}
end
theorem yR {α:Type} {enc:α→Value} {h1:∀x,(enc x).oneCell' =true} {e:Nat} {w:World} {base:Nat} {ok:Nat→Prop} {v:Value} {xs:List α} (h:(scalar enc h1).R e w base ok v xs):w.ownsRow base e 1 v xs.length (It enc xs):=by
 obtain⟨_,inner,ho,hr⟩:=h
 have:inner=It enc xs:=by
  apply List.ext_getElem?
  intro j
  rcases Nat.lt_or_ge j xs.length with hj|hj
  ·have h2:=hr.2 j _ (List.getElem?_eq_getElem hj)
   have hl:j<inner.length:=by have:=hr.1;simp [scalar] at this;omega
   have h3:(inner.drop (j*1)).take 1= [enc xs[j]]:=h2
   rw [Nat.mul_one,List.drop_eq_getElem_cons hl] at h3
   have h4:inner[j]=enc xs[j]:=by
    have h5:=congrArg List.head? h3
    rw [List.take_succ_cons] at h5
    exact Option.some.inj h5
   rw [List.getElem?_eq_getElem hl,h4]
   simp [It,List.getElem?_eq_getElem hj]
  ·have h3:inner.length=xs.length:=by have:=hr.1;simp [scalar] at this;omega
   rw [List.getElem?_eq_none (by omega),List.getElem?_eq_none (by rw [yN];omega)]
 rw [←this]
 exact ho
theorem lv {α:Type} {enc:α→Value} {d:α} {h1:∀x,(enc x).oneCell' =true} {w:World} {A:Option Addr} {n:Nat} {xs:List α} (h:(scalar enc h1).C w A n xs):nB enc d w A n xs:=by
 refine⟨h.1,h.2.1,fun hn=> ?_⟩
 obtain⟨ad,e,hc⟩:=h.2.2 hn
 refine⟨ad,e,fun j hj=> ?_⟩
 have hl:j<xs.length:=by have:=h.1;omega
 obtain⟨c,_,hK,bR⟩:=hc j _ (List.getElem?_eq_getElem hl)
 have hK' :c= [enc xs[j]]:=hK
 subst hK'
 have:=bR 0 _ rfl
 simpa [scalar,List.getD_eq_getElem?_getD,List.getElem?_eq_getElem hl] using this
end Kd
namespace Kd
section
variable {α:Type} {F:Kd α→Kd α} {sz:Nat} {E:List Nat} {hs:∀n,(upto F sz E n).sz=sz} {hE:∀n q,q∈(upto F sz E n).E→q∈E}
end
end Kd
namespace Kd
end Kd
namespace Kd
section
variable {α β:Type} {d:Kd α} {d' :Kd β} {e e' :Nat} {w w1 W:World} {base b b' :Nat} {ok yQ okv oku:Nat→Prop} {v u:Value} {xs:List α} {ys:List β}
theorem cP (h:d.R e w base ok v xs) (o:Obj):d.R e (w.alloc o) base ok v xs:=nC h (au (Below.refl _ _) o)
theorem dA (h:d.R e w base ok v xs):d.R e w.drew base ok v xs:=nC h (oH (Below.refl _ _))
theorem cQ (h:d.R e w base ok v xs) (m:Nat):d.R e (w.drewN m) base ok v xs:=nC h (bn (Below.refl _ _) m)
theorem D9 {A:Option Addr} {n:Nat} (h:d.C w A n xs) (o:Obj):d.C (w.alloc o) A n xs:=cG h (au (Below.refl _ _) o)
theorem RY {A:Option Addr} {n:Nat} (h:d.C w A n xs):d.C w.drew A n xs:=cG h (oH (Below.refl _ _))
theorem MT {A:Option Addr} {n:Nat} (h:d.C w A n xs) (m:Nat):d.C (w.drewN m) A n xs:=cG h (bn (Below.refl _ _) m)
theorem mD {A:Option Addr} {n c:Nat} (h:d.R e w base ok (.slice A n c) xs):n=xs.length∧n≤c∧d.C w A xs.length xs:=by
 obtain⟨A',c',he,hl,hr⟩:=wm h
 injection he with h1 h2 h3
 subst h1
 exact⟨h2,by omega,hr⟩
end
section
variable {w W:World} {A:Option Addr} {n:Nat}
theorem cK {k:IntKind} {xs:List Int} (h:(Kd.int k).C w A n xs) (i:Int) (h0:0≤i) (h1:i<n):∃ad,A=some ad∧w.cell? (ad.add i.toNat)=some (.int k (rd xs i)):=
 nB.at_ (lv (enc:=Value.int k) (d:=(0:Int)) (h1:=fun _=>rfl) h) i h0 h1
theorem u9 {xs:List ByteArray} (h:Kd.string.C w A n xs) (i:Int) (h0:0≤i) (h1:i<n):∃ad,A=some ad∧w.cell? (ad.add i.toNat)=some (.string (ra ByteArray.empty xs i)):=
 nB.at_ (lv (enc:=Value.string) (d:=ByteArray.empty) (h1:=fun _=>rfl) h) i h0 h1
variable {α:Type} {enc:α→Value} {h1:∀x,(enc x).oneCell' =true} {e base g cap:Nat} {ok:Nat→Prop} {xs:List α}
end
section
variable {P:Program} {ops:Array Oper} {rest:List Oper} {o:Oper} {a:Act} {Q:Exit→Act→World→Prop}
theorem vc {W w1:World} {v:Value} (qR:o.guard=none) (bZ:(execOp a.eval o).run P W= .ok (.value v) w1) (h:wpList P ops Q rest (a.put o.dst v) w1):wpList P ops Q (o::rest) a W:=by
 refine wpList_plain qR fun K hK=> ?_
 unfold Oper.wp
 rw [bZ]
 exact hK _ _ h
variable {α:Type}
theorem vd (d:Kd α) {w0 W:World} (base e:Nat) (qR:o.guard=none) {N:Tmp} (_hd:o.dst=some N) {xs:List α} {inner:List Value} {ok okp:Nat→Prop}
  (bZ:(execOp a.eval o).run P W= .ok (.value (.slice (some ⟨W.heap.size,0,none⟩) xs.length xs.length)) (W.alloc (.cells inner.toArray e)))
  (Wy:eX (d.M W base okp) d.sz xs inner) (sd:∀k,okp k→ok k) (oK:ok W.heap.size) (HB:Below base w0 W) (fx:base≤W.heap.size) (hm:xs.length≤9223372036854775807)
  (h:∀v1 w1,d.R e w1 base ok v1 xs→Below base w0 w1→W.grownBy w1 none→(∃b,v1.ownBlock=some b∧W.heap.size≤b)→wpList P ops Q rest (a.put o.dst v1) w1):wpList P ops Q (o::rest) a W:=by
 refine vc qR bZ (h _ _ ⟨fun k hk=> ?_,inner,?_,?_⟩ (HB.alloc fx _) (World.grownBy_alloc W _ none) ⟨W.heap.size,by simp [Value.ownBlock],Nat.le_refl _⟩)
 ·have:W.heap.size=k:=by simpa [Value.ownBlock] using hk
  subst this
  exact oK
 ·have h2:=World.ownsRow_lit (base:=base) (e:=e) (size:=d.sz) W inner.toArray xs.length fx (by simpa [maxLen] using hm) (by simpa using Wy.1)
  simpa using h2
 ·refine Wy.pg (fun p c hp=>d.dV (fun k hk=>⟨sd k hk.1,fun he=> ?_⟩) (MS (d.ef hp) (au (Below.refl _ _) _)))
  have h3:k=W.heap.size:=by simpa [Value.ownBlock] using he
  have:=hk.2.2.1
  omega
end
end Kd
theorem IA {w:World} {base n m c size:Nat} {e:TypeId} {A:Option Addr} {xs:List Value} (h:w.ownsRow base e size (.slice A n c) n xs) (hm:m≤n):w.ownsRow base e size (.slice A m c) m (xs.take (m*size)):=by
 obtain⟨h1,h2⟩:=h
 refine⟨by rw [List.length_take,h1];exact Nat.min_eq_left (Nat.mul_le_mul_right _ hm),?_⟩
 rcases h2 with ⟨he,h0⟩|⟨g,cap,cur,he,hb,hh,Mr,yS,jX,ht⟩
 ·injection he with ha _ hc
  subst ha;subst hc
  exact .inl ⟨by rw [show m=0 by omega],by omega⟩
 ·injection he with ha _ hc
  subst ha;subst hc
  refine .inr ⟨g,c,cur,rfl,hb,hh,by omega,yS,jX,?_⟩
  rw [←ht,List.take_take,Nat.min_eq_left (Nat.mul_le_mul_right _ hm)]
section
variable {P:Program}
theorem RZ (t e:TypeId) (kh:IntKind) {i:TypeInfo} (ht:P.underlying t=some (.slice e)) (hi:P.info? e=some i) (A:Option Addr) (n c:Nat) (j:Int) (h0:0≤j) (hm:j≤n) (hc:n≤c):
  ∀W:World,(Instr.slice t (.slice A n c) none (some (.int kh j)) none).run P W= .ok (.slice A j.toNat c) W:=by
 intro W
 have Ea:P.elem t=e:=by simp [Program.elem,ht]
 have hu:P.underlying t=some (.slice (P.elem t)):=by rw [Ea];exact ht
 have ha:(A.map fun x=>x.add 0)=A:=by cases A<;>simp [Addr.add]
 rw [run_slice_h W t A n c hu kh j h0 (by omega),Ea]
 simp [sizeOf,typeInfo,hi,sliced,Result.andThen,ha]
end
def aen (w:World) (base:Nat) (e:TypeId) (size:Nat) (v:Value) (n:Nat) (xs:List Value):Prop:=
 xs.length=n*size∧
 ((n=0∧∃A,v= .slice A 0 0∧∀a,A=some a→base≤a.block∧∃cur,w.heap[a.block]? =some (.cells cur e (0,0)))∨
  ∃g off cap cur,v= .slice (some ⟨g,off*size,none⟩) n cap∧base≤g∧w.heap[g]? =some (.cells cur e (0,0))∧n≤cap∧off+cap≤maxLen∧cur.size=(off+cap)*size∧(cur.toList.drop (off*size)).take (n*size)=xs)
section
variable {w w1:World} {base n size:Nat} {e:TypeId} {v:Value} {xs:List Value}
end
section
variable {P:Program}
end
namespace Kd
theorem Gj {α:Type} {R:α→List Value→Prop} {size m:Nat} {ps:List α} {cs:List Value} (h:eX R size ps cs) (hm:m≤ps.length):eX R size (ps.take m) (cs.take (m*size)):=by
 refine⟨by rw [List.length_take,List.length_take,h.1,Nat.min_eq_left hm,Nat.min_eq_left (Nat.mul_le_mul_right _ hm)],fun j p hj=> ?_⟩
 rw [List.getElem?_take] at hj
 split at hj
 ·rename_i hjm
  have:=h.2 j p hj
  have hle:j*size+size≤m*size:=by rw [←Nat.succ_mul];exact Nat.mul_le_mul_right _ hjm
  rw [List.drop_take,List.take_take,Nat.min_eq_left (by omega)]
  exact this
 ·cases hj
theorem R0 {α:Type} {d:Kd α} {e m n c:Nat} {w:World} {base:Nat} {ok:Nat→Prop} {A:Option Addr} {xs:List α} (h:d.R e w base ok (.slice A n c) xs) (hm:m≤xs.length):d.R e w base ok (.slice A m c) (xs.take m):=by
 obtain⟨h0,inner,ho,hr⟩:=h
 have hn:n=xs.length:=by
  obtain⟨A',c',he⟩:=dP ho
  injection he
 subst hn
 have hb:∀x y:Nat,(Value.slice A x c).ownBlock=(Value.slice A y c).ownBlock:=by
  intro x y
  cases A<;>rfl
 refine⟨fun k hk=>h0 k (by rw [hb _ m];exact hk),inner.take (m*d.sz),?_,?_⟩
 ·rw [List.length_take,Nat.min_eq_left hm]
  exact IA ho hm
 ·rw [hb m xs.length]
  exact Gj hr hm
def Q {α:Type} (d:Kd α) (e:Nat) (w:World) (base:Nat) (ok:Nat→Prop) (v:Value) (xs:List α):Prop:=
 (∀k,v.ownBlock=some k→ok k)∧∃inner,aen w base e d.sz v xs.length inner∧eX (d.M w base (fun k=>ok k∧some k≠v.ownBlock)) d.sz xs inner
section
variable {α:Type} {d:Kd α} {e:Nat} {w w1 W:World} {base:Nat} {ok yQ :Nat→Prop} {v:Value} {xs:List α}
end
section
variable {P:Program} {ops:Array Oper} {rest:List Oper} {o:Oper} {a:Act} {Q' :Exit→Act→World→Prop} {Kc:Act→World→Prop} {α:Type}
end
end Kd
namespace Kd
section
variable {α:Type} {d:Kd α} {e e' :Nat} {w w1 W:World} {base:Nat} {ok:Nat→Prop} {u v:Value} {xs:List α}
end
end Kd
namespace Kd
section
variable {α:Type} {d:Kd α} {e base g n cap:Nat} {ok okp:Nat→Prop} {W:World} {xs:List α}
end
end Kd
namespace Kd
section
variable {α:Type} {F:Kd α→Kd α} {sz:Nat} {E:List Nat} {hs:∀n,(upto F sz E n).sz=sz} {hE:∀n q,q∈(upto F sz E n).E→q∈E}
end
end Kd
namespace Kd
theorem yT {α:Type} {R:α→List Value→Prop} {size:Nat} {ps qs:List α} {cs ds:List Value} (h:eX R size ps cs) (h' :eX R size qs ds):eX R size (ps++qs) (cs++ds):=by
 refine⟨by rw [List.length_append,List.length_append,h.1,h'.1,Nat.add_mul],fun j p hj=> ?_⟩
 rcases Nat.lt_or_ge j ps.length with eh|MU
 ·rw [List.getElem?_append_left eh] at hj
  have hle:j*size+size≤cs.length:=by rw [h.1,←Nat.succ_mul];exact Nat.mul_le_mul_right _ eh
  rw [List.drop_append_of_le_length (by omega),List.take_append_of_le_length (by rw [List.length_drop];omega)]
  exact h.2 j p hj
 ·rw [List.getElem?_append_right MU] at hj
  have h2:=h'.2 (j - ps.length) p hj
  have hle:ps.length*size≤j*size:=Nat.mul_le_mul_right _ MU
  rw [List.drop_append,List.drop_eq_nil_of_le (by rw [h.1];exact hle),List.nil_append,h.1,←Nat.sub_mul]
  exact h2
section
variable {P:Program} {ops:Array Oper} {rest:List Oper} {o:Oper} {a:Act} {Q:Exit→Act→World→Prop} {α:Type}
theorem um (d:Kd α) {Rr:α→List Value→Prop} {w0 W:World} (base:Nat) (qR:o.guard=none) (s x:Operand) (t e:TypeId) (z:Value) (bytes:Nat)
  (ho:o.op= .call {callee:=.builtin .append,args:=#[s,x],argTypes:=#[t,t]})
  (ht:P.underlying t=some (.slice e)) (gF:(P.info? e).map (fun i=>(i.zero,i.size,i.bytes))=some (some z,d.sz,bytes)) (hz:z.cells.size=d.sz) (mb:0<d.sz) (qS:0<bytes)
  (v:Value) (xs ys:List α) (A:Option Addr) (m c:Nat) (ok okp:Nat→Prop) (hs:a.eval s=v) (hx:a.eval x= .slice A m c)
  (HO:d.R e W base ok v xs) (HR:cr Rr d.sz W A m ys) (hKM:∀x cs,Rr x cs→d.M W base okp x cs) (Iz:∀k,okp k→ok k∧some k≠v.ownBlock) (oK:∀k,W.heap.size≤k→ok k)
  (HB:Below base w0 W) (fx:base≤W.heap.size) (hl:(xs.length+m)*bytes≤140737488355328)
  (h:∀v1 w1,d.R e w1 base ok v1 (xs++ys)→Below base w0 w1→W.grownBy w1 v.ownBlock→(v1.ownBlock=v.ownBlock∨∃b,v1.ownBlock=some b∧W.heap.size≤b)→wpList P ops Q rest (a.put o.dst v1) w1):
  wpList P ops Q (o::rest) a W:=by
 obtain⟨i0,hi,ku⟩:=Option.map_eq_some_iff.1 gF
 simp only [Prod.mk.injEq] at ku
 obtain⟨sa,o0,sc⟩:=ku
 have hm:ys.length=m:=HR.1
 have hlen:xs.length+m≤140737488355328:=Nat.le_trans (Nat.le_mul_of_pos_right _ qS) hl
 obtain⟨sd,inner,bl,hr⟩:=HO
 have bZ:∃v1 w1,(Builtin.append_ #[t,t] o.type #[v,.slice A m c]).run P W= .ok v1 w1∧d.R e w1 base ok v1 (xs++ys)∧W.grownBy w1 v.ownBlock∧(v1.ownBlock=v.ownBlock∨∃b,v1.ownBlock=some b∧W.heap.size≤b):=by
  rcases A with _|ad
  ·have h0:m=0:=by
    rcases Nat.eq_zero_or_pos m with h0|h0
    ·exact h0
    ·obtain⟨ad,h,_⟩:=HR.2.2 h0
     cases h
   subst h0
   obtain rfl:ys= []:=List.eq_nil_of_length_eq_zero hm
   refine⟨v,W,?_,by rw [List.append_nil];exact⟨sd,inner,bl,hr⟩,World.grownBy.refl W _,.inl rfl⟩
   rcases bl.2 with ⟨rfl,hn⟩|⟨g,cap,cur,rfl,_,_,Mr,_⟩
   ·simp [Builtin.append_,run_underlying ht,sizeOf,typeInfo,hi,Builtin.lenOf,Builtin.firstCells]
   ·simp [Builtin.append_,run_underlying ht,sizeOf,typeInfo,hi,Builtin.lenOf,Builtin.firstCells,Mr,storeCells]
  ·obtain⟨news,hnr,Mr⟩:=cr.RW HR
   have hnM:eX (d.M W base okp) d.sz ys news:=hnr.pg (fun p c hp=>hKM p c hp)
   have uo:∀u∈news,u.oneCell' =true:=by
    intro u hu
    obtain⟨q,hq,rfl⟩:=List.mem_iff_getElem.1 hu
    have hql:q / d.sz<ys.length:=by
     rw [Nat.div_lt_iff_lt_mul mb]
     rw [←hnM.1]
     exact hq
    have hc:=hnM.2 (q / d.sz) _ (List.getElem?_eq_getElem hql)
    refine d.jk (d.fm hc) _ ?_
    rw [List.mem_iff_getElem?]
    refine⟨q % d.sz,?_⟩
    rw [List.getElem?_take,if_pos (Nat.mod_lt _ mb),List.getElem?_drop,Nat.mul_comm,Nat.div_add_mod,List.getElem?_eq_getElem hq]
   obtain⟨v1,w1,bZ,h2,hg,_,dz⟩:=run_append_own_at (P:=P) W base t o.type e i0 z d.sz bytes ht hi sa o0 sc hz mb v xs.length inner bl ad m c news (by rw [hnM.1,hm]) Mr uo (by simp only [maxLen];omega) hl fx
   have R1 :v1.ownBlock=v.ownBlock∨∃b,v1.ownBlock=some b∧W.heap.size≤b:=by
    rcases dz with dz|dz
    ·exact .inl dz
    ·exact .inr ⟨_,dz,Nat.le_refl _⟩
   have jJ:∀k,some k≠v.ownBlock→k<W.heap.size→some k≠v1.ownBlock:=by
    intro k hk eh
    rcases R1 with dz|⟨b,hb,hle⟩
    ·rw [dz];exact hk
    ·rw [hb]
     intro he
     injection he with he
     omega
   have step:∀{q:α} {c:List Value} {o:Nat→Prop},d.M W base o q c→(∀k,o k→ok k∧some k≠v.ownBlock)→d.M w1 base (fun k=>ok k∧some k≠v1.ownBlock) q c:=by
    intro q c o hq ho
    have h1:=d.fy (w1:=w1) (fun k hk=>hg.block k hk.2.2.1 (ho k hk.1).2) (d.ef hq)
    exact d.dV (fun k hk=>⟨(ho k hk.1).1,jJ k (ho k hk.1).2 hk.2.2.1⟩) h1
   refine⟨v1,w1,bZ,⟨fun k hk=> ?_,inner++news,by rw [List.length_append,hm];exact h2,yT (hr.pg (fun _ _ hq=>step hq (fun _ hk=>hk))) (hnM.pg (fun _ _ hq=>step hq Iz))⟩,hg,R1⟩
   rcases R1 with dz|⟨b,hb,hle⟩
   ·exact sd k (dz▸hk)
   ·rw [hb] at hk
    injection hk with hk
    exact oK k (by omega)
 obtain⟨v1,w1,wo,h1,hg,dz⟩:=bZ
 refine wpList_plain qR fun K hK=> ?_
 unfold Oper.wp execOp
 simp only [ho,resolve,invoke,builtin,Sem.run_bind,Sem.run_pure,Result.andThen_ok,List.map_toArray,List.map_cons,List.map_nil,hs,hx,wo]
 exact hK _ _ (h v1 w1 h1 (HB.grown hg fx (fg bl)) hg dz)
end
end Kd
namespace Kd
section
variable {P:Program} {ops:Array Oper} {rest:List Oper} {o:Oper} {a:Act} {Q:Exit→Act→World→Prop} {α:Type}
end
end Kd
theorem add_add (a:Addr) (i j:Nat):(a.add i).add j=a.add (i+j):=by
 unfold Addr.add
 by_cases h1:i=0<;>by_cases h2:j=0<;>simp [h1,h2,Nat.add_assoc]
namespace Kd
section
variable {α:Type} {k:Kd α} {w:World} {A:Option Addr} {xs:List α} {m c:Nat}
theorem R2 (h:k.C w A xs.length xs) (hm:m≤xs.length):k.C w A (xs.take m).length (xs.take m):=by
 have hl:(xs.take m).length=m:=by rw [List.length_take];omega
 refine⟨rfl,by rw [hl];have:=h.2.1;omega,fun hp=> ?_⟩
 obtain⟨ad,e,hc⟩:=h.2.2 (by omega)
 refine⟨ad,e,fun j p hj=>hc j p ?_⟩
 rw [List.getElem?_take] at hj
 split at hj
 ·exact hj
 ·cases hj
theorem Ce (h:k.C w A xs.length xs) (hm:m≤xs.length) (hc:xs.length≤c):k.C w (if c=m then A else A.map (·.add (m*k.sz))) (xs.drop m).length (xs.drop m):=by
 have hl:(xs.drop m).length=xs.length - m:=List.length_drop
 refine⟨rfl,by rw [hl];have:=h.2.1;omega,fun hp=> ?_⟩
 rw [hl] at hp
 obtain⟨ad,rfl,bR⟩:=h.2.2 (by omega)
 rw [if_neg (by omega)]
 refine⟨ad.add (m*k.sz),rfl,fun j p hj=> ?_⟩
 rw [List.getElem?_drop] at hj
 obtain⟨cs,h1,h2,h3⟩:=bR (m+j) p hj
 refine⟨cs,h1,h2,fun i u hu=> ?_⟩
 rw [add_add,show m*k.sz+(j*k.sz+i)=(m+j)*k.sz+i by rw [Nat.add_mul];omega]
 exact h3 i u hu
theorem Wz {lo hi:Nat} (h:k.C w A xs.length xs) (h1:lo≤hi) (h2:hi≤xs.length) (hc:xs.length≤c):k.C w (if c=lo then A else A.map (·.add (lo*k.sz))) ((xs.take hi).drop lo).length ((xs.take hi).drop lo):=by
 have hl:(xs.take hi).length=hi:=by rw [List.length_take];omega
 exact Ce (R2 h h2) (by omega) (by omega)
end
end Kd
section
variable {P:Program}
theorem MV (t e:TypeId) (kl kh:IntKind) {i:TypeInfo} (ht:P.underlying t=some (.slice e)) (hi:P.info? e=some i) (size:Nat) (yB:i.size=size) (A:Option Addr) (n c:Nat) (lo Ms :Int) (h0:0≤lo) (h1:lo≤Ms) (h2:Ms ≤n) (hc:n≤c):
  ∀W:World,(Instr.slice t (.slice A n c) (some (.int kl lo)) (some (.int kh Ms)) none).run P W= .ok (.slice (if c=lo.toNat then A else A.map (·.add (lo.toNat*size))) (Ms.toNat - lo.toNat) (c - lo.toNat)) W:=by
 intro W
 have Ea:P.elem t=e:=by simp [Program.elem,ht]
 have hu:P.underlying t=some (.slice (P.elem t)):=by rw [Ea];exact ht
 rw [run_slice_lh W t A n c hu kl kh lo Ms h0 h1 (by omega),Ea]
 simp [sizeOf,typeInfo,hi,yB,sliced,Result.andThen]
end
theorem rf {P:Program} {w:World} {src dst e:TypeId} {A:Option Addr} {n c:Nat} {xs:List Int} (hs:P.underlying src=some (.slice e)) (he:P.underlying e=some (.int .u8)) (hd:P.underlying dst=some .string)
  (h:dU w .u8 A n xs):(convert src dst (.slice A n c)).run P w= .ok (.string (strOfNums xs)) w:=by
 have hn:xs.length=n:=h.1
 rcases A with _|ad
 ·have h0:n=0:=by
   rcases Nat.eq_zero_or_pos n with h0|h0
   ·exact h0
   ·obtain⟨ad,h',_⟩:=h.2.2 h0
    cases h'
  subst h0
  obtain rfl:xs= []:=List.eq_nil_of_length_eq_zero hn
  exact run_convert_bytes_nil w src e hs he 0 c dst hd
 ·have hl:(loadCells ad n).run P w= .ok (xs.map (Value.int .u8)).toArray w:=by
   have:=run_loadCells_list (P:=P) w ad (xs.map (Value.int .u8)) (fun j v hj=>by
    have D8:j<xs.length:=by
     rcases Nat.lt_or_ge j xs.length with h'|h'
     ·exact h'
     ·rw [List.getElem?_eq_none (by rw [List.length_map];exact h')] at hj
      cases hj
    obtain⟨ad',he',hc⟩:=h.2.2 (by omega)
    injection he' with he'
    subst he'
    rw [hc j (by omega)]
    rw [List.getElem?_map,List.getElem?_eq_getElem D8] at hj
    simp at hj
    subst hj
    simp [List.getD_eq_getElem?_getD,List.getElem?_eq_getElem D8])
   simpa [hn] using this
  rw [run_convert_bytes_string w src dst e _ n c hs he hd,run_bytesToString w ad n c xs hl,foldl_push_bytes]
  simp [strOfNums,ByteArray.empty,ByteArray.emptyWithCapacity]
  rfl
theorem Kd.se {P:Program} {w:World} {src dst e:TypeId} {A:Option Addr} {n c:Nat} {xs:List Int} (hs:P.underlying src=some (.slice e)) (he:P.underlying e=some (.int .u8)) (hd:P.underlying dst=some .string)
  (h:(Kd.int .u8).C w A n xs):(convert src dst (.slice A n c)).run P w= .ok (.string (strOfNums xs)) w:=
 rf hs he hd (Kd.lv (enc:=Value.int .u8) (d:=(0:Int)) (h1:=fun _=>rfl) h)
theorem cC {w W:World} (h:Below w.heap.size w W):w.heap.size≤W.heap.size:=h.size
theorem fc {w W w2:World} (h:Below w.heap.size w W) (k:Below W.heap.size W w2):Below w.heap.size w w2:=B8 h h.size k
theorem fj {w W:World} {g j:Nat} {v:Value} (h:Below w.heap.size w W) (hg:w.heap.size≤g):Below w.heap.size w (W.setCell ⟨g,j,none⟩ v):=h.setCell hg _
theorem Cf {w W:World} {g:Nat} {row:Option Nat} (h:aw w W g row) (m:Nat):aw w (W.drewN m) g row:=h
theorem sf {w W:World} {g:Nat} (h:aw w W g none) (o:Obj):aw w (W.alloc o) g none:=h.trans (aw.iz (World.grownBy_alloc W o none) g) (.inl rfl)
theorem ve {w W:World} {g:Nat} {row:Option Nat} (h:aw w W g row):w.heap.size≤W.heap.size:=h.1
theorem cell_far {W:World} {p a:Addr} (h:a.block≠p.block) (u:Value):(W.setCell p u).cell? a=W.cell? a:=by
 have:=Below.heap_setCell W p u a.block h
 simp [World.cell?,this]
theorem gr {w:World} {g:Nat} {t:TypeId} {cs Is :Array Value} (h:w.heap[g]? =some (.cells cs t (0,0))) (i:Nat) (u:Value) (e:cs.setIfInBounds i u=Is):(w.setCell ⟨g,i,none⟩ u).heap[g]? =some (.cells Is t (0,0)):=e▸cj h i u
theorem Cg {W:World} {base n:Nat} {e:TypeId} {size:Nat} {v:Value} {xs:List Value} (h:W.ownsRow base e size v n xs) (k:Nat):some (W.heap.size+k)≠v.ownBlock:=by
 rcases h.2 with ⟨rfl,_⟩|⟨g,cap,cur,rfl,_,hh,_⟩
 ·simp [Value.ownBlock]
 ·have:=cT hh
  simp [Value.ownBlock]
  omega
theorem yU {base:Nat} {w W:World} (h:Below base w W):Below base w W.drew:=h.drew
theorem VQ {w W:World} {g:Nat} {row:Option Nat} (h:aw w W g row):aw w W.drew g row:=h
namespace Kd
section
variable {α β:Type} {d:Kd α} {d' :Kd β} {e e' base mc n:Nat} {ok yQ :Nat→Prop} {w W w1 W1:World} {v u:Value} {xs:List α} {ys:List β} {A:Option Addr} {c:Nat}
end
section
variable {α:Type} {enc:α→Value} {h1:∀x,(enc x).oneCell' =true} {w W:World} {A:Option Addr} {n g:Nat} {xs:List α}
end
end Kd
namespace Kd
section
variable {α:Type} {d:Kd α} {e base g:Nat} {ok:Nat→Prop} {w w1:World} {v:Value} {xs:List α} {o:Obj}
end
end Kd
section
variable {P:Program} {ops:Array Oper} {rest:List Oper} {o:Oper} {a:Act} {Q:Exit→Act→World→Prop}
theorem qm {W:World} (qR:o.guard=none) {N:Tmp} (_hd:o.dst=some N) {cs:Array Value} {t:TypeId}
  (bZ:(execOp a.eval o).run P W= .ok (.value (.pointer (some ⟨W.heap.size,0,none⟩))) (W.alloc (.cells cs t (0,0))))
  (h:∀g,g=W.heap.size→∀w1,w1.heap[g]? =some (.cells cs t (0,0))→Below W.heap.size W w1→wpList P ops Q rest (a.put o.dst (.pointer (some ⟨g,0,none⟩))) w1):wpList P ops Q (o::rest) a W:=
 Kd.vc qR bZ (h _ rfl _ (MR W _) (au (Below.refl _ _) _))
end
namespace Kd
section
variable {α:Type} {enc:α→Value} {h1:∀x,(enc x).oneCell' =true} {e base g n cap:Nat} {ok:Nat→Prop} {W:World} {xs:List α}
end
end Kd
section
variable {P:Program} {ops:Array Oper} {rest:List Oper} {o:Oper} {a:Act} {Q:Exit→Act→World→Prop}
end
namespace Kd
section
variable {α:Type} {enc:α→Value} {h1:∀x,(enc x).oneCell' =true} {e base g n cap:Nat} {ok:Nat→Prop} {W:World} {xs:List α}
end
end Kd
section
variable {P:Program} {ops:Array Oper} {rest:List Oper} {o:Oper} {a:Act} {Q:Exit→Act→World→Prop} {W:World}
theorem gH {N:Tmp} (_hN:o.dst=some N) (h:wpList P ops Q (o::rest) a W):wpList P ops Q (o::rest) a W:=h
end
section
variable {P:Program} {ops:Array Oper} {o:Oper} {a:Act} {Q:Exit→Act→World→Prop} {Kc:Act→World→Prop}
namespace Kd
variable {α:Type}
end Kd
end
section
variable {P:Program} {tmps:Array Value} {w:World}
end
namespace Kd
section
variable {P:Program} {α:Type}
end
section
variable {P:Program} {ops:Array Oper} {rest:List Oper} {o:Oper} {a:Act} {Q:Exit→Act→World→Prop} {Kc:Act→World→Prop} {α:Type}
end
end Kd
end Go.Proofs.YtlglijnaeaonpaaGreatDoorW.aC
end
section
set_option maxHeartbeats 8000000
set_option maxRecDepth 100000
set_option linter.unusedVariables false
set_option linter.unusedSimpArgs false
namespace Go.Proofs.YtlglijnaeaonpaaGreatDoorW.dQ
section
variable {P:Program} {ops:Array Oper} {Q:Exit→Act→World→Prop} {md:Region.Mode} {S:World→Prop} {ds:List Nat}
end
section
variable {P:Program} {ops:Array Oper} {Q:Exit→Act→World→Prop} {md:Region.Mode} {S:World→Prop} {ds:List Nat}
theorem MW {f:FuncId} {fn:Func} (hf:P.funcs[f]? =some fn) (yV:(fn.name== "runtime.NumGoroutine")=false) (hb:fn.body.isSome=true) (args:Array Value) (w:World):(callFunc f args).run P w= .ok (.enter f args) w:=by
 have h1:fn.name≠ "runtime.NumGoroutine":=by simpa using yV
 obtain⟨c,hc⟩:=Option.isSome_iff_exists.1 hb
 simp [callFunc,hf,h1,hc]
theorem R3 {rest:List Oper} {oi:Oper} {a:Act} {w:World} (N:Option Tmp) (hd:oi.dst=N) (hg:oi.guard=none) {f:FuncId} {fn:Func} {as:Array Operand} {ts:Array TypeId} (hf:P.funcs[f]? =some fn) (yV:(fn.name== "runtime.NumGoroutine")=false) (hb:fn.body.isSome=true) (args:Array Value)
  (rh:oi.op= .call {callee:=.value (.func f),args:=as,argTypes:=ts}) (Eb:as.map a.eval=args)
  (h:Calls P f args w fun e w' =>∃v,e= .returned v∧wpList P ops Q rest (a.put N v) w'):wpList P ops Q (oi::rest) a w:=by
 refine wpList_plain hg fun K hK=> ?_
 have he:=MW hf yV hb args w
 have bZ:(execOp a.eval oi).run P w= .ok (.enter f args) w:=by
  unfold execOp
  simp [rh,resolve,Deferred.ofValue,invoke,Act.eval,Eb,he]
 unfold Oper.wp
 rw [bZ,Oper.upon_enter]
 refine h.mono fun e w'' hh=> ?_
 obtain⟨v,rfl,hk⟩:=hh
 subst hd
 exact hK _ _ hk
theorem cB (n:Int):IntKind.i64.wrap n=Go.RowKit.wrap64 n:=by unfold Go.RowKit.wrap64;exact IntKind.wrap_i64 n
theorem cJ (n:Int):IntKind.i32.wrap n=Go.RowKit.wrap32 n:=by unfold Go.RowKit.wrap32;exact IntKind.wrap_i32 n
end
end Go.Proofs.YtlglijnaeaonpaaGreatDoorW.dQ
end
section
set_option maxHeartbeats 8000000
set_option maxRecDepth 100000
set_option linter.unusedVariables false
set_option linter.unusedSimpArgs false
namespace Go.Proofs.YtlglijnaeaonpaaGreatDoorW.aC
theorem eX.one {α:Type} {R:α→List Value→Prop} {ps:List α} {cs:List Value} {p:α} {v:Value} (hp:R p [v]) (h:eX R 1 ps cs):eX R 1 (p::ps) (v::cs):=by
 refine⟨by simp [h.1],fun j q hq=> ?_⟩
 cases j with
 | zero=>
  simp only [List.getElem?_cons_zero,Option.some.injEq] at hq
  subst hq
  simpa using hp
 | succ j=>
  simp only [List.getElem?_cons_succ] at hq
  have h1:=h.2 j q hq
  simpa [Nat.mul_one] using h1
end Go.Proofs.YtlglijnaeaonpaaGreatDoorW.aC
end
section
set_option maxHeartbeats 8000000
set_option maxRecDepth 100000
set_option linter.unusedVariables false
set_option linter.unusedSimpArgs false
namespace Go.Proofs.YtlglijnaeaonpaaGreatDoorW.aC
open Go.RowKit
section
variable {P:Program} {ops:Array Oper} {rest:List Oper} {o:Oper} {a:Act} {Q:Exit→Act→World→Prop} {W:World}
theorem dB (hw:Region.wanted o (yielded ops a.tmps)=true) (h:wpList P ops Q ({o with guard:=none}::rest) a W):wpList P ops Q (o::rest) a W:=by
 have h1:Region.wanted {o with guard:=none} (yielded ops a.tmps)=true:=rfl
 unfold wpList at h⊢
 rw [if_pos h1] at h
 rw [if_pos hw]
 exact h
end
end Go.Proofs.YtlglijnaeaonpaaGreatDoorW.aC
end
section
set_option maxHeartbeats 8000000
set_option maxRecDepth 100000
set_option linter.unusedVariables false
set_option linter.unusedSimpArgs false
namespace Go.Proofs.YtlglijnaeaonpaaGreatDoorW.aC
open Go.RowKit
namespace Kd
def tag {α:Type} (f:Nat→Nat) (d:Kd α):Kd (α×Nat) where
 sz:=d.sz
 E:=d.E
 K:=fun w x cs=>d.K w x.1 cs
 M:=fun w base ok x cs=>d.M w base (fun k=>ok k∧f k=x.2) x.1 cs
 ji:=fun h=>d.ji h
 jk:=fun h=>d.jk h
 eO:=fun hb h=>d.eO hb h
 fm:=fun h=>d.fm h
 dV:=fun sd h=>d.dV (fun k hk=>⟨sd k hk.1,hk.2⟩) h
 ef:=fun h=>d.dV (fun _ hk=>⟨⟨hk.1.1,hk.2⟩,hk.1.2⟩) (d.ef h)
 fy:=fun hm h=>d.fy (fun k hk=>hm k hk.1) h
 ft:=fun hb h=>d.ft hb h
def raw (sz:Nat):Kd (List Value) where
 sz:=sz
 E:=[]
 K:=fun _ x cs=>cs=x∧cs.length=sz∧∀u∈cs,u.oneCell' =true
 M:=fun _ _ _ x cs=>cs=x∧cs.length=sz∧∀u∈cs,u.oneCell' =true
 ji:=fun h=>h.2.1
 jk:=fun h=>h.2.2
 eO:=fun _ h=>h
 fm:=fun h=>h
 dV:=fun _ h=>h
 ef:=fun h=>h
 fy:=fun _ h=>h
 ft:=fun _ h=>h
def S {α:Type} (d:Kd α) (e:Nat) (w:World) (base:Nat) (ok:Nat→Prop) (v:Value) (xs:List α):Prop:=∃f,(tag f d).R e w base ok v xs.zipIdx
section
variable {α β:Type} {d:Kd α} {d' :Kd β} {e e' :Nat} {w w1 W:World} {base b:Nat} {ok yQ okv oku:Nat→Prop} {u v:Value} {xs:List α} {ys:List β}
end
section
variable {α β:Type} {d:Kd α} {d' :Kd β} {e e' g:Nat} {w w1 W:World} {base b:Nat} {ok yQ okv oku:Nat→Prop} {u v:Value} {xs:List α} {ys:List β}
end
section
variable {P:Program} {ops:Array Oper} {rest:List Oper} {o:Oper} {a:Act} {Q:Exit→Act→World→Prop} {Kc:Act→World→Prop} {α:Type}
end
def WA {α:Type} (f:Nat→Nat) (d:Kd α) (i:Nat) (c:List Value):Kd (α×Nat) where
 sz:=d.sz
 E:=d.E
 K:=fun w x cs=>(x.2=i→cs=c∧cs.length=d.sz∧∀u∈cs,u.oneCell' =true)∧(x.2≠i→d.K w x.1 cs)
 M:=fun w base ok x cs=>(x.2=i→cs=c∧cs.length=d.sz∧∀u∈cs,u.oneCell' =true)∧(x.2≠i→d.M w base (fun k=>ok k∧f k=x.2) x.1 cs)
 ji:=fun {w x cs} h=>by
  by_cases hx:x.2=i
  ·exact(h.1 hx).2.1
  ·exact d.ji (h.2 hx)
 jk:=fun {w x cs} h=>by
  by_cases hx:x.2=i
  ·exact(h.1 hx).2.2
  ·exact d.jk (h.2 hx)
 eO:=fun hb h=>⟨h.1,fun hx=>d.eO hb (h.2 hx)⟩
 fm:=fun h=>⟨h.1,fun hx=>d.fm (h.2 hx)⟩
 dV:=fun sd h=>⟨h.1,fun hx=>d.dV (fun k hk=>⟨sd k hk.1,hk.2⟩) (h.2 hx)⟩
 ef:=fun h=>⟨h.1,fun hx=>d.dV (fun _ hk=>⟨⟨hk.1.1,hk.2⟩,hk.1.2⟩) (d.ef (h.2 hx))⟩
 fy:=fun hm h=>⟨h.1,fun hx=>d.fy (fun k hk=>hm k hk.1) (h.2 hx)⟩
 ft:=fun hb h=>⟨h.1,fun hx=>d.ft hb (h.2 hx)⟩
def H {α:Type} (d:Kd α) (e:Nat) (w:World) (base:Nat) (ok:Nat→Prop) (v:Value) (xs:List α) (i:Int) (oki:Nat→Prop) (c:List Value):Prop:=
 (∀k,oki k→ok k)∧∃f,(WA f d i.toNat c).R e w base (fun k=>ok k∧¬oki k) v xs.zipIdx
section
variable {α β:Type} {d:Kd α} {e e' g n cap:Nat} {w w1 W:World} {base:Nat} {ok yQ oki okp:Nat→Prop} {u v:Value} {xs:List α} {i:Int} {c:List Value}
end
section
variable {P:Program} {ops:Array Oper} {rest:List Oper} {o:Oper} {a:Act} {Q:Exit→Act→World→Prop} {α:Type}
end
end Kd
end Go.Proofs.YtlglijnaeaonpaaGreatDoorW.aC
end
section
set_option maxHeartbeats 8000000
set_option maxRecDepth 100000
set_option linter.unusedVariables false
set_option linter.unusedSimpArgs false
namespace Go.Proofs.YtlglijnaeaonpaaGreatDoorW.aC
open Go.RowKit
def MX (P:World→Prop) (W:World) (ok:Nat→Prop):Prop:=∀W' :World,(∀k,ok k→k<W.heap.size→W'.heap[k]? =W.heap[k]?)→P W'
namespace MX
variable {P Q:World→Prop} {W W1:World} {ok yQ :Nat→Prop}
end MX
namespace Kd
def F {α:Type} (d:Kd α) (W:World) (ok:Nat→Prop) (A:Option Addr) (n:Nat) (xs:List α):Prop:=MX (fun W=>d.C W A n xs) W ok
def FK {α:Type} (d:Kd α) (W:World) (ok:Nat→Prop) (x:α) (c:List Value):Prop:=MX (fun W=>d.K W x c) W ok
section
variable {α β:Type} {d:Kd α} {e base n n' cc g N:Nat} {ok yQ okp S:Nat→Prop} {w w0 w1 W W1:World} {A A' :Option Addr} {u v v1:Value} {xs:List α} {xs' :List β} {d' :Kd β} {x:α} {c:List Value}
end
end Kd
end Go.Proofs.YtlglijnaeaonpaaGreatDoorW.aC
end
section
set_option maxHeartbeats 8000000
set_option maxRecDepth 100000
set_option linter.unusedVariables false
set_option linter.unusedSimpArgs false
namespace Go.Proofs.YtlglijnaeaonpaaGreatDoorW.aC
open Go.RowKit
namespace Kd
section
variable {α:Type} {d:Kd α} {e base n cc g:Nat} {ok yQ okp S:Nat→Prop} {w w1 W W1:World} {A:Option Addr} {u v v1:Value} {xs:List α} {x:α} {c:List Value}
def N {α:Type} (d:Kd α) (e:Nat) (w:World) (base:Nat) (ok:Nat→Prop) (v:Value) (xs:List α):Prop:=
 (∀k,v.ownBlock=some k→ok k)∧∃rows:List (List Value),rows.length=xs.length∧(raw d.sz).R e w base (fun k=>some k=v.ownBlock) v rows∧∀(j:Nat) (x:α) (c:List Value),xs[j]? =some x→rows[j]? =some c→FK d w (fun k=>ok k∧some k≠v.ownBlock) x c
end
end Kd
end Go.Proofs.YtlglijnaeaonpaaGreatDoorW.aC
end
section
set_option maxHeartbeats 8000000
set_option maxRecDepth 100000
set_option linter.unusedVariables false
set_option linter.unusedSimpArgs false
namespace Go.Proofs.YtlglijnaeaonpaaGreatDoorW.dQ
def up (b:Nat→Bool) (i:Nat):Nat→Bool:=fun j=>if j=i then true else b j
section
variable {P:Program} {ops:Array Oper} {Q:Exit→Act→World→Prop} {md:Region.Mode} {T:Bool×List (List Nat×List Nat)} {B:List Nat} {O:List Nat} {b:Nat→Bool} {i j n:Nat}
end
end Go.Proofs.YtlglijnaeaonpaaGreatDoorW.dQ
end
section
set_option maxHeartbeats 8000000
set_option maxRecDepth 100000
set_option linter.unusedVariables false
set_option linter.unusedSimpArgs false
namespace Go.Proofs.YtlglijnaeaonpaaGreatDoorW.eR
open Go.RowKit Go.Proofs.YtlglijnaeaonpaaGreatDoorW.aC
namespace Kd
open Go.Proofs.YtlglijnaeaonpaaGreatDoorW.aC.Kd
end Kd
namespace Kd
open Go.Proofs.YtlglijnaeaonpaaGreatDoorW.aC.Kd
section
variable {α:Type} {d:Kd α} {e base g N:Nat} {ok:Nat→Prop} {W w1:World} {u v:Value} {xs:List α}
end
end Kd
theorem fZ (k k' :IntKind) (x y:Int):Builtin.max2 (.int k x) (.int k' y)=pure (.int k (if x<y then y else x)):=by simp only [Builtin.max2,gt_iff_lt]
theorem ga (k k' :IntKind) (x y:Int):Builtin.min2 (.int k x) (.int k' y)=pure (.int k (if y<x then y else x)):=by simp only [Builtin.min2]
theorem iu (IB:Array TypeId) (ty:TypeId) (a b:Value):Builtin.max_ IB ty #[a,b]=(Builtin.max2 a b>>= fun s=>pure s):=by simp only [Builtin.max_,List.foldlM_cons,List.foldlM_nil]
theorem iv (IB:Array TypeId) (ty:TypeId) (a b:Value):Builtin.min_ IB ty #[a,b]=(Builtin.min2 a b>>= fun s=>pure s):=by simp only [Builtin.min_,List.foldlM_cons,List.foldlM_nil]
theorem fk (IB:Array TypeId) (ty:TypeId) (a b c:Value):Builtin.max_ IB ty #[a,b,c]=(Builtin.max2 a b>>= fun s=>Builtin.max2 s c>>= fun s=>pure s):=by simp only [Builtin.max_,List.foldlM_cons,List.foldlM_nil]
theorem fl (IB:Array TypeId) (ty:TypeId) (a b c:Value):Builtin.min_ IB ty #[a,b,c]=(Builtin.min2 a b>>= fun s=>Builtin.min2 s c>>= fun s=>pure s):=by simp only [Builtin.min_,List.foldlM_cons,List.foldlM_nil]
theorem gd (IB:Array TypeId) (ty:TypeId) (a b c d:Value):Builtin.max_ IB ty #[a,b,c,d]=(Builtin.max2 a b>>= fun s=>Builtin.max2 s c>>= fun s=>Builtin.max2 s d>>= fun s=>pure s):=by simp only [Builtin.max_,List.foldlM_cons,List.foldlM_nil]
theorem gg (IB:Array TypeId) (ty:TypeId) (a b c d:Value):Builtin.min_ IB ty #[a,b,c,d]=(Builtin.min2 a b>>= fun s=>Builtin.min2 s c>>= fun s=>Builtin.min2 s d>>= fun s=>pure s):=by simp only [Builtin.min_,List.foldlM_cons,List.foldlM_nil]
end Go.Proofs.YtlglijnaeaonpaaGreatDoorW.eR
namespace Go.Proofs.YtlglijnaeaonpaaGreatDoorW.aC
open Go.RowKit
section
variable {P:Program} {ops:Array Oper} {rest:List Oper} {o:Oper} {a:Act} {Q:Exit→Act→World→Prop} {W:World}
theorem Qc {f:FuncId} {as:Array Operand} {ts:Array TypeId} (_ho:o.op= .call {callee:=.value (.func f),args:=as,argTypes:=ts}) (h:wpList P ops Q (o::rest) a W):wpList P ops Q (o::rest) a W:=h
theorem eD {b:Builtin} {xs:Array Operand} {ts:Array TypeId} (_ho:o.op= .call {callee:=.builtin b,args:=xs,argTypes:=ts}) (h:wpList P ops Q (o::rest) a W):wpList P ops Q (o::rest) a W:=h
end
theorem dC (w:World) (n:Nat):w.drewN n=w.drewN n:=rfl
namespace Kd
section
variable {α:Type} {d:Kd α} {e base:Nat} {ok:Nat→Prop} {W w1:World} {v:Value} {xs:List α}
end
section
variable {α:Type} {d:Kd α} {e base g n cap:Nat} {ok oki okp:Nat→Prop} {W:World} {xs:List α} {i:Int} {c:List Value}
end
section
variable {α:Type} {d:Kd α} {e base b b' g N:Nat} {ok ok1:Nat→Prop} {W W2 w1:World} {u v:Value} {xs ys:List α} {S:Nat→Prop}
end
end Kd
end Go.Proofs.YtlglijnaeaonpaaGreatDoorW.aC
namespace Go.Proofs.YtlglijnaeaonpaaGreatDoorW.aC
open Go.RowKit
namespace Kd
def V {α:Type} (d:Kd α) (_e:Nat) (W:World) (agr:Nat) (ok:Nat→Prop) (v:Value) (xs:List α):Prop:=∃A c,v= .slice A xs.length c∧xs.length≤c∧F d W ok A xs.length xs
section
variable {α β:Type} {d:Kd α} {e base mc n m c g N' lo hi:Nat} {ok yQ S:Nat→Prop} {w W w1:World} {A:Option Addr} {ad:Addr} {u v v1:Value} {xs:List α}
end
end Kd
end Go.Proofs.YtlglijnaeaonpaaGreatDoorW.aC
end
