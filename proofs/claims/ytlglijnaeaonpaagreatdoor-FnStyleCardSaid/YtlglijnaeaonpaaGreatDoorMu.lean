/- FnStyle: a part of the proof (Mu). -/
import Derived.Test.YtlglijnaeaonpaaGreatDoorMq
import Derived.Test.YtlglijnaeaonpaaGreatDoorMt
import Derived.StillTailTactics
import Derived.Deep.RegionWith
import Derived.Deep.RegionHeld3
section
set_option maxHeartbeats 8000000
set_option maxRecDepth 100000
set_option linter.unusedVariables false
set_option linter.unusedSimpArgs false
namespace Go.Proofs.YtlglijnaeaonpaaGreatDoor.Lx
open Go.RowKit Go.Proofs.YtlglijnaeaonpaaGreatDoorW.PrintWords Go.Proofs.YtlglijnaeaonpaaGreatDoor.PFnStyle
theorem mid_le (xs : List Int) (lo hi : Int) : (mid xs lo hi).length ≤ xs.length:=by
 unfold mid
 rw [List.length_drop,List.length_take]
 omega
theorem TkC.dat {xs : List Int} {qs : List (ByteArray × List Int)} {i : Int} {o : Bool} (h : TkC xs qs i o) : ∀ q ∈ qs,q.2.length ≤ xs.length:=by
 induction h with
 | nil => intro p hp;cases hp
 | snoc ps i kind i' o' h h0 h1 hk ih =>
  intro p hp
  rw [List.mem_append] at hp
  rcases hp with hp|hp
  ·exact ih p hp
  ·simp at hp
   subst hp
   exact mid_le _ _ _
theorem barW_len {ws : List (List Int)} {n : Nat} (h : ∀ x ∈ ws,x.length ≤ n) : (barW ws).length ≤ (n + 1) * ws.length:=by
 induction ws with
 | nil => simp [barW]
 | cons x r ih =>
  have:=ih (fun y hy => h y (by simp [hy]))
  have hx:=h x (by simp)
  unfold barW at *
  simp only [List.flatMap_cons,List.length_append,List.length_cons,List.length_nil,Nat.mul_add,Nat.mul_one]
  omega
theorem Vw.toks_le {K : ByteArray} {x : List Int} {qs : List (ByteArray × List Int)} (h : Vw K x qs) (hx : Tx x) : (toks x).length ≤ 60 ∧ ∀ q ∈ toks x,q.2.length ≤ 60:=by
 have h1:=h.len
 have h2:=h.eq
 have h3:=tkS_inv (FF_ok hx) (x.length + 1)
 refine ⟨?_,fun q hq => ?_⟩
 ·have:=h3.2.2.2.1
  have:=h3.2.2.1
  show (tkS x (FF x) (x.length + 1)).1.length ≤ 60
  omega
 ·rw [← h2] at hq
  have:=h.tk.dat q hq
  omega
theorem tokD_len {ws : List (List Int)} {n : Nat} (h : ∀ x ∈ ws,(toks x).length ≤ n) : (tokD ws).length ≤ n * ws.length:=by
 induction ws with
 | nil => simp [tokD]
 | cons x r ih =>
  have:=ih (fun y hy => h y (by simp [hy]))
  have hx:=h x (by simp)
  unfold tokD at *
  simp only [List.flatMap_cons,List.length_append,List.length_cons,List.length_map,Nat.mul_add,Nat.mul_one]
  omega
noncomputable def dclPc (d : S68) : Pc:=⟨⟨#[100,101,99,108,97,114,97,116,105,111,110]⟩,d.f0,barW (tokD d.f1)⟩
def PcsS (w0 w : World) (v : Value) (ps : List Pc) : Prop :=
 ∃ vs : List Value,w.ownsRow w0.heap.size 55 6 v ps.length vs ∧ ∀ (i : Nat) (q : Pc),ps[i]? = some q → ∃ A c tv,vs[i * 6]? = some (.string q.kind) ∧ vs[i * 6 + 1]? = some (.slice A q.data.length c) ∧ vs[i * 6 + 2]? = some tv ∧ vs[i * 6 + 3]? = some (.slice none 0 0) ∧ vs[i * 6 + 4]? = some (.slice none 0 0) ∧ vs[i * 6 + 5]? = some (.string ⟨#[]⟩) ∧ q.data.length ≤ c ∧ Kd.C (Kd.int .u8) w0 A q.data.length q.data ∧ Rd w tv q.text
theorem PcsS.below {w0 w w' : World} {v : Value} {ps : List Pc} (h : PcsS w0 w v ps) (k : Below w.heap.size w w') : PcsS w0 w' v ps:=by
 obtain ⟨vs,ho,hc⟩:=h
 refine ⟨vs,pw_own_below ho k,fun i q hq => ?_⟩
 obtain ⟨A,c,tv,d1,d2,d3,d4,d5,d6,d7,d8,d9⟩:=hc i q hq
 exact ⟨A,c,tv,d1,d2,d3,d4,d5,d6,d7,d8,d9.below k⟩
theorem PcsS.slice {w0 w : World} {v : Value} {ps : List Pc} (h : PcsS w0 w v ps) : ∃ A c,v = .slice A ps.length c:=by
 obtain ⟨vs,ho,hc⟩:=h
 obtain ⟨A,c,e⟩:=own_slice ho
 exact ⟨A,c,e⟩
theorem PcsS.snoc {w0 wr w1 : World} {a7 v1 : Value} {vs : List Value} {ps : List Pc} {p : Pc} {A : Option Addr} {c : Nat} {tv : Value}
  (ho : wr.ownsRow w0.heap.size 55 6 a7 ps.length vs) (hc : ∀ (i : Nat) (q : Pc),ps[i]? = some q → ∃ A c tv,vs[i * 6]? = some (.string q.kind) ∧ vs[i * 6 + 1]? = some (.slice A q.data.length c) ∧ vs[i * 6 + 2]? = some tv ∧ vs[i * 6 + 3]? = some (.slice none 0 0) ∧ vs[i * 6 + 4]? = some (.slice none 0 0) ∧ vs[i * 6 + 5]? = some (.string ⟨#[]⟩) ∧ q.data.length ≤ c ∧ Kd.C (Kd.int .u8) w0 A q.data.length q.data ∧ Rd wr tv q.text)
  (hg1 : wr.grownBy w1 a7.ownBlock) (ho1 : w1.ownsRow w0.heap.size 55 6 v1 (ps.length + 1) (vs ++ [.string p.kind,.slice A p.data.length c,tv,.slice none 0 0,.slice none 0 0,.string ⟨#[]⟩]))
  (hd : p.data.length ≤ c ∧ Kd.C (Kd.int .u8) w0 A p.data.length p.data) (ht : Rd wr tv p.text) : PcsS w0 w1 v1 (ps ++ [p]):=by
 have hvl : vs.length = ps.length * 6:=ho.1
 have hrd : ∀ v xs,Rd wr v xs → Rd w1 v xs:=by
  rintro v xs ⟨A,n,cp,rfl,h1,h2,h3⟩
  refine ⟨A,n,cp,rfl,h1,h2,fun hp => ?_⟩
  obtain ⟨g,o,cs,fr,e,hgg,hcc⟩:=h3 hp
  refine ⟨g,o,cs,fr,e,(hg1.block g (blk_lt hgg) ?_).trans hgg,hcc⟩
  intro he
  rcases ho.2 with ⟨rfl,_⟩|⟨g',cap,cur,rfl,_,hh,_⟩
  ·cases he
  ·injection he with he
   subst he
   rw [hh] at hgg
   injection hgg with hgg
   injection hgg with _ hgg
   cases hgg
 refine ⟨vs ++ [.string p.kind,.slice A p.data.length c,tv,.slice none 0 0,.slice none 0 0,.string ⟨#[]⟩],by simpa using ho1,fun i q hq => ?_⟩
 have hil:=(List.getElem?_eq_some_iff.1 hq).1
 rw [List.length_append] at hil
 simp only [List.length_cons,List.length_nil] at hil
 rcases Nat.lt_or_ge i ps.length with hi|hi
 ·rw [List.getElem?_append_left hi] at hq
  obtain ⟨A2,c2,tv2,d1,d2,d3,d4,d5,d6,d7,d8,d9⟩:=hc i q hq
  refine ⟨A2,c2,tv2,?_,?_,?_,?_,?_,?_,d7,d8,hrd _ _ d9⟩ <;> (rw [List.getElem?_append_left (by omega)];assumption)
 ·have hie : i = ps.length:=by omega
  subst hie
  rw [List.getElem?_append_right (by omega),Nat.sub_self] at hq
  simp at hq
  subst hq
  refine ⟨A,c,tv,?_,?_,?_,?_,?_,?_,hd.1,hd.2,hrd _ _ ht⟩
  ·rw [List.getElem?_append_right (by omega),hvl,Nat.sub_self];rfl
  ·rw [List.getElem?_append_right (by omega),hvl,show ps.length * 6 + 1 - ps.length * 6 = 1 by omega];rfl
  ·rw [List.getElem?_append_right (by omega),hvl,show ps.length * 6 + 2 - ps.length * 6 = 2 by omega];rfl
  ·rw [List.getElem?_append_right (by omega),hvl,show ps.length * 6 + 3 - ps.length * 6 = 3 by omega];rfl
  ·rw [List.getElem?_append_right (by omega),hvl,show ps.length * 6 + 4 - ps.length * 6 = 4 by omega];rfl
  ·rw [List.getElem?_append_right (by omega),hvl,show ps.length * 6 + 5 - ps.length * 6 = 5 by omega];rfl
def DpP (w : World) (ps : List Pc) (e : Ending) (w' : World) : Prop:=∃ v,e = .returned v ∧ PcsS w w' v ps ∧ Below w.heap.size w w'
theorem step_append_run {P : Program} {ops : Array Oper} {o : Oper} {a : Act} {w : World} {K : Act → World → Prop} {Q : Exit → Act → World → Prop} {E : Prop} (hgd : o.guard = none) (s x : Operand) (t : TypeId)
  (ho : o.op = .call { callee:=.builtin .append,args:=#[s,x],argTypes:=#[t,t] }) (v y v' : Value) (w' : World) (hs : a.eval s = v) (hx : a.eval x = y)
  (hr : (Builtin.append_ #[t,t] o.type #[v,y]).run P w = .ok v' w') (h : K (a.put o.dst v') w') : if Region.wanted o (yielded ops a.tmps) = true then Oper.wp P o a w K Q else E:=by
 have hw : Region.wanted o (yielded ops a.tmps) = true:=by simp [Region.wanted,hgd]
 rw [if_pos hw]
 unfold Oper.wp execOp
 simp only [ho,resolve,invoke,builtin,Sem.run_bind,Sem.run_pure,Result.andThen_ok,List.map_toArray,List.map_cons,List.map_nil,hs,hx,hr]
 exact h
theorem dp_append {w0 W : World} {v3 : Value} {ps : List Pc} {p : Pc} {A : Option Addr} {c : Nat} {tv : Value} (hle : ps.length ≤ 1000) (hP : PcsS w0 W v3 ps) (hb : Below w0.heap.size w0 W) (hd : p.data.length ≤ c ∧ Kd.C (Kd.int .u8) w0 A p.data.length p.data) (ht : Rd W tv p.text) :
  ∃ v' w',(Builtin.append_ #[26,26] 26 #[v3,.slice (some ⟨W.heap.size,0,none⟩) 1 1]).run Tryz.prog (W.alloc (.cells #[.string p.kind,.slice A p.data.length c,tv,.slice none 0 0,.slice none 0 0,.string ⟨#[]⟩] 55)) = .ok v' w' ∧ PcsS w0 w' v' (ps ++ [p]) ∧ Below w0.heap.size w0 w' ∧ (W.alloc (.cells #[.string p.kind,.slice A p.data.length c,tv,.slice none 0 0,.slice none 0 0,.string ⟨#[]⟩] 55)).grownBy w' v3.ownBlock ∧ (∀ (g : Nat) (cs : Array Value),W.heap[g]? = some (.cells cs 68 (0,0)) → w'.heap[g]? = some (.cells cs 68 (0,0))):=by
 obtain ⟨vs,ho,hc⟩:=hP
 obtain ⟨i0,hi,hzz⟩:=Option.map_eq_some_iff.1 info55z
 simp only [Prod.mk.injEq] at hzz
 obtain ⟨hz0,hz1,hz2⟩:=hzz
 have hone : ∀ u ∈ [Value.string p.kind,.slice A p.data.length c,tv,.slice none 0 0,.slice none 0 0,.string ⟨#[]⟩],u.oneCell' = true:=by
  have:=ht.one
  intro u hu;simp at hu;rcases hu with rfl|rfl|rfl|rfl|rfl <;> first|rfl|exact this
 have hba:=below_alloc (Below.refl W.heap.size W) (.cells #[.string p.kind,.slice A p.data.length c,tv,.slice none 0 0,.slice none 0 0,.string ⟨#[]⟩] 55)
 have ho2:=pw_own_below ho hba
 obtain ⟨v',w',h1,h2,h3,-⟩:=run_append_own (P:=Tryz.prog) (W.alloc (.cells #[.string p.kind,.slice A p.data.length c,tv,.slice none 0 0,.slice none 0 0,.string ⟨#[]⟩] 55)) w0.heap.size 26 26 55 i0 _ 6 128 Tryz.underlying26 hi hz0 hz1 hz2 rfl (by decide) v3 ps.length vs ho2 ⟨W.heap.size,0,none⟩ 1 1 [.string p.kind,.slice A p.data.length c,tv,.slice none 0 0,.slice none 0 0,.string ⟨#[]⟩] rfl
  (World.news_of_block (cs:=#[.string p.kind,.slice A p.data.length c,tv,.slice none 0 0,.slice none 0 0,.string ⟨#[]⟩]) (t:=55) (fr:=(0,0)) (heap_alloc_new W _)) hone (by simp only [maxLen];omega) (by omega) (by have:=hb.size;simp;omega)
 refine ⟨v',w',h1,PcsS.snoc ho2 (fun i q hq => ?_) h3 h2 hd (ht.below hba),(hb.alloc hb.size _).grown h3 (by have:=hb.size;simp;omega) (own_base ho),h3,fun g cs hg => ?_⟩
 ·obtain ⟨A2,c2,tv2,d1,d2,d3,d4,d5,d6,d7,d8,d9⟩:=hc i q hq
  exact ⟨A2,c2,tv2,d1,d2,d3,d4,d5,d6,d7,d8,d9.below hba⟩
 ·have hg2:=pw_blk_below hg hba
  exact blk_grown hg2 h3 (own_ne ho2 hg2 (by decide))
theorem DeclarationPieces_any {w : World} {A : Option Addr} {c : Nat} {ds : List S68} (h : DL w A c ds) (hv : Vds ds) (hT : TabU w) :
  Calls Tryz.prog 13 #[.slice A ds.length c] w (DpP w (ds.map dclPc)):=by
 have hl:=hv.len
 have HV:=Aside0.mk (And.intro h hv)
 have HT:=Aside0.mk hT
 clear h hv hT
 have hP0 : PcsS w (w.alloc (.cells #[] 55)) (.slice (some ⟨w.heap.size,0,none⟩) 0 0) ((ds.map dclPc).take 0) ∧ Below w.heap.size w (w.alloc (.cells #[] 55)):=by
  refine ⟨⟨[],⟨rfl,.inr ⟨w.heap.size,0,#[],rfl,Nat.le_refl _,?_,by simp,by simp [maxLen],by simp,by simp⟩⟩,fun i q hq => by simp at hq⟩,below_alloc (Below.refl _ _) _⟩
  simpa using heap_alloc_new w (.cells #[] 55)
 have HP0:=Aside0.mk hP0
 clear hP0
 go_enter Tryz.func13,Tryz.ntmps13
 go_wp2
 go_loopg [3,9] (ds.length + 1) (fun gk v3 v9 wr => ∃ j : Int,v9 = .int .i64 j ∧ 0 ≤ j ∧ j ≤ ds.length ∧ Aside0 (PcsS w wr v3 ((ds.map dclPc).take j.toNat) ∧ Below w.heap.size w wr) ∧ gk = ((ds.length : Int) - j).toNat + 1)
 case atStart => exact ⟨0,rfl,by omega,by omega,HP0,by omega⟩
 case round =>
  clear HP0
  obtain ⟨j,rfl,h0,h1,HR,rfl⟩:=hrel
  obtain ⟨A3,c3,rfl⟩:=HR.out.1.slice
  by_cases hj : j < ds.length
  ·obtain ⟨ad,A0,c0,A1,c1,d,rfl,hx,x0,x1,hvb,hvl⟩:=HV.out.1.get h0 hj
   replace x0:=pw_cell_below HR.out.2 x0
   replace x1:=pw_cell_below HR.out.2 x1
   have hjt:=eq_true h0
   have HX:=Aside0.mk (And.intro hx (And.intro hvb (And.intro hvl (HV.out.2.ok d (List.mem_of_getElem? hx)))))
   have hpl : ((ds.map dclPc).take j.toNat).length ≤ 10:=by rw [List.length_take,List.length_map];omega
   clear hx hvb hvl
   have hB4 : Below w.heap.size w (wr.alloc (.cells #[.slice A0 d.f0.length c0,.slice A1 d.f1.length c1] 68)):=below_alloc HR.out.2 _
   have HB4:=Aside0.mk (And.intro hB4 (heap_alloc_new wr (.cells #[.slice A0 d.f0.length c0,.slice A1 d.f1.length c1] 68)))
   clear hB4
   have y0 : (wr.alloc (.cells #[.slice A0 d.f0.length c0,.slice A1 d.f1.length c1] 68)).cell? ⟨wr.heap.size,0,none⟩ = some (.slice A0 d.f0.length c0):=by rw [blk_cell HB4.out.2];rfl
   have y1 : (wr.alloc (.cells #[.slice A0 d.f0.length c0,.slice A1 d.f1.length c1] 68)).cell? ⟨wr.heap.size,1,none⟩ = some (.slice A1 d.f1.length c1):=by rw [blk_cell HB4.out.2];rfl
   have hB5 : Below w.heap.size w (wr.alloc (.cells #[.slice A0 d.f0.length c0,.slice A1 d.f1.length c1] 68)).drew:=pw_below_drewN HB4.out.1 1
   have hw : ∀ x ∈ d.f1,N0 x ∧ Nb x ∧ (toks x).length ≤ 60 ∧ ∀ q ∈ toks x,q.2.length ≤ 60:=fun x hx => by
    obtain ⟨qs,hq⟩:=HX.out.2.2.2.words.ok x hx
    have:=hq.toks_le ⟨by have:=hq.len;omega,HX.out.2.2.1.by_ x hx⟩
    exact ⟨hq.n0,hq.nb,this.1,this.2⟩
   have hwl:=HX.out.2.2.2.words.len
   have hl1:=tokD_len (ws:=d.f1) (n:=60) (fun x hx => (hw x hx).2.2.1)
   have hl2:=barW_len (ws:=tokD d.f1) (n:=60) (fun x hx => by
    unfold tokD at hx
    rw [List.mem_flatMap] at hx
    obtain ⟨y,hy,hx⟩:=hx
    rw [List.mem_map] at hx
    obtain ⟨q,hq,rfl⟩:=hx
    exact (hw y hy).2.2.2 q hq)
   have HTK:=Aside0.mk (And.intro (HX.out.2.2.1.below hB5) (And.intro (HT.out.below hB5) (And.intro (fun x hx => And.intro (hw x hx).1 (hw x hx).2.1 : ∀ x ∈ d.f1,N0 x ∧ Nb x) (And.intro (show (tokD d.f1).length ≤ 1000000 by omega) (And.intro (show d.f1.length ≤ 1000000 by omega) (show (barW (tokD d.f1)).length ≤ 1000000 by omega))))))
   have HB5:=Aside0.mk hB5
   have HPJ : Aside0 (((ds.map dclPc).take j.toNat).length = j.toNat ∧ j.toNat ≤ 10):=⟨by rw [List.length_take,List.length_map];omega,by omega⟩
   clear hw hwl hl1 hl2 hB5
   go_wp2_with (fail)
   go_region_held3 (fun w' => w'.cell? ⟨wr.heap.size,0,none⟩ = some (.slice A0 d.f0.length c0) ∧ w'.cell? ⟨wr.heap.size,1,none⟩ = some (.slice A1 d.f1.length c1)) (first|exact ⟨y0,y1⟩|exact ⟨z0,z1⟩|exact ⟨t0,t1⟩|exact ⟨s0,s1⟩|exact ⟨r0,r1⟩|go_keep)
    (first
     | (go_at_call 28;(with_reducible refine (tokensOf_any HTK.out.1 HTK.out.2.1 HTK.out.2.2.1 HTK.out.2.2.2.1 HTK.out.2.2.2.2.1).mono ?_);rintro e w5 ⟨A6,c6,rfl,hWL,hb5⟩;have hk5:=pw_blk_below (show (wr.alloc (.cells #[.slice A0 d.f0.length c0,.slice A1 d.f1.length c1] 68)).drew.heap[wr.heap.size]? = _ from HB4.out.2) hb5;have z0 : w5.cell? ⟨wr.heap.size,0,none⟩ = some (.slice A0 d.f0.length c0):=(by rw [blk_cell hk5];rfl);have z1 : w5.cell? ⟨wr.heap.size,1,none⟩ = some (.slice A1 d.f1.length c1):=(by rw [blk_cell hk5];rfl);have HB6:=Aside0.mk (And.intro hWL (And.intro hb5 hk5));clear hWL hb5 hk5)
     | (go_at_call 27;(with_reducible refine (part_any ⟨#[100,101,99,108,97,114,97,116,105,111,110]⟩ A0 d.f0.length c0 HB6.out.1 HTK.out.2.2.2.2.2 HTK.out.2.2.2.1).mono ?_);rintro e w6 ⟨v6,rfl,hown6,hb6⟩;obtain ⟨Av,cv,rfl⟩:=own_slice hown6;have hk6:=pw_blk_below HB6.out.2.2 hb6;have t0 : w6.cell? ⟨wr.heap.size,0,none⟩ = some (.slice A0 d.f0.length c0):=(by rw [blk_cell hk6];rfl);have t1 : w6.cell? ⟨wr.heap.size,1,none⟩ = some (.slice A1 d.f1.length c1):=(by rw [blk_cell hk6];rfl);have hB06:=((pw_below_drewN (below_alloc (Below.refl wr.heap.size wr) (.cells #[.slice A0 d.f0.length c0,.slice A1 d.f1.length c1] 68)) 1).trans (HB6.out.2.1.mono (by simp))).trans (hb6.mono (by have:=HB6.out.2.1.size;have e : (wr.alloc (.cells #[.slice A0 d.f0.length c0,.slice A1 d.f1.length c1] 68)).drew.heap.size = wr.heap.size + 1:=(by simp);omega));obtain ⟨v7,w7,hrun,hP7,hb7,hg7,hk7⟩:=dp_append (p:=dclPc d) (A:=A0) (c:=c0) (by have:=HPJ.out;omega) (HR.out.1.below hB06) (HR.out.2.trans (hB06.mono HR.out.2.size)) ⟨HX.out.2.1.cap,HX.out.2.1.rd⟩ (rd_own hown6 rfl (by have:=HTK.out.2.2.2.2.2;omega));rw [HPJ.out.1] at hrun;dsimp only [dclPc] at hrun;have hkk:=hk7 _ _ hk6;have s0 : w7.cell? ⟨wr.heap.size,0,none⟩ = some (.slice A0 d.f0.length c0):=(by rw [blk_cell hkk];rfl);have s1 : w7.cell? ⟨wr.heap.size,1,none⟩ = some (.slice A1 d.f1.length c1):=(by rw [blk_cell hkk];rfl);have HB7:=Aside0.mk (And.intro hP7 hb7);clear hown6 hb6 hk6 hB06 hP7 hb7 hg7 hk7 hkk)
     | (refine step_append_run rfl (.tmp 13) (.tmp 20) 26 rfl (.slice A3 j.toNat c3) (.slice (some ⟨w6.heap.size,0,none⟩) 1 1) v7 w7 (by first|rfl|simp [Act.eval,Act.put]) (by first|rfl|simp [Act.eval,Act.put]) hrun ?_))
   clear hrun
   go_wp2_with (fail)
   go_roundg (((ds.length : Int) - (j + 1)).toNat + 1)
   case measure => omega
   case rel =>
    refine ⟨j + 1,rfl,by omega,by omega,⟨?_⟩,rfl⟩
    have e : (ds.map dclPc).take (j + 1).toNat = (ds.map dclPc).take j.toNat ++ [dclPc d]:=by
     rw [show (j + 1).toNat = j.toNat + 1 by omega,List.take_add_one,List.getElem?_map,HX.out.1];rfl
    rw [e]
    exact HB7.out
  ·have hje : j = ds.length:=by omega
   subst hje
   go_wp2
   go_ret
   have h7:=HR.out
   rw [show ((ds.length : Nat) : Int).toNat = ds.length by omega,List.take_of_length_le (by rw [List.length_map];omega)] at h7
   refine ⟨_,rfl,?_,h7.2⟩
   have h8:=h7.1
   rw [List.length_map] at h8
   exact h8
end Go.Proofs.YtlglijnaeaonpaaGreatDoor.Lx
end
