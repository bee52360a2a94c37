/- FnStyle: a part of the proof (Mr). -/
import Derived.Test.YtlglijnaeaonpaaGreatDoorMn
import Derived.StillTailTactics
import Derived.Lib.SlBytesConst
import Derived.Deep.LoopGhost
import Derived.Deep.DeepCutAuto
import Derived.ArgAppend
section
set_option maxHeartbeats 8000000
set_option maxRecDepth 100000
set_option linter.unusedVariables false
set_option linter.unusedSimpArgs false
namespace Go.Proofs.YtlglijnaeaonpaaGreatDoor.Lx
open Go.RowKit Go.Proofs.YtlglijnaeaonpaaGreatDoorW.PrintWords
variable {w0 w wr : World} {c : Cfg} {p : Int} {B : Nat} {gp : Nat} {v : PV} {ts : List Tk} {fs : List Nat} {ds : List Int} {k q : Int} {xs : List Int} {K : Act → World → Prop} {Q : Exit → Act → World → Prop} {l : List Value} {off : Int}
theorem Tb.at_ {b : Value} (h : Tb B w b ts) {i : Nat} {t : Tk} (hi : ts[i]? = some t) : ∃ g o n cap dv,b = .slice (some ⟨g,o,none⟩) n cap ∧ ts.length = n ∧ i < n ∧ n ≤ cap ∧ w.cell? ⟨g,o + i * 2,none⟩ = some (.int .u32 t.tt) ∧ w.cell? ⟨g,o + i * 2 + 1,none⟩ = some dv ∧ Rd w dv t.bs:=by
 obtain ⟨A,n,cap,rfl,h1,h2,h3,h4⟩:=h
 have hin:=(List.getElem?_eq_some_iff.1 hi).1
 obtain ⟨g,o,cs,rfl,hBg,hg,hs,hc⟩:=h4 (by omega)
 obtain ⟨dv,e1,e2,e3⟩:=hc i t hi
 exact ⟨g,o,n,cap,dv,rfl,h1,by omega,h2,by rw [blk_cell hg];exact e1,by rw [blk_cell hg];exact e2,e3⟩
theorem Tb.drop {g o n cap : Nat} (h : Tb B w (.slice (some ⟨g,o,none⟩) n cap) ts) (k : Nat) (hk : k ≤ n) : Tb B w (.slice (some ⟨g,o + k * 2,none⟩) (n - k) (cap - k)) (ts.drop k):=by
 obtain ⟨A,n',cap',e,h1,h2,h3,h4⟩:=h
 injection e with e e' e''
 subst e;subst e';subst e''
 refine ⟨_,_,_,rfl,by simp [h1],by omega,by omega,fun hp => ?_⟩
 obtain ⟨g',o',cs,e,hBg,hg,hs,hc⟩:=h4 (by omega)
 injection e with e
 injection e with e e'
 subst e;subst e'
 refine ⟨_,_,cs,rfl,hBg,hg,by omega,fun i t ht => ?_⟩
 rw [List.getElem?_drop] at ht
 obtain ⟨dv,e1,e2,e3⟩:=hc (k + i) t ht
 exact ⟨dv,by rw [show o + k * 2 + i * 2 = o + (k + i) * 2 by omega];exact e1,by rw [show o + k * 2 + i * 2 = o + (k + i) * 2 by omega];exact e2,e3⟩
theorem Tb.zero (A : Option Addr) : Tb B w (.slice A 0 0) []:=⟨A,0,0,rfl,rfl,by omega,by simp [maxLen],fun h => by omega⟩
def Stp (B : Nat) (w0 : World) (c : Cfg) (gp : Nat) (w : World) (k2 : Int) (p : Int) (v : PV) (ts : List Tk) (fs : List Nat) (ds : List Int) (l : List Value) (wx : World) : Prop :=
 Fr gp l ∧ l.getD 4 default = .int .u32 k2 ∧ Pk B w0 c gp w wx p v ts fs ds
theorem dec7 {k2 : Int} {m : Nat} {cl : Tk} (h : Stp B w0 c gp w k2 p v ts fs ds l wr) (h6 : l.getD 6 default = .int .i64 1) (h1 : 1 ≤ m) (hm : ts[m]? = some cl) (hc : cl.tt = 23) (hb : ∀ i,1 ≤ i → i < m → ∃ t,ts[i]? = some t ∧ t.tt = 20) (hn : ts.length ≤ 100000000)
  (hK : ∀ l',l'.getD 6 default = .int .i64 m → Stp B w0 c gp w k2 p v ts fs ds l' wr → K ⟨l'.toArray,[]⟩ wr) : Code.wp Tryz.prog (nav [0,1,0,1,0,1,0] db) (Exit.then K Q) ⟨l.toArray,[]⟩ wr:=by
 have HP:=Aside0.mk h
 have HB:=Aside0.mk hb
 have HC:=Aside0.mk (And.intro hm hc)
 have hml:=(List.getElem?_eq_some_iff.1 hm).1
 conv => arg 2;whnf
 clear hb hm hc
 go_wp2_with (fail)
 refine wp_loop_list 453 (fun g l' wx => ∃ i : Nat,g = m - i ∧ 1 ≤ i ∧ i ≤ m ∧ l'.getD 6 default = .int .i64 i ∧ wx = wr ∧ Stp B w0 c gp w k2 p v ts fs ds l' wr) (m - 1) _ HP.out.1.1 ⟨1,rfl,Nat.le_refl _,h1,h6,rfl,HP.out⟩ ?_
 clear h h6 HP
 rintro n l wx hl ⟨i,hni,hi1,hi2,h6,rfl,⟨⟨_,hl0⟩,h4,hP⟩⟩ J hJ
 obtain ⟨f,hf,rfl⟩:=lit453 l hl
 rw [hf] at hl0 h6 h4
 rw [hl0,h6,h4]
 clear hf hl hl0 h6 h4
 have c4:=hP.1.c4
 have HP:=Aside0.mk hP
 by_cases him : i = m
 ·subst him
  obtain ⟨g,o,n',cap,dv,hbv,e1,e2,e3,e4,e5,e6⟩:=hP.1.tb.at_ HC.out.1
  rw [HC.out.2] at e4
  rw [hbv] at c4
  clear hP hbv e6 e5
  go_wp2_with (fail)
  exact hK _ rfl ⟨⟨by kernel_rfl,rfl⟩,rfl,HP.out⟩
 ·obtain ⟨t,ht,ht2⟩:=HB.out i hi1 (by omega)
  obtain ⟨g,o,n',cap,dv,hbv,e1,e2,e3,e4,e5,e6⟩:=hP.1.tb.at_ ht
  rw [ht2] at e4
  rw [hbv] at c4
  have hb2 : i ≤ 100000000:=by omega
  clear hP hbv e6 e5 ht ht2
  go_wp2_with (fail)
  exact hJ (m - (i + 1)) _ _ (by omega) (by kernel_rfl) ⟨i + 1,rfl,by omega,by omega,rfl,rfl,⟨by kernel_rfl,rfl⟩,rfl,HP.out⟩
theorem dec9 {k2 : Int} {m : Nat} {cl : Tk} (h : Stp B w0 c gp w k2 p v ts fs ds l wr) (h6 : l.getD 6 default = .int .i64 m) (hm : ts[m]? = some cl) (hc : cl.tt = 23) (hn : ts.length ≤ 100000000)
  (hK : ∀ l',l'.getD 6 default = .int .i64 m → Stp B w0 c gp w k2 p v ts fs ds l' wr → K ⟨l'.toArray,[]⟩ wr) : Code.wp Tryz.prog (nav [0,1,0,1,0,1,1,0] db) (Exit.then K Q) ⟨l.toArray,[]⟩ wr:=by
 obtain ⟨⟨hl,hl0⟩,h4,hP⟩:=h
 obtain ⟨f,hf,rfl⟩:=lit453 l hl
 rw [hf] at hl0 h4
 rw [hl0,h4]
 rw [hf] at h6
 rw [h6]
 clear hf hl hl0 h4 h6
 have c4:=hP.1.c4
 have hml:=(List.getElem?_eq_some_iff.1 hm).1
 have HP:=Aside0.mk hP
 obtain ⟨g,o,n',cap,dv,hbv,e1,e2,e3,e4,e5,e6⟩:=hP.1.tb.at_ hm
 rw [hc] at e4
 rw [hbv] at c4
 have hz : ((n' : Int) == (m : Int)) = false:=by simp;omega
 clear hP hbv e6 e5 hm hc
 conv => arg 2;whnf
 go_wp2_with (fail)
 exact hK _ rfl ⟨⟨by kernel_rfl,rfl⟩,rfl,HP.out⟩
theorem dec14 {k2 : Int} {m : Nat} {cl : Tk} (h : Stp B w0 c gp w k2 p v ts fs ds l wr) (h0 : 0 < B) (h6 : l.getD 6 default = .int .i64 m) (hm : ts[m]? = some cl) (hn : ts.length ≤ 100000000)
  (hK : ∀ l' wx b',Stp B w0 c gp w k2 p { v with buf:=b' } (ts.drop (m + 1)) fs ds l' wx → K ⟨l'.toArray,[]⟩ wx) : Code.wp Tryz.prog (nav [0,1,0,1,0,1,1,1,0] db) (Exit.then K Q) ⟨l.toArray,[]⟩ wr:=by
 obtain ⟨⟨hl,hl0⟩,h4,hP⟩:=h
 obtain ⟨f,hf,rfl⟩:=lit453 l hl
 rw [hf] at hl0 h4
 rw [hl0,h4]
 rw [hf] at h6
 rw [h6]
 clear hf hl hl0 h4 h6
 have c4:=hP.1.c4
 have f4:=hP.1.f 4
 have hml:=(List.getElem?_eq_some_iff.1 hm).1
 have HP:=Aside0.mk hP
 have ht:=hP.1.tb
 obtain ⟨g,o,n',cap,dv,hbv,e1,e2,e3,e4,e5,e6⟩:=hP.1.tb.at_ hm
 rw [hbv] at c4 ht
 have HT:=Aside0.mk (ht.drop (m + 1) (by omega))
 clear hP hbv e6 e5 hm ht
 conv => arg 2;whnf
 go_wp2_with (fail)
 ·have hcap : cap = m + 1:=by assumption
  have hd0 : ts.drop (m + 1) = []:=List.drop_eq_nil_of_le (by omega)
  have hn0 : n' - (m + 1) = 0:=by omega
  have ht : Tb B wr (.slice (some ⟨g,o,none⟩) (n' - (m + 1)) 0) (ts.drop (m + 1)):=by rw [hd0,hn0];exact Tb.zero _
  exact hK _ _ _ ⟨⟨by kernel_rfl,rfl⟩,rfl,HP.out.1.rebuf h0 (K59.of_below (Below.refl _ _) HP.out.1.hB) ht,HP.out.2.trans (HP.out.1.kset 4 _)⟩
 ·exact hK _ _ _ ⟨⟨by kernel_rfl,rfl⟩,rfl,HP.out.1.rebuf h0 (K59.of_below (Below.refl _ _) HP.out.1.hB) HT.out,HP.out.2.trans (HP.out.1.kset 4 _)⟩
def nonws (ts : List Tk) : List Tk:=ts.filter (fun t => !(t.tt == 20))
theorem dec15 {k2 : Int} {N0 : List Tk} (h : Stp B w0 c gp w k2 p v ts fs ds l wr) (h0 : 0 < B) (hn : ts.length ≤ 100000000) (hN : nonws ts = N0)
  (hK : ∀ l' wx b' ts',nonws ts' = N0 → ts'.length ≤ 100000000 → Stp B w0 c gp w k2 p { v with buf:=b' } ts' fs ds l' wx → K ⟨l'.toArray,[]⟩ wx) : Code.wp Tryz.prog (nav [0,1,0,1,0,1,1,1,1,0] db) (Exit.then K Q) ⟨l.toArray,[]⟩ wr:=by
 have HP:=Aside0.mk h
 have HN:=Aside0.mk hN
 conv => arg 2;whnf
 clear h hN
 go_wp2_with (fail)
 refine wp_loop_list 453 (fun g l' wx => ∃ b' ts',g = ts'.length ∧ nonws ts' = N0 ∧ ts'.length ≤ 100000000 ∧ Stp B w0 c gp w k2 p { v with buf:=b' } ts' fs ds l' wx) ts.length _ HP.out.1.1 ⟨v.buf,ts,rfl,HN.out,hn,HP.out⟩ ?_
 clear HP hn
 rintro n l wx hl ⟨b',ts',hni,hN2,hn2,⟨⟨_,hl0⟩,h4,hP⟩⟩ J hJ
 obtain ⟨f,hf,rfl⟩:=lit453 l hl
 rw [hf] at hl0 h4
 rw [hl0,h4]
 clear hf hl hl0 h4
 have c4:=hP.1.c4
 have f4:=hP.1.f 4
 have HP:=Aside0.mk hP
 have HNI:=Aside0.mk hni
 have HN2:=Aside0.mk hN2
 cases hts : ts' with
 | nil =>
  obtain ⟨A,n',cap,hbv,e1,e2⟩:=hP.1.tb.getD
  rw [hts] at e1
  have en : n' = 0:=e1.symm
  subst en
  simp only at hbv
  rw [hbv] at c4
  have HT:=Aside0.mk hts
  clear hP hbv hts hN2 hni
  go_wp2_with (fail)
  exact hK _ _ b' ts' HN2.out hn2 ⟨⟨by kernel_rfl,rfl⟩,rfl,HP.out⟩
 | cons t r =>
  obtain ⟨g,o,n',cap,dv,hbv,e1,e2,e3,e4,e5,e6⟩:=hP.1.tb.at_ (i:=0) (t:=t) (by rw [hts];rfl)
  simp only at hbv
  have ht:=hP.1.tb
  simp only at ht
  rw [hbv] at c4 ht
  have HT:=Aside0.mk (And.intro hts (ht.drop 1 (by omega)))
  have hz : (0 : Int) < (n' : Int):=by omega
  simp only [Nat.zero_mul,Nat.add_zero] at e4
  clear hP hbv e6 e5 ht hN2 hni hts
  by_cases hk : t.tt = 20
  ·rw [hk] at e4
   have HKK:=Aside0.mk hk
   clear hk
   go_wp2_with (fail)
   all_goals
    have hts:=HT.out.1
    have hnw : nonws (ts'.drop 1) = N0:=by rw [← HN2.out,hts];simp [nonws,HKK.out]
    have hlen : (ts'.drop 1).length < n:=by rw [HNI.out,hts];simp
    have hlen2 : (ts'.drop 1).length ≤ 100000000:=by simp;omega
   ·have hcap : cap = 1:=by assumption
    have hd0 : ts'.drop 1 = []:=List.drop_eq_nil_of_le (by omega)
    have hn0 : n' - 1 = 0:=by omega
    have ht : Tb B wx (.slice (some ⟨g,o,none⟩) (n' - 1) 0) (ts'.drop 1):=by rw [hd0,hn0];exact Tb.zero _
    exact hJ _ _ _ hlen (by kernel_rfl) ⟨_,ts'.drop 1,rfl,hnw,hlen2,⟨by kernel_rfl,rfl⟩,rfl,HP.out.1.rebuf h0 (K59.of_below (Below.refl _ _) HP.out.1.hB) ht,HP.out.2.trans (HP.out.1.kset 4 _)⟩
   ·exact hJ _ _ _ hlen (by kernel_rfl) ⟨_,ts'.drop 1,rfl,hnw,hlen2,⟨by kernel_rfl,rfl⟩,rfl,HP.out.1.rebuf h0 (K59.of_below (Below.refl _ _) HP.out.1.hB) HT.out.2,HP.out.2.trans (HP.out.1.kset 4 _)⟩
  ·have hk2 : (t.tt == 20) = false:=by simpa using hk
   clear hk
   go_wp2_with (fail)
   exact hK _ _ b' ts' HN2.out hn2 ⟨⟨by kernel_rfl,rfl⟩,rfl,HP.out⟩
def Cm (B : Nat) (w0 : World) (c : Cfg) (gp : Nat) (w : World) (k2 : Int) (p : Int) (v : PV) (N0 : List Tk) (ts : List Tk) (fs : List Nat) (ds : List Int) (j i : Nat) (l : List Value) (wx : World) : Prop :=
 Stp B w0 c gp w k2 p v ts fs ds l wx ∧ l.getD 7 default = .int .i64 j ∧ l.getD 8 default = .int .i64 i ∧ j ≤ i ∧ i ≤ ts.length ∧ ts.length ≤ 100000000 ∧ nonws (ts.take j) ++ nonws (ts.drop i) = N0
theorem nonws_keep {ts : List Tk} {j i : Nat} {t : Tk} (hj : j ≤ i) (ht : ts[i]? = some t) : nonws ((ts.set j t).take (j + 1)) ++ nonws ((ts.set j t).drop (i + 1)) = nonws (ts.take j) ++ nonws (ts.drop i):=by
 have hi:=(List.getElem?_eq_some_iff.1 ht).1
 have hg:=(List.getElem?_eq_some_iff.1 ht).2
 have e1 : (ts.set j t).take (j + 1) = ts.take j ++ [t]:=by
  rw [List.take_add_one,List.take_set_of_le (by omega),List.getElem?_set_self (by omega)]
  rfl
 have e2 : (ts.set j t).drop (i + 1) = ts.drop (i + 1):=List.drop_set_of_lt (by omega)
 have e3 : ts.drop i = t :: ts.drop (i + 1):=by rw [← hg];exact List.drop_eq_getElem_cons hi
 rw [e1,e2,e3]
 simp [nonws,List.filter_cons]
 split <;> simp
theorem Tb.put {g o n cap : Nat} (h : Tb B w (.slice (some ⟨g,o,none⟩) n cap) ts) (h0 : 0 < cap) {i j : Nat} {t : Tk} (hi : ts[i]? = some t) (hj : j < n) :
  ∃ cs dv,w.heap[g]? = some (.cells cs 59 (0,0)) ∧ B ≤ g ∧ o + cap * 2 ≤ cs.size ∧ w.cell? ⟨g,o + i * 2,none⟩ = some (.int .u32 t.tt) ∧ w.cell? ⟨g,o + i * 2 + 1,none⟩ = some dv ∧ Rd w dv t.bs ∧
   Tb B ((w.setCell ⟨g,o + j * 2,none⟩ (.int .u32 t.tt)).setCell ⟨g,o + j * 2 + 1,none⟩ dv) (.slice (some ⟨g,o,none⟩) n cap) (ts.set j t) ∧ K59 B w ((w.setCell ⟨g,o + j * 2,none⟩ (.int .u32 t.tt)).setCell ⟨g,o + j * 2 + 1,none⟩ dv):=by
 obtain ⟨A,n',cap',e,h1,h2,h3,h4⟩:=h
 injection e with e e' e''
 subst e;subst e';subst e''
 obtain ⟨g',o',cs,e,hBg,hg,hs,hc⟩:=h4 h0
 injection e with e
 injection e with e e'
 subst e;subst e'
 obtain ⟨dv,e1,e2,e3⟩:=hc i t hi
 have hk1:=K59.set_ hg hBg (o + j * 2) (.int .u32 t.tt)
 have hg1:=blk_set hg (o + j * 2) (.int .u32 t.tt)
 have hk2:=K59.set_ hg1 hBg (o + j * 2 + 1) dv
 have hg2:=blk_set hg1 (o + j * 2 + 1) dv
 refine ⟨cs,dv,hg,hBg,hs,by rw [blk_cell hg];exact e1,by rw [blk_cell hg];exact e2,e3,⟨_,_,_,rfl,by simp [h1],h2,h3,fun _ => ⟨g,o,_,rfl,hBg,hg2,by simp;omega,fun i' t' ht => ?_⟩⟩,hk1.trans hk2⟩
 have hil:=(List.getElem?_eq_some_iff.1 ht).1
 rw [List.length_set] at hil
 by_cases hij : i' = j
 ·subst hij
  rw [List.getElem?_set_self (by omega)] at ht
  injection ht with ht
  subst ht
  refine ⟨dv,?_,?_,(hk1.trans hk2).rd e3⟩
  ·rw [Array.getElem?_setIfInBounds_ne (by omega),Array.getElem?_setIfInBounds_self_of_lt (by omega)]
  ·rw [Array.getElem?_setIfInBounds_self_of_lt (by simp;omega)]
 ·rw [List.getElem?_set_ne (Ne.symm hij)] at ht
  obtain ⟨dv',c1,c2,c3⟩:=hc i' t' ht
  refine ⟨dv',?_,?_,(hk1.trans hk2).rd c3⟩
  ·rw [Array.getElem?_setIfInBounds_ne (by omega),Array.getElem?_setIfInBounds_ne (by omega)];exact c1
  ·rw [Array.getElem?_setIfInBounds_ne (by omega),Array.getElem?_setIfInBounds_ne (by omega)];exact c2
theorem Ps.k59t {w w' : World} {ts ts' : List Tk} (h : Ps B w0 c gp w p v ts fs ds) (h0 : 0 < B) (k : K59 B w w') (ht : Tb B w' v.buf ts') : Ps B w0 c gp w' p v ts' fs ds:=by
 obtain ⟨cur,fr,hb⟩:=h.byt
 exact ⟨k.st h.lx h.byt h0,k.blk _ _ _ _ h.par (by decide),⟨cur,fr,k.blk _ _ _ _ hb (by decide)⟩,ht,k.own h.sts (by decide),k.rd h.dat,h.kt.trans k.kt,h.Bp,h.Bi⟩
theorem decKA {k2 : Int} {N0 : List Tk} {j i : Nat} (h : Cm B w0 c gp w k2 p v N0 ts fs ds j i l wr) (h0 : 0 < B) (hi : i < ts.length)
  (hK : ∀ l' wx ts',ts'.length = ts.length → Cm B w0 c gp w k2 p v N0 ts' fs ds (j + 1) (i + 1) l' wx → K ⟨l'.toArray,[]⟩ wx) : Code.wp Tryz.prog (nav [0,1,0,1,0,1,1,1,1,1,1,0,1,0,0,1,0,1] db) (Exit.then K Q) ⟨l.toArray,[]⟩ wr:=by
 obtain ⟨⟨⟨hl,hl0⟩,h4,hP⟩,h7,h8,hji,_,hn,hN⟩:=h
 obtain ⟨f,hf,rfl⟩:=lit453 l hl
 rw [hf] at hl0 h4 h7 h8
 rw [hl0,h4,h7,h8]
 clear hf hl hl0 h4 h7 h8
 have c4:=hP.1.c4
 obtain ⟨t,ht⟩ : ∃ t,ts[i]? = some t:=⟨_,List.getElem?_eq_getElem hi⟩
 have hT:=hP.1.tb
 obtain ⟨g,o,n',cap,dv',hbv,e1,e2,e3,-,-,-⟩:=hT.at_ ht
 rw [hbv] at c4 hT
 obtain ⟨cs,dv,hg,hBg,hs,e4,e5,e6,hT2,hk⟩:=hT.put (by omega) ht (show j < n' by omega)
 obtain ⟨Ad,nd,cd,hdv,-,-,-⟩:=e6
 subst hdv
 have dfz1 : wr.drew.frozen? ⟨g,o + j * 2,none⟩ = false:=blk_frozen (w:=wr.drew) hg _
 have dfz2 : wr.drew.frozen? ⟨g,o + j * 2 + 1,none⟩ = false:=blk_frozen (w:=wr.drew) hg _
 have HP:=Aside0.mk hP
 have HT:=Aside0.mk ht
 have HT2:=Aside0.mk (And.intro hbv (And.intro hT2 hk))
 have HN:=Aside0.mk (And.intro hN (nonws_keep hji ht))
 have hfz1 : wr.frozen? ⟨g,o + j * 2,none⟩ = false:=blk_frozen hg _
 have hfz2 : wr.frozen? ⟨g,o + j * 2 + 1,none⟩ = false:=blk_frozen hg _
 have hin : (i : Int) < (n' : Int):=by omega
 have hjn : (j : Int) < (n' : Int):=by omega
 have hjc : ∃ u,wr.cell? ⟨g,o + j * 2,none⟩ = some u:=⟨_,by rw [blk_cell hg,Array.getElem?_eq_getElem (by omega)]⟩
 have hjc2 : ∃ u,wr.cell? ⟨g,o + j * 2 + 1,none⟩ = some u:=⟨_,by rw [blk_cell hg,Array.getElem?_eq_getElem (by omega)]⟩
 obtain ⟨u1,hu1⟩:=hjc
 obtain ⟨u2,hu2⟩:=hjc2
 have du1 : wr.drew.cell? ⟨g,o + j * 2,none⟩ = some u1:=hu1
 have hgj:=blk_set hg (o + j * 2) (.int .u32 t.tt)
 have dfz3 : (wr.setCell ⟨g,o + j * 2,none⟩ (.int .u32 t.tt)).drew.frozen? ⟨g,o + j * 2 + 1,none⟩ = false:=blk_frozen (w:=(wr.setCell ⟨g,o + j * 2,none⟩ (.int .u32 t.tt)).drew) hgj _
 have du3 : (wr.setCell ⟨g,o + j * 2,none⟩ (.int .u32 t.tt)).drew.cell? ⟨g,o + j * 2 + 1,none⟩ = some u2:=by
  show (wr.setCell ⟨g,o + j * 2,none⟩ (.int .u32 t.tt)).cell? ⟨g,o + j * 2 + 1,none⟩ = some u2
  rw [blk_cell hgj,Array.getElem?_setIfInBounds_ne (by omega),← blk_cell hg]
  exact hu2
 clear hgj
 have du2 : wr.drew.cell? ⟨g,o + j * 2 + 1,none⟩ = some u2:=hu2
 have hib : i ≤ 100000000:=by omega
 have hjb : j ≤ 100000000:=by omega
 clear hP ht hT2 hk hN hbv hT hs
 conv => arg 2;whnf
 by_cases hlt : j < i
 ·have hltI : (j : Int) < (i : Int):=by omega
  go_wp2_with (fail)
  go_still_tail 12,(by kernel_rfl)
  change wpList _ _ _ _ _ wr.drew
  go_wp2_with (fail)
  refine hK _ _ (ts.set j t) (by simp) ⟨⟨⟨by kernel_rfl,rfl⟩,rfl,?_⟩,rfl,rfl,by omega,by simp;omega,by simpa using hn,HN.out.2.trans HN.out.1⟩
  exact ⟨(HP.out.1.k59t h0 HT2.out.2.2 (by rw [HT2.out.1];exact HT2.out.2.1)).drew,(HP.out.2.trans HT2.out.2.2.kt).drew⟩
 ·have hltI : ¬ (j : Int) < (i : Int):=by omega
  have HIJ:=Aside0.mk (show j = i by omega)
  go_wp2_with (fail)
  refine hK _ _ ts rfl ⟨⟨⟨by kernel_rfl,rfl⟩,rfl,HP.out⟩,rfl,rfl,by omega,by omega,hn,?_⟩
  have hset : ts.set j t = ts:=by
   apply List.ext_getElem?
   intro k
   by_cases hkj : k = j
   ·subst hkj
    have:=HT.out
    rw [← HIJ.out] at this
    rw [List.getElem?_set_self (by omega),this]
   ·rw [List.getElem?_set_ne (Ne.symm hkj)]
  have:=HN.out.2
  rw [hset,HN.out.1] at this
  exact this
theorem nonws_skip {ts : List Tk} {i : Nat} {t : Tk} (ht : ts[i]? = some t) (hk : t.tt = 20) : nonws (ts.drop (i + 1)) = nonws (ts.drop i):=by
 have hi:=(List.getElem?_eq_some_iff.1 ht).1
 have hg:=(List.getElem?_eq_some_iff.1 ht).2
 have e3 : ts.drop i = t :: ts.drop (i + 1):=by rw [← hg];exact List.drop_eq_getElem_cons hi
 rw [e3]
 simp [nonws,hk]
theorem Rd.test {dv : Value} (h : Rd w dv xs) : ∃ A n cp,dv = .slice A n cp ∧ (((n : Int) == 1) = false ∨ n = 1 ∧ ∃ g o b,A = some ⟨g,o,none⟩ ∧ w.cell? ⟨g,o,none⟩ = some (.int .u8 b) ∧ (b = 44 ∨ ((b == 44) = false ∧ (b = 47 ∨ ((b == 47) = false ∧ (b = 58 ∨ ((b == 58) = false ∧ (b = 33 ∨ ((b == 33) = false ∧ (b = 61 ∨ (b == 61) = false)))))))))):=by
 obtain ⟨A,n,cp,rfl,h1,h2,h3⟩:=h
 refine ⟨A,n,cp,rfl,?_⟩
 by_cases hn : n = 1
 ·refine .inr ⟨hn,?_⟩
  obtain ⟨g,o,cs,fr,rfl,hg,hc⟩:=h3 (by omega)
  refine ⟨_,_,xs.getD 0 0,rfl,?_,?_⟩
  ·unfold World.cell?
   rw [hg]
   simpa using hc 0 (by omega)
  ·simp only [beq_eq_false_iff_ne,ne_eq]
   omega
 ·left
  simp;omega
theorem decT1 {k2 : Int} {N0 : List Tk} {j i : Nat} (h : Cm B w0 c gp w k2 p v N0 ts fs ds j i l wr) {t : Tk} (ht : ts[i]? = some t) (hk : t.tt = 20)
  (hK : ∀ l',Cm B w0 c gp w k2 p v N0 ts fs ds j i l' wr → K ⟨l'.toArray,[]⟩ wr)
  (hQ : ∀ l',Cm B w0 c gp w k2 p v N0 ts fs ds j (i + 1) l' wr → Q (.exit 7) ⟨l'.toArray,[]⟩ wr) : Code.wp Tryz.prog (nav [0,1,0,1,0,1,1,1,1,1,1,0,1,0,0,1,0,0,1,0,0] db) (Exit.then K Q) ⟨l.toArray,[]⟩ wr:=by
 have HC:=Aside0.mk h
 obtain ⟨⟨⟨hl,hl0⟩,h4,hP⟩,h7,h8,hji,_,hn,hN⟩:=h
 obtain ⟨f,hf,rfl⟩:=lit453 l hl
 rw [hf] at hl0 h4 h7 h8
 rw [hl0,h4,h7,h8]
 have c4:=hP.1.c4
 have HP:=Aside0.mk hP
 have HN:=Aside0.mk hN
 have hi:=(List.getElem?_eq_some_iff.1 ht).1
 have hib : i ≤ 100000000:=by omega
 have hjb : j ≤ 100000000:=by omega
 have hsk:=HC.out.2.2.2.2.2.2
 rw [← nonws_skip ht hk] at hsk
 have HS:=Aside0.mk hsk
 have HK:=Aside0.mk hK
 have HQ:=Aside0.mk hQ
 clear hK hQ
 clear hP hN hsk HC hf hl hl0 h4 h7 h8
 rcases Nat.eq_zero_or_pos j with hj0|hj0
 ·subst hj0
  clear ht hk
  conv => arg 2;whnf
  go_wp2_with (fail)
  exact HK.out _ ⟨⟨⟨by kernel_rfl,rfl⟩,rfl,HP.out⟩,rfl,rfl,by omega,by omega,hn,HN.out⟩
 ·obtain ⟨t1,ht1⟩ : ∃ t1,ts[j - 1]? = some t1:=⟨_,List.getElem?_eq_getElem (by omega)⟩
  obtain ⟨g,o,n',cap,dv,hbv,e1,e2,e3,e4,e5,e6⟩:=HP.out.1.tb.at_ ht1
  obtain ⟨A,nd,cd,rfl,hcase⟩:=e6.test
  rw [hbv] at c4
  obtain ⟨jj,hjj⟩ : ∃ jj,j = jj + 1:=⟨j - 1,by omega⟩
  have ejj : j - 1 = jj:=by omega
  rw [ejj] at e2 e4 e5
  have hwj : IntKind.i64.wrap (jj : Int) = (jj : Int):=IntWalk.i64_in _ (by omega)
  have hjl : (jj : Int) < (n' : Int):=by omega
  have hpos : (0 : Int) < ((jj + 1 : Nat) : Int):=by omega
  clear ht hk ht1 hbv ejj
  subst hjj
  conv => arg 2;whnf
  rcases hcase with hnd|⟨rfl,g2,o2,b,rfl,hb,hcase⟩
  ·go_wp2_with (fail)
   exact HK.out _ ⟨⟨⟨by kernel_rfl,rfl⟩,rfl,HP.out⟩,rfl,rfl,by omega,by omega,hn,HN.out⟩
  ·rcases hcase with rfl|⟨x1,rfl|⟨x2,rfl|⟨x3,rfl|⟨x4,rfl|x5⟩⟩⟩⟩
   ·go_wp2_with (fail)
    trace_state
    exact HQ.out _ ⟨⟨⟨by kernel_rfl,rfl⟩,rfl,HP.out⟩,rfl,rfl,by omega,by omega,hn,HS.out⟩
   ·go_wp2_with (fail)
    exact HQ.out _ ⟨⟨⟨by kernel_rfl,rfl⟩,rfl,HP.out⟩,rfl,rfl,by omega,by omega,hn,HS.out⟩
   ·go_wp2_with (fail)
    exact HQ.out _ ⟨⟨⟨by kernel_rfl,rfl⟩,rfl,HP.out⟩,rfl,rfl,by omega,by omega,hn,HS.out⟩
   ·go_wp2_with (fail)
    exact HQ.out _ ⟨⟨⟨by kernel_rfl,rfl⟩,rfl,HP.out⟩,rfl,rfl,by omega,by omega,hn,HS.out⟩
   ·go_wp2_with (fail)
    exact HQ.out _ ⟨⟨⟨by kernel_rfl,rfl⟩,rfl,HP.out⟩,rfl,rfl,by omega,by omega,hn,HS.out⟩
   ·go_wp2_with (fail)
    exact HK.out _ ⟨⟨⟨by kernel_rfl,rfl⟩,rfl,HP.out⟩,rfl,rfl,by omega,by omega,hn,HN.out⟩
theorem decKB {k2 : Int} {N0 : List Tk} {j i : Nat} (h : Cm B w0 c gp w k2 p v N0 ts fs ds j i l wr) (h0 : 0 < B) (hi : i < ts.length)
  (hK : ∀ l' wx ts',ts'.length = ts.length → Cm B w0 c gp w k2 p v N0 ts' fs ds (j + 1) (i + 1) l' wx → K ⟨l'.toArray,[]⟩ wx) : Code.wp Tryz.prog (nav [0,1,0,1,0,1,1,1,1,1,1,0,1,0,0,1,0,0,1,0,1,1,0,1] db) (Exit.then K Q) ⟨l.toArray,[]⟩ wr:=by
 obtain ⟨⟨⟨hl,hl0⟩,h4,hP⟩,h7,h8,hji,_,hn,hN⟩:=h
 obtain ⟨f,hf,rfl⟩:=lit453 l hl
 rw [hf] at hl0 h4 h7 h8
 rw [hl0,h4,h7,h8]
 clear hf hl hl0 h4 h7 h8
 have c4:=hP.1.c4
 obtain ⟨t,ht⟩ : ∃ t,ts[i]? = some t:=⟨_,List.getElem?_eq_getElem hi⟩
 have hT:=hP.1.tb
 obtain ⟨g,o,n',cap,dv',hbv,e1,e2,e3,-,-,-⟩:=hT.at_ ht
 rw [hbv] at c4 hT
 obtain ⟨cs,dv,hg,hBg,hs,e4,e5,e6,hT2,hk⟩:=hT.put (by omega) ht (show j < n' by omega)
 obtain ⟨Ad,nd,cd,hdv,-,-,-⟩:=e6
 subst hdv
 have dfz1 : wr.drew.frozen? ⟨g,o + j * 2,none⟩ = false:=blk_frozen (w:=wr.drew) hg _
 have dfz2 : wr.drew.frozen? ⟨g,o + j * 2 + 1,none⟩ = false:=blk_frozen (w:=wr.drew) hg _
 have HP:=Aside0.mk hP
 have HT:=Aside0.mk ht
 have HT2:=Aside0.mk (And.intro hbv (And.intro hT2 hk))
 have HN:=Aside0.mk (And.intro hN (nonws_keep hji ht))
 have hfz1 : wr.frozen? ⟨g,o + j * 2,none⟩ = false:=blk_frozen hg _
 have hfz2 : wr.frozen? ⟨g,o + j * 2 + 1,none⟩ = false:=blk_frozen hg _
 have hin : (i : Int) < (n' : Int):=by omega
 have hjn : (j : Int) < (n' : Int):=by omega
 have hjc : ∃ u,wr.cell? ⟨g,o + j * 2,none⟩ = some u:=⟨_,by rw [blk_cell hg,Array.getElem?_eq_getElem (by omega)]⟩
 have hjc2 : ∃ u,wr.cell? ⟨g,o + j * 2 + 1,none⟩ = some u:=⟨_,by rw [blk_cell hg,Array.getElem?_eq_getElem (by omega)]⟩
 obtain ⟨u1,hu1⟩:=hjc
 obtain ⟨u2,hu2⟩:=hjc2
 have du1 : wr.drew.cell? ⟨g,o + j * 2,none⟩ = some u1:=hu1
 have hgj:=blk_set hg (o + j * 2) (.int .u32 t.tt)
 have dfz3 : (wr.setCell ⟨g,o + j * 2,none⟩ (.int .u32 t.tt)).drew.frozen? ⟨g,o + j * 2 + 1,none⟩ = false:=blk_frozen (w:=(wr.setCell ⟨g,o + j * 2,none⟩ (.int .u32 t.tt)).drew) hgj _
 have du3 : (wr.setCell ⟨g,o + j * 2,none⟩ (.int .u32 t.tt)).drew.cell? ⟨g,o + j * 2 + 1,none⟩ = some u2:=by
  show (wr.setCell ⟨g,o + j * 2,none⟩ (.int .u32 t.tt)).cell? ⟨g,o + j * 2 + 1,none⟩ = some u2
  rw [blk_cell hgj,Array.getElem?_setIfInBounds_ne (by omega),← blk_cell hg]
  exact hu2
 clear hgj
 have du2 : wr.drew.cell? ⟨g,o + j * 2 + 1,none⟩ = some u2:=hu2
 have hib : i ≤ 100000000:=by omega
 have hjb : j ≤ 100000000:=by omega
 clear hP ht hT2 hk hN hbv hT hs
 conv => arg 2;whnf
 by_cases hlt : j < i
 ·have hltI : (j : Int) < (i : Int):=by omega
  go_wp2_with (fail)
  go_still_tail 12,(by kernel_rfl)
  change wpList _ _ _ _ _ wr.drew
  go_wp2_with (fail)
  refine hK _ _ (ts.set j t) (by simp) ⟨⟨⟨by kernel_rfl,rfl⟩,rfl,?_⟩,rfl,rfl,by omega,by simp;omega,by simpa using hn,HN.out.2.trans HN.out.1⟩
  exact ⟨(HP.out.1.k59t h0 HT2.out.2.2 (by rw [HT2.out.1];exact HT2.out.2.1)).drew,(HP.out.2.trans HT2.out.2.2.kt).drew⟩
 ·have hltI : ¬ (j : Int) < (i : Int):=by omega
  have HIJ:=Aside0.mk (show j = i by omega)
  go_wp2_with (fail)
  refine hK _ _ ts rfl ⟨⟨⟨by kernel_rfl,rfl⟩,rfl,HP.out⟩,rfl,rfl,by omega,by omega,hn,?_⟩
  have hset : ts.set j t = ts:=by
   apply List.ext_getElem?
   intro k
   by_cases hkj : k = j
   ·subst hkj
    have:=HT.out
    rw [← HIJ.out] at this
    rw [List.getElem?_set_self (by omega),this]
   ·rw [List.getElem?_set_ne (Ne.symm hkj)]
  have:=HN.out.2
  rw [hset,HN.out.1] at this
  exact this
theorem decT2a {k2 : Int} {N0 : List Tk} {j i : Nat} (h : Cm B w0 c gp w k2 p v N0 ts fs ds j i l wr) (hi : i < ts.length)
  (hK : ∀ l',l'.getD 207 default = .bool (decide (i + 1 < ts.length)) → Cm B w0 c gp w k2 p v N0 ts fs ds j i l' wr → K ⟨l'.toArray,[]⟩ wr) : Code.wp Tryz.prog (nav [0,1,0,1,0,1,1,1,1,1,1,0,1,0,0,1,0,0,1,0,1,0] db) (Exit.then K Q) ⟨l.toArray,[]⟩ wr:=by
 have HC:=Aside0.mk h
 obtain ⟨⟨⟨hl,hl0⟩,h4,hP⟩,h7,h8,hji,_,hn,hN⟩:=h
 obtain ⟨f,hf,rfl⟩:=lit453 l hl
 rw [hf] at hl0 h4 h7 h8
 rw [hl0,h4,h7,h8]
 have c4:=hP.1.c4
 have HP:=Aside0.mk hP
 have HN:=Aside0.mk hN
 have HK:=Aside0.mk hK
 clear hK
 have hib : i ≤ 100000000:=by omega
 obtain ⟨A,n',cap,hbv,e1,e2⟩:=hP.1.tb.getD
 rw [hbv] at c4
 rw [e1] at hi hn
 have hjb : j ≤ 100000000:=by omega
 have hE1:=Aside0.mk e1
 clear hP hN HC hf hl hl0 h4 h7 h8 hbv e1
 by_cases hlt : i + 1 < n'
 ·have hltI : (i : Int) + 1 < (n' : Int):=by omega
  conv => arg 2;whnf
  go_wp2_with (fail)
  refine HK.out _ ?_ ⟨⟨⟨by kernel_rfl,rfl⟩,rfl,HP.out⟩,rfl,rfl,by omega,by have:=hE1.out;omega,by have:=hE1.out;omega,HN.out⟩
  rw [hE1.out,decide_eq_true hlt]
  rfl
 ·have hltI : ¬ (i : Int) + 1 < (n' : Int):=by omega
  conv => arg 2;whnf
  go_wp2_with (fail)
  refine HK.out _ ?_ ⟨⟨⟨by kernel_rfl,rfl⟩,rfl,HP.out⟩,rfl,rfl,by omega,by have:=hE1.out;omega,by have:=hE1.out;omega,HN.out⟩
  rw [hE1.out,decide_eq_false hlt]
  rfl
theorem decT2b {k2 : Int} {N0 : List Tk} {j i : Nat} (h : Cm B w0 c gp w k2 p v N0 ts fs ds j i l wr) {t : Tk} (ht : ts[i]? = some t) (hk : t.tt = 20) (hi2 : i + 1 < ts.length)
  (hK : ∀ l',Cm B w0 c gp w k2 p v N0 ts fs ds j i l' wr → K ⟨l'.toArray,[]⟩ wr)
  (hQ : ∀ l',Cm B w0 c gp w k2 p v N0 ts fs ds j (i + 1) l' wr → Q (.exit 7) ⟨l'.toArray,[]⟩ wr) : Code.wp Tryz.prog (nav [0,1,0,1,0,1,1,1,1,1,1,0,1,0,0,1,0,0,1,0,1,1,0,0] db) (Exit.then K Q) ⟨l.toArray,[]⟩ wr:=by
 have HC:=Aside0.mk h
 obtain ⟨⟨⟨hl,hl0⟩,h4,hP⟩,h7,h8,hji,_,hn,hN⟩:=h
 obtain ⟨f,hf,rfl⟩:=lit453 l hl
 rw [hf] at hl0 h4 h7 h8
 rw [hl0,h4,h7,h8]
 have c4:=hP.1.c4
 have HP:=Aside0.mk hP
 have HN:=Aside0.mk hN
 have HK:=Aside0.mk hK
 clear hK
 have HQ:=Aside0.mk hQ
 clear hQ
 have hib : i ≤ 100000000:=by omega
 have hjb : j ≤ 100000000:=by omega
 have hsk:=HC.out.2.2.2.2.2.2
 rw [← nonws_skip ht hk] at hsk
 have HS:=Aside0.mk hsk
 obtain ⟨t1,ht1⟩ : ∃ t1,ts[i + 1]? = some t1:=⟨_,List.getElem?_eq_getElem hi2⟩
 obtain ⟨g,o,n',cap,dv,hbv,e1,e2,e3,e4,e5,e6⟩:=HP.out.1.tb.at_ ht1
 obtain ⟨A,nd,cd,rfl,hcase⟩:=e6.test
 rw [hbv] at c4
 have hltI : (i : Int) + 1 < (n' : Int):=by omega
 clear hP hN hsk HC hf hl hl0 h4 h7 h8 ht hk ht1 hbv
 conv => arg 2;whnf
 rcases hcase with hnd|⟨rfl,g2,o2,b,rfl,hb,hcase⟩
 ·go_wp2_with (fail)
  exact HK.out _ ⟨⟨⟨by kernel_rfl,rfl⟩,rfl,HP.out⟩,rfl,rfl,by omega,by omega,hn,HN.out⟩
 ·rcases hcase with rfl|⟨x1,rfl|⟨x2,rfl|⟨x3,rfl|⟨x4,rfl|x5⟩⟩⟩⟩
  ·go_wp2_with (fail)
   exact HQ.out _ ⟨⟨⟨by kernel_rfl,rfl⟩,rfl,HP.out⟩,rfl,rfl,by omega,by omega,hn,HS.out⟩
  ·go_wp2_with (fail)
   exact HQ.out _ ⟨⟨⟨by kernel_rfl,rfl⟩,rfl,HP.out⟩,rfl,rfl,by omega,by omega,hn,HS.out⟩
  ·go_wp2_with (fail)
   exact HQ.out _ ⟨⟨⟨by kernel_rfl,rfl⟩,rfl,HP.out⟩,rfl,rfl,by omega,by omega,hn,HS.out⟩
  ·go_wp2_with (fail)
   exact HQ.out _ ⟨⟨⟨by kernel_rfl,rfl⟩,rfl,HP.out⟩,rfl,rfl,by omega,by omega,hn,HS.out⟩
  ·go_wp2_with (fail)
   exact HQ.out _ ⟨⟨⟨by kernel_rfl,rfl⟩,rfl,HP.out⟩,rfl,rfl,by omega,by omega,hn,HS.out⟩
  ·go_wp2_with (fail)
   exact HK.out _ ⟨⟨⟨by kernel_rfl,rfl⟩,rfl,HP.out⟩,rfl,rfl,by omega,by omega,hn,HN.out⟩
theorem b7_eq : nav [0,1,0,1,0,1,1,1,1,1,1,0,1,0,0,1,0] db = .seq (.seq (nav [0,1,0,1,0,1,1,1,1,1,1,0,1,0,0,1,0,0,0] db) (.cond (.tmp 153) (.seq (nav [0,1,0,1,0,1,1,1,1,1,1,0,1,0,0,1,0,0,1,0,0] db) (.seq (nav [0,1,0,1,0,1,1,1,1,1,1,0,1,0,0,1,0,0,1,0,1,0] db) (.cond (.tmp 207) (.seq (nav [0,1,0,1,0,1,1,1,1,1,1,0,1,0,0,1,0,0,1,0,1,1,0,0] db) (nav [0,1,0,1,0,1,1,1,1,1,1,0,1,0,0,1,0,0,1,0,1,1,0,1] db)) .skip))) .skip)) (nav [0,1,0,1,0,1,1,1,1,1,1,0,1,0,0,1,0,1] db):=by kernel_rfl
theorem dec20 {k2 : Int} {N0 : List Tk} {j i : Nat} (h : Cm B w0 c gp w k2 p v N0 ts fs ds j i l wr) {t : Tk} (ht : ts[i]? = some t)
  (hK : ∀ l',l'.getD 153 default = .bool (t.tt == 20) → Cm B w0 c gp w k2 p v N0 ts fs ds j i l' wr → K ⟨l'.toArray,[]⟩ wr) : Code.wp Tryz.prog (nav [0,1,0,1,0,1,1,1,1,1,1,0,1,0,0,1,0,0,0] db) (Exit.then K Q) ⟨l.toArray,[]⟩ wr:=by
 have HC:=Aside0.mk h
 obtain ⟨⟨⟨hl,hl0⟩,h4,hP⟩,h7,h8,hji,_,hn,hN⟩:=h
 obtain ⟨f,hf,rfl⟩:=lit453 l hl
 rw [hf] at hl0 h4 h7 h8
 rw [hl0,h4,h7,h8]
 have c4:=hP.1.c4
 have HP:=Aside0.mk hP
 have HN:=Aside0.mk hN
 have HK:=Aside0.mk hK
 clear hK
 have hib : i ≤ 100000000:=by have:=(List.getElem?_eq_some_iff.1 ht).1;omega
 obtain ⟨g,o,n',cap,dv,hbv,e1,e2,e3,e4,e5,e6⟩:=HP.out.1.tb.at_ ht
 rw [hbv] at c4
 have hltI : (i : Int) < (n' : Int):=by omega
 clear hP hN HC hf hl hl0 h4 h7 h8 ht hbv
 conv => arg 2;whnf
 go_wp2_with (fail)
 exact HK.out _ rfl ⟨⟨⟨by kernel_rfl,rfl⟩,rfl,HP.out⟩,rfl,rfl,by omega,by omega,hn,HN.out⟩
theorem ev453 {l : List Value} {i : Nat} {v : Value} (h : l.getD i default = v) (hl : l.length = 453) (hi : i < 453) : (⟨l.toArray,[]⟩ : Act).eval (.tmp i) = v:=by
 have e : (⟨l.toArray,[]⟩ : Act).eval (.tmp i) = l.toArray.getD i undef:=rfl
 rw [e,← h]
 simp [List.getD_eq_getElem?_getD,Array.getD_eq_getD_getElem?,List.getElem?_eq_getElem (show i < l.length by omega)]
theorem decB7 {k2 : Int} {N0 : List Tk} {j i : Nat} (h : Cm B w0 c gp w k2 p v N0 ts fs ds j i l wr) (h0 : 0 < B) (hi : i < ts.length)
  (hK : ∀ l' wx ts' j' i',ts'.length = ts.length → i < i' → Cm B w0 c gp w k2 p v N0 ts' fs ds j' i' l' wx → K ⟨l'.toArray,[]⟩ wx)
  (hQ : ∀ l' wx ts' j' i',ts'.length = ts.length → i < i' → Cm B w0 c gp w k2 p v N0 ts' fs ds j' i' l' wx → Q (.exit 7) ⟨l'.toArray,[]⟩ wx) :
  Code.wp Tryz.prog (nav [0,1,0,1,0,1,1,1,1,1,1,0,1,0,0,1,0] db) (Exit.then K Q) ⟨l.toArray,[]⟩ wr:=by
 rw [b7_eq]
 obtain ⟨t,ht⟩ : ∃ t,ts[i]? = some t:=⟨_,List.getElem?_eq_getElem hi⟩
 have ka : ∀ (l' : List Value) (wx : World) (ts' : List Tk) (j' i' : Nat),ts'.length = ts.length → i ≤ i' → i' < ts.length → Cm B w0 c gp w k2 p v N0 ts' fs ds j' i' l' wx → (nav [0,1,0,1,0,1,1,1,1,1,1,0,1,0,0,1,0,1] db).wp Tryz.prog (Exit.then K Q) ⟨l'.toArray,[]⟩ wx:=by
  intro l' wx ts' j' i' e1 e2 e3 hc
  exact decKA hc h0 (by omega) (fun l2 wx2 ts2 e4 hc2 => hK l2 wx2 ts2 _ _ (by omega) (by omega) hc2)
 refine wp_seq_k fun K1 hK1 => wp_seq_k fun K2 hK2 => ?_
 refine dec20 h ht fun l1 e1 hc1 => hK2 _ _ ?_
 by_cases hk : t.tt = 20
 ·refine wp_cond_true (show (⟨l1.toArray,[]⟩ : Act).eval (.tmp 153) = .bool true from ?_) ?_
  ·exact ev453 (by rw [e1,hk];rfl) hc1.1.1.1 (by decide)
  refine wp_seq_k fun K3 hK3 => ?_
  refine decT1 hc1 ht hk (fun l2 hc2 => hK3 _ _ ?_) (fun l2 hc2 => ?_)
  ·refine wp_seq_k fun K4 hK4 => ?_
   refine decT2a hc2 hi fun l3 e3 hc3 => hK4 _ _ ?_
   by_cases hi2 : i + 1 < ts.length
   ·refine wp_cond_true (show (⟨l3.toArray,[]⟩ : Act).eval (.tmp 207) = .bool true from ?_) ?_
    ·exact ev453 (by rw [e3,decide_eq_true hi2]) hc3.1.1.1 (by decide)
    refine wp_seq_k fun K5 hK5 => ?_
    refine decT2b hc3 ht hk hi2 (fun l4 hc4 => hK5 _ _ ?_) (fun l4 hc4 => ?_)
    ·refine decKB hc4 h0 hi (fun l5 wx5 ts5 e5 hc5 => hK1 _ _ (ka _ _ _ _ _ e5 (by omega) (by omega) hc5))
    ·exact hQ _ _ _ _ _ rfl (by omega) hc4
   ·refine wp_cond_false (show (⟨l3.toArray,[]⟩ : Act).eval (.tmp 207) = .bool false from ?_) (wp_skip ?_)
    ·exact ev453 (by rw [e3,decide_eq_false hi2]) hc3.1.1.1 (by decide)
    exact hK1 _ _ (ka _ _ _ _ _ rfl (by omega) (by omega) hc3)
  ·exact hQ _ _ _ _ _ rfl (by omega) hc2
 ·refine wp_cond_false (show (⟨l1.toArray,[]⟩ : Act).eval (.tmp 153) = .bool false from ?_) (wp_skip ?_)
  ·exact ev453 (by rw [e1];simpa using hk) hc1.1.1.1 (by decide)
  exact hK1 _ _ (ka _ _ _ _ _ rfl (by omega) (by omega) hc1)
theorem b6_eq : nav [0,1,0,1,0,1,1,1,1,1,1,0] db = .seq (nav [0,1,0,1,0,1,1,1,1,1,1,0,0] db) (.block 6 (.loop (.seq (.seq (nav [0,1,0,1,0,1,1,1,1,1,1,0,1,0,0,0,0] db) (.cond (.tmp 144) .skip (.exit 6))) (.block 7 (nav [0,1,0,1,0,1,1,1,1,1,1,0,1,0,0,1,0] db))))):=by kernel_rfl
theorem dec19 {k2 : Int} {N0 : List Tk} {j i : Nat} (h : Cm B w0 c gp w k2 p v N0 ts fs ds j i l wr)
  (hK : ∀ l',l'.getD 144 default = .bool (decide (i < ts.length)) → Cm B w0 c gp w k2 p v N0 ts fs ds j i l' wr → K ⟨l'.toArray,[]⟩ wr) : Code.wp Tryz.prog (nav [0,1,0,1,0,1,1,1,1,1,1,0,1,0,0,0,0] db) (Exit.then K Q) ⟨l.toArray,[]⟩ wr:=by
 obtain ⟨⟨⟨hl,hl0⟩,h4,hP⟩,h7,h8,hji,hil,hn,hN⟩:=h
 obtain ⟨f,hf,rfl⟩:=lit453 l hl
 rw [hf] at hl0 h4 h7 h8
 rw [hl0,h4,h7,h8]
 have c4:=hP.1.c4
 have HP:=Aside0.mk hP
 have HN:=Aside0.mk hN
 have HK:=Aside0.mk hK
 clear hK
 have hib : i ≤ 100000000:=by omega
 obtain ⟨A,n',cap,hbv,e1,e2⟩:=hP.1.tb.getD
 rw [hbv] at c4
 have hE1:=Aside0.mk e1
 clear hP hN hf hl hl0 h4 h7 h8 hbv e1
 by_cases hlt : i < n'
 ·have hltI : (i : Int) < (n' : Int):=by omega
  conv => arg 2;whnf
  go_wp2_with (fail)
  refine HK.out _ ?_ ⟨⟨⟨by kernel_rfl,rfl⟩,rfl,HP.out⟩,rfl,rfl,by omega,hil,hn,HN.out⟩
  rw [hE1.out,decide_eq_true hlt]
  rfl
 ·have hltI : ¬ (i : Int) < (n' : Int):=by omega
  conv => arg 2;whnf
  go_wp2_with (fail)
  refine HK.out _ ?_ ⟨⟨⟨by kernel_rfl,rfl⟩,rfl,HP.out⟩,rfl,rfl,by omega,hil,hn,HN.out⟩
  rw [hE1.out,decide_eq_false hlt]
  rfl
theorem dec17 {k2 : Int} (h : Stp B w0 c gp w k2 p v ts fs ds l wr)
  (hK : ∀ l',l'.getD 7 default = .int .i64 0 → Stp B w0 c gp w k2 p v ts fs ds l' wr → K ⟨l'.toArray,[]⟩ wr) : Code.wp Tryz.prog (nav [0,1,0,1,0,1,1,1,1,1,0] db) (Exit.then K Q) ⟨l.toArray,[]⟩ wr:=by
 have HH:=Aside0.mk h
 obtain ⟨⟨hl,hl0⟩,h4,hP⟩:=h
 obtain ⟨f,hf,rfl⟩:=lit453 l hl
 rw [hf] at hl0 h4
 rw [hl0,h4]
 have HK:=Aside0.mk hK
 clear hK hP hf hl hl0 h4
 conv => arg 2;whnf
 go_wp2_with (fail)
 exact HK.out _ rfl ⟨⟨by kernel_rfl,rfl⟩,rfl,HH.out.2.2⟩
theorem dec18 {k2 : Int} (h : Stp B w0 c gp w k2 p v ts fs ds l wr) (h7 : l.getD 7 default = .int .i64 0)
  (hK : ∀ l',l'.getD 7 default = .int .i64 0 → l'.getD 8 default = .int .i64 0 → Stp B w0 c gp w k2 p v ts fs ds l' wr → K ⟨l'.toArray,[]⟩ wr) : Code.wp Tryz.prog (nav [0,1,0,1,0,1,1,1,1,1,1,0,0] db) (Exit.then K Q) ⟨l.toArray,[]⟩ wr:=by
 have HH:=Aside0.mk h
 obtain ⟨⟨hl,hl0⟩,h4,hP⟩:=h
 obtain ⟨f,hf,rfl⟩:=lit453 l hl
 rw [hf] at hl0 h4 h7
 rw [hl0,h4,h7]
 have HK:=Aside0.mk hK
 clear hK hP hf hl hl0 h4 h7
 conv => arg 2;whnf
 go_wp2_with (fail)
 exact HK.out _ rfl rfl ⟨⟨by kernel_rfl,rfl⟩,rfl,HH.out.2.2⟩
theorem decB6 {k2 : Int} {N0 : List Tk} (h : Stp B w0 c gp w k2 p v ts fs ds l wr) (h7 : l.getD 7 default = .int .i64 0) (h0 : 0 < B) (hn : ts.length ≤ 100000000) (hN : nonws ts = N0)
  (hK : ∀ (l' : List Value) (wx : World) (ts' : List Tk) (j : Nat),Stp B w0 c gp w k2 p v ts' fs ds l' wx → l'.getD 7 default = .int .i64 j → j ≤ ts'.length → ts'.length ≤ 100000000 → nonws (ts'.take j) = N0 → K ⟨l'.toArray,[]⟩ wx) : Code.wp Tryz.prog (nav [0,1,0,1,0,1,1,1,1,1,1,0] db) (Exit.then K Q) ⟨l.toArray,[]⟩ wr:=by
 rw [b6_eq]
 refine wp_seq_k fun K1 hK1 => ?_
 refine dec18 h h7 fun l1 e7 e8 hs1 => hK1 _ _ ?_
 refine wp_block ?_
 refine wp_loop_list 453 (fun g l' wx => ∃ ts' j i,g = ts'.length - i ∧ Cm B w0 c gp w k2 p v N0 ts' fs ds j i l' wx) ts.length l1 hs1.1.1 ⟨ts,0,0,rfl,hs1,e7,e8,Nat.le_refl _,Nat.zero_le _,hn,by simpa [nonws] using hN⟩ ?_
 rintro n l2 wx hl2 ⟨ts',j,i,hni,hc⟩ J hJ
 refine wp_seq_k fun K2 hK2 => wp_seq_k fun K3 hK3 => ?_
 refine dec19 hc fun l3 e3 hc3 => hK3 _ _ ?_
 by_cases hi : i < ts'.length
 ·refine wp_cond_true (ev453 (by rw [e3,decide_eq_true hi]) hc3.1.1.1 (by decide)) (wp_skip (hK2 _ _ ?_))
  refine wp_block ?_
  have key : ∀ (l' : List Value) (wx : World) (ts2 : List Tk) (j' i' : Nat),ts2.length = ts'.length → i < i' → Cm B w0 c gp w k2 p v N0 ts2 fs ds j' i' l' wx → J ⟨l'.toArray,[]⟩ wx:=by
   intro l' wx ts2 j' i' e4 e5 hc4
   exact hJ (ts2.length - i') _ _ (by omega) hc4.1.1.1 ⟨ts2,j',i',rfl,hc4⟩
  refine wp_mono (decB7 (K:=J) (Q:=fun e a w => e = .exit 7 ∧ J a w) hc3 h0 hi key (fun l' wx ts2 j' i' e4 e5 hc4 => ⟨rfl,key l' wx ts2 j' i' e4 e5 hc4⟩)) ?_
  intro e a w' hq
  cases e with
  | normal => exact hq
  | exit id =>
   obtain ⟨e1,e2⟩:=hq
   injection e1 with e1
   subst e1
   exact e2
  | goto l => cases hq.1
  | ret => cases hq.1
  | panic ch => cases hq.1
  | outgrown => cases hq.1
 ·refine wp_cond_false (ev453 (by rw [e3,decide_eq_false hi]) hc3.1.1.1 (by decide)) (wp_exit ?_)
  obtain ⟨hs,e7',e8',hji,hil,hn',hN'⟩:=hc3
  refine hK l3 wx ts' j hs e7' (by omega) hn' ?_
  rw [List.drop_eq_nil_of_le (by omega)] at hN'
  simpa [nonws] using hN'
end Go.Proofs.YtlglijnaeaonpaaGreatDoor.Lx
end
section
set_option maxHeartbeats 8000000
set_option maxRecDepth 100000
set_option linter.unusedVariables false
set_option linter.unusedSimpArgs false
namespace Go.Proofs.YtlglijnaeaonpaaGreatDoor.Lx
open Go.RowKit Go.Proofs.YtlglijnaeaonpaaGreatDoorW.PrintWords
variable {w0 w : World}
def low (b : Int) : Int:=if 65 ≤ b ∧ b ≤ 90 then b + 32 else b
theorem Blk.cell {g : Nat} {xs : List Int} (h : Blk w g xs) {i : Nat} (hi : i < xs.length) : w.cell? ⟨g,i,none⟩ = some (.int .u8 (xs.getD i 0)):=by
 rw [blk_cell h]
 simp [nums,List.getD_eq_getElem?_getD,List.getElem?_eq_getElem hi]
theorem Blk.set {g : Nat} {xs : List Int} (h : Blk w g xs) {i : Nat} (b : Int) : Blk (w.setCell ⟨g,i,none⟩ (.int .u8 b)) g (xs.set i b):=by
 have:=blk_set h i (.int .u8 b)
 unfold Blk
 rw [this]
 simp [nums,List.map_set]
def lo (xs : List Int) (i : Nat) : List Int:=(xs.take i).map low ++ xs.drop i
theorem lo_at (xs : List Int) {i : Nat} (hi : i ≤ xs.length) (k : Nat) : (lo xs i)[k]? = if k < i then xs[k]?.map low else xs[k]?:=by
 unfold lo
 have hl : ((xs.take i).map low).length = i:=by rw [List.length_map,List.length_take];omega
 split
 ·rw [List.getElem?_append_left (by omega),List.getElem?_map,List.getElem?_take,if_pos (by assumption)]
 ·rw [List.getElem?_append_right (by omega),hl,List.getElem?_drop]
  congr 1
  omega
theorem lo_len (xs : List Int) {i : Nat} (hi : i ≤ xs.length) : (lo xs i).length = xs.length:=by
 unfold lo
 rw [List.length_append,List.length_map,List.length_take,List.length_drop]
 omega
theorem lo_get (xs : List Int) {i : Nat} (hi : i < xs.length) : (lo xs i).getD i 0 = xs.getD i 0:=by
 rw [List.getD_eq_getElem?_getD,List.getD_eq_getElem?_getD,lo_at xs (by omega),if_neg (by omega)]
theorem lo_set (xs : List Int) {i : Nat} (hi : i < xs.length) : (lo xs i).set i (low (xs.getD i 0)) = lo xs (i + 1):=by
 apply List.ext_getElem?
 intro k
 have e3 : xs.getD i 0 = xs[i]:=by rw [List.getD_eq_getElem?_getD,List.getElem?_eq_getElem hi];rfl
 by_cases hk : k = i
 ·subst hk
  rw [List.getElem?_set_self (by rw [lo_len xs (by omega)];exact hi),lo_at xs (by omega),if_pos (by omega),List.getElem?_eq_getElem hi,e3]
  rfl
 ·rw [List.getElem?_set_ne (Ne.symm hk),lo_at xs (by omega),lo_at xs (by omega)]
  by_cases h1 : k < i
  ·rw [if_pos h1,if_pos (by omega)]
  ·rw [if_neg h1,if_neg (by omega)]
theorem lo_same (xs : List Int) {i : Nat} (hi : i < xs.length) (h : low (xs.getD i 0) = xs.getD i 0) : lo xs (i + 1) = lo xs i:=by
 apply List.ext_getElem?
 intro k
 have e3 : xs.getD i 0 = xs[i]:=by rw [List.getD_eq_getElem?_getD,List.getElem?_eq_getElem hi];rfl
 rw [e3] at h
 rw [lo_at xs (by omega),lo_at xs (by omega)]
 by_cases hk : k = i
 ·subst hk
  rw [if_pos (by omega),if_neg (by omega),List.getElem?_eq_getElem hi,Option.map_some,h]
 ·by_cases h1 : k < i
  ·rw [if_pos h1,if_pos (by omega)]
  ·rw [if_neg h1,if_neg (by omega)]
def LoI (s : Nat) (w : World) (g : Nat) (xs : List Int) (k : Nat) (v7 : Value) (wr : World) : Prop :=
 ∃ i : Nat,v7 = .int .i64 i ∧ i ≤ xs.length ∧ k = xs.length - i ∧ Blk wr g (lo xs i) ∧ Below s w wr
theorem lower (g n : Nat) (xs : List Int) (h : Blk w g xs) (hn : xs.length = n) (hb : n ≤ 1099511627776) (hx : ∀ x ∈ xs,0 ≤ x ∧ x ≤ 255) {s : Nat} {w00 : World} (hs : Below s w00 w) (hg : s ≤ g) :
  Calls Tryz.prog 71 #[.slice (some ⟨g,0,none⟩) n n] w fun e w' => e = .returned (.slice (some ⟨g,0,none⟩) n n) ∧ Blk w' g (xs.map low) ∧ Below s w00 w':=by
 have hI : LoI s w00 g xs n (.int .i64 0) w:=⟨0,rfl,Nat.zero_le _,by omega,by simpa [lo] using h,hs⟩
 have HX:=Aside0.mk hx
 have HN:=Aside0.mk hn
 clear h hs hx hn
 go_enter Tryz.func71,Tryz.ntmps71
 go_wp2
 go_loopg [7] n (fun k v7 wr => LoI s w00 g xs k v7 wr)
 case atStart => exact hI
 case round =>
  clear hI
  obtain ⟨i,rfl,hil,hk,hB,hbl⟩:=hrel
  have HK:=Aside0.mk hk
  have HBL:=Aside0.mk hbl
  rw [HN.out] at hil
  clear hk hbl
  by_cases hi : i < n
  ·have hltI : (i : Int) < (n : Int):=by omega
   have hxl : i < xs.length:=by have:=HN.out;omega
   have hc:=hB.cell (i:=i) (by rw [lo_len xs (by omega)];exact hxl)
   rw [lo_get xs hxl] at hc
   have hbnd : 0 ≤ xs.getD i 0 ∧ xs.getD i 0 ≤ 255:=by
    have e3 : xs.getD i 0 = xs[i]:=by rw [List.getD_eq_getElem?_getD,List.getElem?_eq_getElem hxl];rfl
    rw [e3]
    exact HX.out _ (List.getElem_mem _)
   have hf : wr.frozen? ⟨g,i,none⟩ = false:=blk_frozen hB i
   have hBs:=hB.set (i:=i) (low (xs.getD i 0))
   rw [lo_set xs hxl] at hBs
   have hsame : low (xs.getD i 0) = xs.getD i 0 → Blk wr g (lo xs (i + 1)):=fun e => by rw [lo_same xs hxl e];exact hB
   have HSM:=Aside0.mk hsame
   have HBS:=Aside0.mk hBs
   have HXL:=Aside0.mk hxl
   clear hB hsame hBs hxl
   revert hc hbnd HSM HBS
   generalize xs.getD i 0 = b
   rintro hc ⟨hb0,hb1⟩ HSM HBS
   by_cases h1 : 65 ≤ b
   ·by_cases h2 : b ≤ 90
    ·have e : low b = b + 32:=by simp [low,h1,h2]
     rw [e] at HBS
     have hw32 : IntKind.u8.wrap (b + 32) = b + 32:=by simp [IntKind.wrap,IntKind.bits,IntKind.signed];omega
     clear e
     go_wp2
     go_roundg (n - (i + 1))
     case measure => have:=HK.out;have:=HN.out;omega
     case rel => exact ⟨i + 1,rfl,HXL.out,by rw [HN.out],HBS.out,HBL.out.setCell hg _⟩
    ·have e : low b = b:=by simp [low,h2]
     clear HBS
     go_wp2
     go_roundg (n - (i + 1))
     case measure => have:=HK.out;have:=HN.out;omega
     case rel => exact ⟨i + 1,rfl,HXL.out,by rw [HN.out],HSM.out e,HBL.out⟩
   ·have e : low b = b:=by simp [low,h1]
    clear HBS
    go_wp2
    go_roundg (n - (i + 1))
    case measure => have:=HK.out;have:=HN.out;omega
    case rel => exact ⟨i + 1,rfl,HXL.out,by rw [HN.out],HSM.out e,HBL.out⟩
  ·have hltI : ¬ (i : Int) < (n : Int):=by omega
   have hin : i = xs.length:=by have:=HN.out;omega
   have hB2 : Blk wr g (xs.map low):=by
    rw [hin] at hB
    simpa [lo] using hB
   have HB2:=Aside0.mk hB2
   clear hin hB hB2
   go_wp2
   go_ret
   exact ⟨rfl,HB2.out,HBL.out⟩
end Go.Proofs.YtlglijnaeaonpaaGreatDoor.Lx
end
section
set_option maxHeartbeats 8000000
set_option maxRecDepth 100000
set_option linter.unusedVariables false
set_option linter.unusedSimpArgs false
namespace Go.Proofs.YtlglijnaeaonpaaGreatDoor.Lx
open Go.RowKit Go.Proofs.YtlglijnaeaonpaaGreatDoorW.PrintWords
variable {w0 w wr : World} {c : Cfg} {p : Int} {B : Nat} {gp : Nat} {v : PV} {ts : List Tk} {fs : List Nat} {ds : List Int} {k q : Int} {xs : List Int} {K : Act → World → Prop} {Q : Exit → Act → World → Prop} {l : List Value} {off : Int}
theorem dec37 {k2 : Int} {j : Nat} (h : Stp B w0 c gp w k2 p v ts fs ds l wr) (h0 : 0 < B) (h7 : l.getD 7 default = .int .i64 j) (hj : j ≤ ts.length) (hn : ts.length ≤ 100000000)
  (hK : ∀ l' wx b',Stp B w0 c gp w k2 p { v with buf:=b' } (ts.take j) fs ds l' wx → K ⟨l'.toArray,[]⟩ wx) : Code.wp Tryz.prog (nav [0,1,0,1,0,1,1,1,1,1,1,1,0] db) (Exit.then K Q) ⟨l.toArray,[]⟩ wr:=by
 obtain ⟨⟨hl,hl0⟩,h4,hP⟩:=h
 obtain ⟨f,hf,rfl⟩:=lit453 l hl
 rw [hf] at hl0 h4
 rw [hl0,h4]
 have HP:=Aside0.mk hP
 have HK:=Aside0.mk hK
 clear hK
 rw [hf] at h7
 rw [h7]
 clear hf hl hl0 h4 h7
 have c4:=hP.1.c4
 have f4:=hP.1.f 4
 have hjb : j ≤ 100000000:=by omega
 have ht:=hP.1.tb
 obtain ⟨A,n',cap,hbv,e1,e2⟩:=hP.1.tb.getD
 rw [hbv] at c4 ht
 have hT : Tb B wr (.slice A j cap) (ts.take j):=by
  obtain ⟨A',n2,cap',e,h1,h2,h3,h4⟩:=ht
  injection e with e e' e''
  subst e;subst e';subst e''
  refine ⟨_,_,_,rfl,by simp;omega,by omega,by omega,fun hp => ?_⟩
  obtain ⟨g',o',cs,e,hBg,hg,hs,hc⟩:=h4 (by omega)
  refine ⟨_,_,cs,e,hBg,hg,by omega,fun i t ht => ?_⟩
  rw [List.getElem?_take] at ht
  split at ht
  ·exact hc i t ht
  ·cases ht
 have HT:=Aside0.mk hT
 have hjc : (j : Int) ≤ (cap : Int):=by omega
 clear hP hbv ht hT
 conv => arg 2;whnf
 go_wp2_with (fail)
 exact HK.out _ _ _ ⟨⟨by kernel_rfl,rfl⟩,rfl,HP.out.1.rebuf h0 (K59.of_below (Below.refl _ _) HP.out.1.hB) HT.out,HP.out.2.trans (HP.out.1.kset 4 _)⟩
theorem dec38 {k2 : Int} (h : Stp B w0 c gp w k2 p v ts fs ds l wr) (h0 : 0 < B) (hx : ∀ x ∈ ds,0 ≤ x ∧ x ≤ 255)
  (hK : ∀ l' wx dv,Stp B w0 c gp w k2 p { v with data:=dv } ts fs (ds.map low) l' wx → K ⟨l'.toArray,[]⟩ wx) : Code.wp Tryz.prog (nav [0,1,0,1,0,1,1,1,1,1,1,1,1,0] db) (Exit.then K Q) ⟨l.toArray,[]⟩ wr:=by
 obtain ⟨⟨hl,hl0⟩,h4,hP⟩:=h
 obtain ⟨f,hf,rfl⟩:=lit453 l hl
 rw [hf] at hl0 h4
 rw [hl0,h4]
 have HP:=Aside0.mk hP
 have HK:=Aside0.mk hK
 clear hK
 clear hf hl hl0 h4
 have c6:=hP.1.c6
 obtain ⟨A,n,cp,hdv,hd1,hd2,hd3⟩:=hP.1.dat.reads
 rw [hdv] at c6
 have HX:=Aside0.mk hx
 clear hP hdv hx
 conv => arg 2;whnf
 go_wp2_with (fail)
 refine (copy A n cp ds wr hd3 hd2).mono ?_
 rintro e w1 ⟨g,rfl,hB1,hg1,hbl1⟩
 have HB1:=Aside0.mk hB1
 have HBL1:=Aside0.mk hbl1
 clear hB1 hbl1
 go_wp2_with (fail)
 refine (lower g n ds HB1.out hd1 hd2 HX.out HBL1.out hg1).mono ?_
 rintro e w2 ⟨rfl,hB2,hbl2⟩
 have hP2:=HP.out.1.below hbl2
 have hk2:=HP.out.2.below hbl2 HP.out.1.hB
 have f6:=hP2.f 6
 have c6':=hP2.c6
 have HB2:=Aside0.mk (And.intro hB2 (And.intro hP2 hk2))
 clear hB2 hbl2 hP2 hk2 c6
 go_wp2_with (fail)
 refine HK.out _ _ _ ⟨⟨by kernel_rfl,rfl⟩,rfl,HB2.out.2.1.store h0 6 _ { v with data:=.slice (some ⟨g,0,none⟩) n n } _ _ _ rfl HB2.out.2.1.tb HB2.out.2.1.sts ?_,HB2.out.2.2.trans (HB2.out.2.1.kset 6 _)⟩
 refine ⟨_,_,_,rfl,by simp [hd1],hd2,fun hp => ⟨g,0,_,_,rfl,HB2.out.1,fun j hj => ?_⟩⟩
 have hjl : j < ds.length:=by omega
 simp [nums,List.getD_eq_getElem?_getD,List.getElem?_eq_getElem hjl]
theorem dec39 {k2 : Int} (h : Stp B w0 c gp w k2 p v ts fs ds l wr) (h0 : 0 < B)
  (hK : ∀ l' wx,Stp B w0 c gp w k2 p { v with pe:=k2 == 31 } ts fs ds l' wx → K ⟨l'.toArray,[]⟩ wx) : Code.wp Tryz.prog (nav [0,1,0,1,0,1,1,1,1,1,1,1,1,1,0] db) (Exit.then K Q) ⟨l.toArray,[]⟩ wr:=by
 obtain ⟨⟨hl,hl0⟩,h4,hP⟩:=h
 obtain ⟨f,hf,rfl⟩:=lit453 l hl
 rw [hf] at hl0 h4
 rw [hl0,h4]
 have HP:=Aside0.mk hP
 have HK:=Aside0.mk hK
 clear hK
 clear hf hl hl0 h4
 have c10:=hP.1.c10
 have f10:=hP.1.f 10
 clear hP
 conv => arg 2;whnf
 go_wp2_with (fail)
 exact HK.out _ _ ⟨⟨by kernel_rfl,rfl⟩,rfl,HP.out.1.store' h0 10 _ { v with pe:=k2 == 31 } rfl rfl rfl rfl,HP.out.2.trans (HP.out.1.kset 10 _)⟩
theorem dec40 {k2 : Int} (h : Stp B w0 c gp w k2 p v ts fs ds l wr)
  (hK : ∀ l',l'.getD 2 default = .int .u32 8 → Stp B w0 c gp w k2 p v ts fs ds l' wr → K ⟨l'.toArray,[]⟩ wr) : Code.wp Tryz.prog (nav [0,1,0,1,0,1,1,1,1,1,1,1,1,1,1,0] db) (Exit.then K Q) ⟨l.toArray,[]⟩ wr:=by
 obtain ⟨⟨hl,hl0⟩,h4,hP⟩:=h
 obtain ⟨f,hf,rfl⟩:=lit453 l hl
 rw [hf] at hl0 h4
 rw [hl0,h4]
 have HP:=Aside0.mk hP
 have HK:=Aside0.mk hK
 clear hK
 clear hf hl hl0 h4 hP
 conv => arg 2;whnf
 go_wp2_with (fail)
 exact HK.out _ rfl ⟨⟨by kernel_rfl,rfl⟩,rfl,HP.out⟩
end Go.Proofs.YtlglijnaeaonpaaGreatDoor.Lx
end
