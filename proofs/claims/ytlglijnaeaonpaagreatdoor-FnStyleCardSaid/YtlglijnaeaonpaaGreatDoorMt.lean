/- FnStyle: a part of the proof (Mt). -/
import Derived.Test.YtlglijnaeaonpaaGreatDoorMs
import Derived.StillTailTactics
import Derived.Lib.SlBytesConst
import Derived.Deep.LoopGhost
import Derived.Deep.DeepCutAuto
import Derived.ArgAppend
section
set_option maxHeartbeats 8000000
set_option maxRecDepth 100000
set_option linter.unusedVariables false
set_option linter.unusedSimpArgs false
namespace Go.Proofs.YtlglijnaeaonpaaGreatDoor.Lx
open Go.RowKit Go.Proofs.YtlglijnaeaonpaaGreatDoorW.PrintWords
variable {w0 w wr : World} {c : Cfg} {p : Int} {B : Nat} {gp : Nat} {v : PV} {ts : List Tk} {fs : List Nat} {ds : List Int} {k q : Int} {xs : List Int} {K : Act → World → Prop} {Q : Exit → Act → World → Prop} {l : List Value} {off : Int}
noncomputable def dr : Code:=(Tryz.f7.body.bind firstLoop).getD .skip
theorem lit64 (l : List Value) (hl : l.length = 64) : ∃ f : Nat → Value,(∀ i,l.getD i default = f i) ∧ l = f 0 :: f 1 :: f 2 :: f 3 :: f 4 :: f 5 :: f 6 :: f 7 :: f 8 :: f 9 :: f 10 :: f 11 :: f 12 :: f 13 :: f 14 :: f 15 :: f 16 :: f 17 :: f 18 :: f 19 :: f 20 :: f 21 :: f 22 :: f 23 :: f 24 :: f 25 :: f 26 :: f 27 :: f 28 :: f 29 :: f 30 :: f 31 :: f 32 :: f 33 :: f 34 :: f 35 :: f 36 :: f 37 :: f 38 :: f 39 :: f 40 :: f 41 :: f 42 :: f 43 :: f 44 :: f 45 :: f 46 :: f 47 :: f 48 :: f 49 :: f 50 :: f 51 :: f 52 :: f 53 :: f 54 :: f 55 :: f 56 :: f 57 :: f 58 :: f 59 :: f 60 :: f 61 :: f 62 :: f 63 :: []:=by
 refine ⟨fun i => l.getD i default,fun _ => rfl,?_⟩
 conv => lhs;rw [list_lit l,hl]
 kernel_rfl
def bars (ts : List Tk) : List Int:=(nonws ts).flatMap (fun t => t.bs ++ [124])
theorem bars_snoc (ts : List Tk) (t : Tk) : bars (ts ++ [t]) = bars ts ++ (if t.tt == 20 then [] else t.bs ++ [124]):=by
 unfold bars nonws
 rw [List.filter_append,List.flatMap_append]
 congr 1
 by_cases h : t.tt = 20 <;> simp [h]
def RI (S : Nat) (w : World) (buf : Value) (ts : List Tk) (g11 : Nat) (kv dv a6 a7 a20 : Value) (i : Nat) (l : List Value) (wr : World) : Prop :=
 ∃ tv,l.length = 64 ∧ l.getD 6 default = a6 ∧ l.getD 7 default = a7 ∧ l.getD 20 default = a20 ∧ l.getD 11 default = .pointer (some ⟨g11,0,none⟩) ∧ l.getD 36 default = buf ∧ l.getD 37 default = .int .i64 ts.length ∧ l.getD 38 default = .int .i64 i ∧
  Below S w wr ∧ S ≤ w.heap.size ∧ S ≤ g11 ∧ i ≤ ts.length ∧ wr.heap[g11]? = some (.cells #[kv,dv,tv,.slice none 0 0,.slice none 0 0,.string ⟨#[]⟩] 55 (0,0)) ∧ wr.ownsRow S 5 1 tv (bars (ts.take i)).length (nums .u8 (bars (ts.take i)))
theorem rulesTok {S g11 i : Nat} {buf kv dv a6 a7 a20 : Value} (h : RI S w buf ts g11 kv dv a6 a7 a20 i l wr) (hT : Tb B w buf ts) (hS : S = w.heap.size) (hi : i < ts.length) (hn : ts.length ≤ 100000000) (hb : (bars ts).length ≤ 100000000000)
  (hK : ∀ l' wx,RI S w buf ts g11 kv dv a6 a7 a20 (i + 1) l' wx → K ⟨l'.toArray,[]⟩ wx) : Code.wp Tryz.prog (nav [1,1,0,0,1,1,1,0,1,0,0] dr) (Exit.then K Q) ⟨l.toArray,[]⟩ wr:=by
 obtain ⟨tv,hl,h6,h7,h20,h11,h36,h37,h38,hbl,hSw,hg,hil,hown,htv⟩:=h
 obtain ⟨f,hf,rfl⟩:=lit64 l hl
 rw [hf] at h6 h7 h20 h11 h36 h37 h38
 rw [h6,h7,h20,h11,h36,h37,h38]
 obtain ⟨t,ht⟩ : ∃ t,ts[i]? = some t:=⟨_,List.getElem?_eq_getElem hi⟩
 have hT2:=hT.below (hS ▸ hbl)
 obtain ⟨g,o,n,cap,dv2,rfl,e1,e2,e3,e4,e5,e6⟩:=hT2.at_ ht
 obtain ⟨A,nd,cd,rfl,-,-,-⟩:=id e6
 have hltI : (i : Int) < (ts.length : Int):=by omega
 have hlt2 : (i : Int) < (n : Int):=by omega
 have hib : i ≤ 100000000:=by omega
 have hgl:=blk_lt hown
 have HH:=Aside0.mk (And.intro hbl (And.intro hSw (And.intro hg (And.intro hown htv))))
 have HK:=Aside0.mk hK
 have HT:=Aside0.mk (And.intro ht e6)
 clear hf hl h6 h7 h20 h11 h36 h37 h38 hT hT2 hK hbl ht e6 hown htv
 have htk : ts.take (i + 1) = ts.take i ++ [t]:=by rw [List.take_add_one,HT.out.1];rfl
 have hba:=bars_snoc (ts.take i) t
 rw [← htk] at hba
 have HBA:=Aside0.mk hba
 clear htk hba
 by_cases hk : t.tt = 20
 ·have hkb : (t.tt != 20) = false:=by simp [hk]
  have HKK:=Aside0.mk hk
  clear hk
  conv => arg 2;whnf
  go_wp2_with (fail)
  obtain ⟨x1,x2,x3,x4,x5⟩:=HH.out
  refine HK.out _ _ ⟨tv,by kernel_rfl,rfl,rfl,rfl,rfl,rfl,rfl,rfl,below_alloc (hS ▸ x1) _ |> (hS ▸ ·),x2,x3,by omega,blk_alloc x4 _,?_⟩
  have e : bars (ts.take (i + 1)) = bars (ts.take i):=by rw [HBA.out];simp [HKK.out]
  rw [e]
  exact pw_own_below x5 (below_alloc (Below.refl _ _) _)
 ·have hkb : (t.tt != 20) = true:=by simp [hk]
  have HKK:=Aside0.mk hk
  clear hk
  have hg4:=HH.out.2.2.2.1
  have c112 : (wr.alloc (.cells #[.int .u32 t.tt,.slice A nd cd] 59)).cell? ⟨g11,2,none⟩ = some tv:=by rw [blk_cell (blk_alloc hg4 _)];rfl
  clear hg4
  obtain ⟨x1,x2,x3,x4,x5⟩:=HH.out
  have hal:=blk_alloc x4 (.cells #[.int .u32 t.tt,.slice A nd cd] 59)
  have HO2:=pw_own_below x5 (below_alloc (Below.refl _ wr) (.cells #[.int .u32 t.tt,.slice A nd cd] 59))
  have HB2 : Below S w (wr.alloc (.cells #[.int .u32 t.tt,.slice A nd cd] 59)):=by
   subst hS
   exact below_alloc x1 _
  have HR2 : ReadsInt (wr.alloc (.cells #[.int .u32 t.tt,.slice A nd cd] 59)) .u8 A nd t.bs:=by
   obtain ⟨A',n',cp',e,r1,r2,r3⟩:=(HT.out.2.below (below_alloc (Below.refl _ wr) (.cells #[.int .u32 t.tt,.slice A nd cd] 59))).reads
   injection e with e e' e''
   subst e;subst e'
   exact r3
  have hndb : nd ≤ 1099511627776:=by
   obtain ⟨A',n',cp',e,r1,r2,r3⟩:=HT.out.2
   injection e with e e' e''
   omega
  have hbi : (bars (ts.take i)).length ≤ 100000000000:=by
   have e : ts = ts.take i ++ ts.drop i:=(List.take_append_drop i ts).symm
   have e2 : bars ts = bars (ts.take i) ++ bars (ts.drop i):=by
    conv => lhs;rw [e]
    unfold bars nonws
    rw [List.filter_append,List.flatMap_append]
   rw [e2,List.length_append] at hb
   omega
  have hSz : S ≤ (wr.alloc (.cells #[.int .u32 t.tt,.slice A nd cd] 59)).heap.size:=by have:=HB2.size;omega
  have P:=Aside0.mk (And.intro hal (And.intro HO2 (And.intro HB2 HR2)))
  clear x1 x4 x5 hal HO2 HB2 HR2 hb
  conv => arg 2;whnf
  go_wp2_with (first
   | (at_builtin
      refine print_append_row (w0:=w) S rfl (.tmp 46) (.tmp 48) 24 5 .u8 1 (by rfl) Tryz.underlying24 info5 (by decide) tv (bars (ts.take i)) t.bs A nd cd (by rfl) (by rfl) P.out.2.1 P.out.2.2.2 P.out.2.2.1 hSz (by omega) ?_
      intro v1 w1 hown1 hB1 hg1 hat1
      have hgw1:=(hg1.block g11 (blk_lt P.out.1) (own_ne P.out.2.1 P.out.1 (by decide))).trans P.out.1
      have hl1 : (bars (ts.take i) ++ t.bs).length = (bars (ts.take i)).length + nd:=by rw [List.length_append,P.out.2.2.2.1]
      have P1:=Aside0.mk (And.intro hgw1 (And.intro hown1 (And.intro hB1 hl1)))
      clear hgw1 hown1 hB1 hg1 hat1 hl1)
   | (at_builtin
      refine print_append_num (w0:=w) S rfl (.tmp 49) (.tmp 50) 24 5 .u8 1 (by rfl) Tryz.underlying24 info5 (by decide) v1 (bars (ts.take i) ++ t.bs) 124 (by rfl) (by rfl) P1.out.2.1 P1.out.2.2.1 (by have:=P1.out.2.2.1.size;omega) (by have:=P1.out.2.2.2;omega) ?_
      intro v2 w2 hown2 hB2 hg2 hat2
      have hgw2:=(hg2.block g11 (blk_lt P1.out.1) (own_ne P1.out.2.1 P1.out.1 (by decide))).trans P1.out.1
      have c2 : w2.cell? ⟨g11,2,none⟩ = some tv:=by rw [blk_cell hgw2];rfl
      have f2 : w2.frozen? ⟨g11,2,none⟩ = false:=blk_frozen hgw2 2
      obtain ⟨g5,n5,cap5,rfl⟩ : ∃ g5 n5 cap5,v2 = .slice (some ⟨g5,0,none⟩) n5 cap5:=by
       rcases hown2.2 with ⟨_,hz⟩|⟨g5,cap5,cur5,e5,_⟩
       ·simp at hz
       ·exact ⟨g5,_,cap5,e5⟩
      have P2:=Aside0.mk (And.intro hgw2 (And.intro hown2 hB2))
      clear hgw2 hown2 hB2 hg2 hat2))
  have e : bars (ts.take (i + 1)) = bars (ts.take i) ++ t.bs ++ [124]:=by rw [HBA.out];simp [HKK.out]
  refine HK.out _ _ ⟨.slice (some ⟨g5,0,none⟩) n5 cap5,by kernel_rfl,rfl,rfl,rfl,rfl,rfl,by rw [e1];rfl,rfl,P2.out.2.2.setCell hg _,hSw,hg,by omega,blk_set P2.out.1 2 _,?_⟩
  rw [e]
  exact own_setCell P2.out.2.1 (own_ne P2.out.2.1 P2.out.1 (by decide)) _
theorem rulesDone {S g11 : Nat} {buf kv dv a6 a7 a20 : Value} (h : RI S w buf ts g11 kv dv a6 a7 a20 ts.length l wr) (hn : ts.length ≤ 100000000)
  (hQ : ∀ l',RI S w buf ts g11 kv dv a6 a7 a20 ts.length l' wr → Q (.exit 2) ⟨l'.toArray,[]⟩ wr) : Code.wp Tryz.prog (nav [1,1,0,0,1,1,1,0,1,0,0] dr) (Exit.then K Q) ⟨l.toArray,[]⟩ wr:=by
 obtain ⟨tv,hl,h6,h7,h20,h11,h36,h37,h38,hr⟩:=h
 obtain ⟨f,hf,rfl⟩:=lit64 l hl
 rw [hf] at h6 h7 h20 h11 h36 h37 h38
 rw [h6,h7,h20,h11,h36,h37,h38]
 have HH:=Aside0.mk hr
 have HQ:=Aside0.mk hQ
 have hltI : ¬ (ts.length : Int) < (ts.length : Int):=by omega
 clear hf hl h6 h7 h20 h11 h36 h37 h38 hr hQ
 conv => arg 2;whnf
 go_wp2_with (fail)
 exact HQ.out _ ⟨tv,by kernel_rfl,rfl,rfl,rfl,rfl,rfl,rfl,rfl,HH.out⟩
theorem text_eq : nav [1,1,0,0,1,1,1,0,1] dr = .block 2 (.loop (nav [1,1,0,0,1,1,1,0,1,0,0] dr)):=by kernel_rfl
theorem rulesText {S g11 : Nat} {buf kv dv a6 a7 a20 : Value} (h : RI S w buf ts g11 kv dv a6 a7 a20 0 l wr) (hT : Tb B w buf ts) (hS : S = w.heap.size) (hn : ts.length ≤ 100000000) (hb : (bars ts).length ≤ 100000000000)
  (hK : ∀ l' wx,RI S w buf ts g11 kv dv a6 a7 a20 ts.length l' wx → K ⟨l'.toArray,[]⟩ wx) : Code.wp Tryz.prog (nav [1,1,0,0,1,1,1,0,1] dr) (Exit.then K Q) ⟨l.toArray,[]⟩ wr:=by
 rw [text_eq]
 refine wp_block ?_
 refine wp_loop_list 64 (fun g l' wx => ∃ i,g = ts.length - i ∧ RI S w buf ts g11 kv dv a6 a7 a20 i l' wx) ts.length l (by obtain ⟨_,hl,_⟩:=h;exact hl) ⟨0,rfl,h⟩ ?_
 rintro n l1 wx hl1 ⟨i,hni,hr⟩ J hJ
 have hil : i ≤ ts.length:=by obtain ⟨_,_,_,_,_,_,_,_,_,_,_,_,h,_⟩:=hr;exact h
 rcases Nat.lt_or_ge i ts.length with hi|hi
 ·exact rulesTok hr hT hS hi hn hb fun l' w' hr' => hJ (ts.length - (i + 1)) l' w' (by omega) (by obtain ⟨_,hl,_⟩:=hr';exact hl) ⟨i + 1,rfl,hr'⟩
 ·have hie : i = ts.length:=by omega
  subst hie
  exact rulesDone hr hn fun l' hr' => hK l' wx hr'
theorem Ps.pieces {w' : World} {row : Option Nat} (h : Ps B w0 c gp w p v ts fs ds) (hB0 : B = w0.heap.size) (h0 : 0 < B) (hg : w.grownBy w' row) (hr : ∀ k,row = some k → B ≤ k ∧ ∃ cs,w.heap[k]? = some (.cells cs 55 (0,0))) : Ps B w0 c gp w' p v ts fs ds:=by
 have hb : ∀ (k : Nat) (cs : Array Value) (t : TypeId) (fr : Nat × Nat),w.heap[k]? = some (.cells cs t fr) → t ≠ 55 → w'.heap[k]? = some (.cells cs t fr):=by
  intro k cs t fr hk ht
  refine (hg.block k (blk_lt hk) ?_).trans hk
  intro e
  obtain ⟨_,cs',hk'⟩:=hr k e.symm
  rw [hk] at hk'
  injection hk' with hk'
  injection hk' with _ hk'
  exact ht hk'
 have hlow : ∀ k,k < B → w'.heap[k]? = w.heap[k]?:=by
  intro k hk
  refine hg.block k (by have:=h.hB;omega) ?_
  intro e
  have:=(hr k e.symm).1
  omega
 have hrd : ∀ v xs,Rd w v xs → Rd w' v xs:=by
  rintro v xs ⟨A,n,cp,rfl,h1,h2,h3⟩
  refine ⟨A,n,cp,rfl,h1,h2,fun hp => ?_⟩
  obtain ⟨g,o,cs,fr,e,hg,hc⟩:=h3 hp
  exact ⟨g,o,cs,fr,e,hb _ _ _ _ hg (by decide),hc⟩
 obtain ⟨cur,fr,hbuf⟩:=h.byt
 have hb2:=hb _ _ _ _ hbuf (by decide)
 refine ⟨⟨hb _ _ _ _ h.lx.lex (by decide),hb _ _ _ _ h.lx.inp (by decide),fun j hj => ?_,?_,h.lx.nl,h.lx.nb,h.lx.ne,Kp.refl _ _,h.lx.le0,h.lx.le1,h.lx.le2,h.lx.le3,h.lx.le4,h.lx.ok⟩,hb _ _ _ _ h.par (by decide),⟨cur,fr,hb2⟩,h.tb.keep (fun g cs hg => hb _ _ _ _ hg (by decide)) hrd,?_,hrd _ _ h.dat,?_,h.Bp,h.Bi⟩
 ·have:=h.lx.buf j hj
  unfold World.cell? at this ⊢
  rw [hbuf] at this
  rw [hb2]
  exact this
 ·have:=h.lx.eof
  unfold World.cell? at this ⊢
  rw [show w'.heap[(⟨0,0,none⟩ : Addr).block]? = w.heap[(⟨0,0,none⟩ : Addr).block]? from hlow 0 h0]
  exact this
 ·obtain ⟨h1,h2⟩:=h.sts
  refine ⟨h1,?_⟩
  rcases h2 with h2|⟨g,cap,cur2,e,hB,hg2,r⟩
  ·exact .inl h2
  ·exact .inr ⟨g,cap,cur2,e,hB,hb _ _ _ _ hg2 (by decide),r⟩
 ·have hk:=h.kt
  refine ⟨hg.os.trans hk.os,hg.tape.trans hk.tape,hg.output.trans hk.output,Nat.le_trans hk.size hg.size,fun k hkB => (hlow k hkB).trans (hk.low k hkB),fun k o ho _ => ?_⟩
  have hkB : k < B:=by rw [hB0];exact blk_lt ho
  exact ((hlow k hkB).trans (hk.low k hkB)).trans ho
structure Pc where
 kind : ByteArray
 data : List Int
 text : List Int
def Pcs (B : Nat) (w : World) (v : Value) (ps : List Pc) : Prop :=
 ∃ vs : List Value,w.ownsRow B 55 6 v ps.length vs ∧ ∀ (i : Nat) (q : Pc),ps[i]? = some q → ∃ dv tv,vs[i * 6]? = some (.string q.kind) ∧ vs[i * 6 + 1]? = some dv ∧ vs[i * 6 + 2]? = some tv ∧ vs[i * 6 + 3]? = some (.slice none 0 0) ∧ vs[i * 6 + 4]? = some (.slice none 0 0) ∧ vs[i * 6 + 5]? = some (.string ⟨#[]⟩) ∧ Rd w dv q.data ∧ Rd w tv q.text
theorem rules7 {g11 : Nat} {kv dv a7 a20 : Value} (hl : l.length = 64) (h6 : l.getD 6 default = .pointer (some ⟨gp,0,none⟩)) (h7 : l.getD 7 default = a7) (h20 : l.getD 20 default = a20) (h11 : l.getD 11 default = .pointer (some ⟨g11,0,none⟩))
  (hP : Ps B w0 c gp wr p v ts fs ds) {S : Nat} {wb : World} (hbw : Below S wb wr) (hS : S ≤ wb.heap.size) (hg : S ≤ g11) (hgc : wr.heap[g11]? = some (.cells #[kv,dv,.slice none 0 0,.slice none 0 0,.slice none 0 0,.string ⟨#[]⟩] 55 (0,0)))
  (hK : ∀ l',RI S wb v.buf ts g11 kv dv (.pointer (some ⟨gp,0,none⟩)) a7 a20 0 l' wr → K ⟨l'.toArray,[]⟩ wr) : Code.wp Tryz.prog (nav [1,1,0,0,1,1,1,0,0] dr) (Exit.then K Q) ⟨l.toArray,[]⟩ wr:=by
 obtain ⟨f,hf,rfl⟩:=lit64 l hl
 rw [hf] at h6 h7 h20 h11
 rw [h6,h7,h20,h11]
 obtain ⟨A,n,cap,hbv,e1,e2⟩:=hP.tb.getD
 have HP:=Aside0.mk hP
 have HK:=Aside0.mk hK
 have HB:=Aside0.mk hbv
 have HG:=Aside0.mk hgc
 have HE:=Aside0.mk e1
 clear hf hl h6 h7 h20 h11 hP hK hbv hgc e1
 conv => arg 2;whnf
 go_wp2_with (fail)
 refine (values HP.out).mono ?_
 rintro e w1 ⟨rfl,rfl⟩
 rw [HB.out]
 go_wp2_with (fail)
 refine HK.out _ ⟨_,by kernel_rfl,rfl,rfl,rfl,rfl,by rw [HB.out];rfl,by rw [HE.out];rfl,rfl,hbw,hS,hg,Nat.zero_le _,HG.out,?_⟩
 exact ⟨rfl,.inl ⟨rfl,rfl⟩⟩
def declB : ByteArray:=⟨#[100,101,99,108,97,114,97,116,105,111,110]⟩
theorem rules6 {a6 a7 a20 dv : Value} (hl : l.length = 64) (h6 : l.getD 6 default = a6) (h7 : l.getD 7 default = a7) (h20 : l.getD 20 default = a20) (h8 : l.getD 8 default = .int .u32 8) (h10 : l.getD 10 default = dv) (hd : Rd wr dv xs)
  (hK : ∀ (l' : List Value) (wb : World) (dv' : Value),l'.length = 64 → l'.getD 6 default = a6 → l'.getD 7 default = a7 → l'.getD 20 default = a20 → l'.getD 11 default = .pointer (some ⟨wb.heap.size,0,none⟩) → Below wr.heap.size wr wb → Rd wb dv' xs →
   K ⟨l'.toArray,[]⟩ (wb.alloc (.cells #[.string declB,dv',.slice none 0 0,.slice none 0 0,.slice none 0 0,.string ⟨#[]⟩] 55))) : Code.wp Tryz.prog (nav [1,1,0,0,1,1,0] dr) (Exit.then K Q) ⟨l.toArray,[]⟩ wr:=by
 obtain ⟨f,hf,rfl⟩:=lit64 l hl
 rw [hf] at h6 h7 h20 h8 h10
 rw [h6,h7,h20,h8,h10]
 have HD:=Aside0.mk hd
 have HK:=Aside0.mk hK
 obtain ⟨A,n,cp,rfl,-,-,-⟩:=hd
 clear hf hl h6 h7 h20 h8 h10 hK
 conv => arg 2;whnf
 go_wp2_with (fail)
 refine (ruleName8 _).mono ?_
 rintro e w1 ⟨rfl,hb1⟩
 obtain ⟨A',n',cp',e,r1,r2,r3⟩:=(HD.out.below hb1).reads
 injection e with e e' e''
 subst e;subst e';subst e''
 have HB1:=Aside0.mk hb1
 have HR:=Aside0.mk r3
 clear hb1 r3
 go_wp2_with (fail)
 refine (icopy A n cp xs w1 HR.out r2).mono ?_
 rintro e w2 ⟨g,rfl,hB,hg,hb2⟩
 have HB2:=Aside0.mk (And.intro hB (HB1.out.trans (hb2.mono HB1.out.size)))
 clear hB hb2
 go_wp2_with (fail)
 have hbl:=HB2.out.2
 refine HK.out _ w2 (.slice (some ⟨g,0,none⟩) n n) (by kernel_rfl) rfl rfl rfl rfl hbl ?_
 refine ⟨_,_,_,rfl,r1,r2,fun hp => ⟨g,0,_,_,rfl,HB2.out.1,fun j hj => ?_⟩⟩
 have hjl : j < xs.length:=by omega
 simp [nums,List.getD_eq_getElem?_getD,List.getElem?_eq_getElem hjl]
theorem info55z : (Tryz.prog.info? 55).map (fun i => (i.zero,i.size,i.bytes)) = some (some (.agg #[.string ⟨#[]⟩,.slice none 0 0,.slice none 0 0,.slice none 0 0,.slice none 0 0,.string ⟨#[]⟩]),6,128):=by kernel_rfl
theorem rd_own {S n : Nat} {tv : Value} (h : w.ownsRow S 5 1 tv n (nums .u8 xs)) (hn : xs.length = n) (hb : n ≤ 1099511627776) : Rd w tv xs:=by
 rcases h.2 with ⟨rfl,h0⟩|⟨g,cap,cur,rfl,hb',hh,hn',hm,hsz,htk⟩
 ·subst h0
  have : xs = []:=List.eq_nil_of_length_eq_zero hn
  subst this
  exact Rd.nil _
 ·refine ⟨_,_,_,rfl,hn,hb,fun hp => ⟨g,0,cur,_,rfl,hh,fun j hj => ?_⟩⟩
  have : (cur.toList.take n)[j]? = (nums .u8 xs)[j]?:=by
   have h2 : cur.toList.take n = nums .u8 xs:=by simpa using htk
   rw [h2]
  rw [List.getElem?_take,if_pos hj] at this
  rw [Nat.zero_add,← Array.getElem?_toList,this]
  have hjl : j < xs.length:=by omega
  simp [nums,List.getD_eq_getElem?_getD,List.getElem?_eq_getElem hjl]
theorem rules13 {S g11 : Nat} {buf dv a6 a7 a20 : Value} {kb : ByteArray} {ps : List Pc} (h : RI S w buf ts g11 (.string kb) dv a6 a7 a20 ts.length l wr) (hdv : Rd wr dv xs) (hP : Pcs B wr a7 ps) (hB : B ≤ wr.heap.size) (hps : ps.length ≤ 100000) (hb : (bars ts).length ≤ 100000000000)
  (hK : ∀ (l' : List Value) (wx : World) (a7' : Value),l'.length = 64 → l'.getD 6 default = a6 → l'.getD 20 default = a20 → l'.getD 7 default = a7' → Pcs B wx a7' (ps ++ [⟨kb,xs,bars ts⟩]) → wr.grownBy wx a7.ownBlock → K ⟨l'.toArray,[]⟩ wx) :
  Code.wp Tryz.prog (nav [1,1,0,0,1,1,1,1] dr) (Exit.then K Q) ⟨l.toArray,[]⟩ wr:=by
 obtain ⟨tv,hl,h6,h7,h20,h11,h36,h37,h38,hbl,hSw,hg,hil,hown,htv⟩:=h
 obtain ⟨f,hf,rfl⟩:=lit64 l hl
 rw [hf] at h6 h7 h20 h11
 rw [h6,h7,h20,h11]
 rw [List.take_length] at htv
 have hrt:=rd_own htv rfl (by omega)
 obtain ⟨A,n,cp,rfl,-,-,-⟩:=id hdv
 obtain ⟨A2,n2,cp2,rfl,-,-,-⟩:=id hrt
 obtain ⟨vs,ho,hc⟩:=hP
 have HK:=Aside0.mk hK
 have P:=Aside0.mk (And.intro hdv (And.intro hrt (And.intro ho hc)))
 clear hf hl h6 h7 h20 h11 h36 h37 h38 hK hdv hrt ho hc hbl htv
 conv => arg 2;whnf
 have c0 : wr.cell? ⟨g11,0,none⟩ = some (.string kb):=by rw [blk_cell hown];rfl
 have c1 : wr.cell? ⟨g11,1,none⟩ = some (.slice A n cp):=by rw [blk_cell hown];rfl
 have c2 : wr.cell? ⟨g11,2,none⟩ = some (.slice A2 n2 cp2):=by rw [blk_cell hown];rfl
 have c3 : wr.cell? ⟨g11,3,none⟩ = some (.slice none 0 0):=by rw [blk_cell hown];rfl
 have c4 : wr.cell? ⟨g11,4,none⟩ = some (.slice none 0 0):=by rw [blk_cell hown];rfl
 have c5 : wr.cell? ⟨g11,5,none⟩ = some (.string ⟨#[]⟩):=by rw [blk_cell hown];rfl
 have hone : ∀ u ∈ [Value.string kb,.slice A n cp,.slice A2 n2 cp2,.slice none 0 0,.slice none 0 0,.string ⟨#[]⟩],u.oneCell' = true:=by intro u hu;simp at hu;rcases hu with rfl|rfl|rfl|rfl|rfl <;> rfl
 go_wp2_with (at_builtin;refine print_append_cells (w0:=wr) B rfl (.tmp 54) (.tmp 56) 26 55 _ 6 128 (by rfl) Tryz.underlying26 info55z rfl (by decide) (by decide) a7 ps.length vs [.string kb,.slice A n cp,.slice A2 n2 cp2,.slice none 0 0,.slice none 0 0,.string ⟨#[]⟩] (by rfl) (by simp [Act.eval]) rfl hone P.out.2.2.1 ((Below.refl _ _).mono hB) hB (by omega) ?_;intro v1 w1 hown1 hB1 hg1 hat1;have P1:=Aside0.mk (And.intro hown1 hg1);clear hown1 hB1 hg1 hat1)
 obtain ⟨hdv,hrt,ho,hc⟩:=P.out
 obtain ⟨ho1,hg1⟩:=P1.out
 have hvl : vs.length = ps.length * 6:=ho.1
 have hrd : ∀ v xs,Rd wr v xs → Rd w1 v xs:=by
  rintro v xs ⟨A,n,cp,rfl,h1,h2,h3⟩
  refine ⟨A,n,cp,rfl,h1,h2,fun hp => ?_⟩
  obtain ⟨g,o,cs,fr,e,hgg,hcc⟩:=h3 hp
  refine ⟨g,o,cs,fr,e,(hg1.block g (blk_lt hgg) ?_).trans hgg,hcc⟩
  intro he
  rcases ho.2 with ⟨rfl,_⟩|⟨g',cap,cur,rfl,_,hh,_⟩
  ·cases he
  ·injection he with he
   subst he
   rw [hh] at hgg
   injection hgg with hgg
   injection hgg with _ hgg
   cases hgg
 refine HK.out _ _ v1 (by kernel_rfl) rfl rfl rfl ⟨vs ++ [.string kb,.slice A n cp,.slice A2 n2 cp2,.slice none 0 0,.slice none 0 0,.string ⟨#[]⟩],by simpa using ho1,fun i q hq => ?_⟩ hg1
 have hil:=(List.getElem?_eq_some_iff.1 hq).1
 rw [List.length_append] at hil
 simp only [List.length_cons,List.length_nil] at hil
 rcases Nat.lt_or_ge i ps.length with hi|hi
 ·rw [List.getElem?_append_left hi] at hq
  obtain ⟨dv,tv,d1,d2,d3,e3,e4,e5,d4,d5⟩:=hc i q hq
  exact ⟨dv,tv,by rw [List.getElem?_append_left (by omega)];exact d1,by rw [List.getElem?_append_left (by omega)];exact d2,by rw [List.getElem?_append_left (by omega)];exact d3,by rw [List.getElem?_append_left (by omega)];exact e3,by rw [List.getElem?_append_left (by omega)];exact e4,by rw [List.getElem?_append_left (by omega)];exact e5,hrd _ _ d4,hrd _ _ d5⟩
 ·have hie : i = ps.length:=by omega
  subst hie
  rw [List.getElem?_append_right (by omega),Nat.sub_self] at hq
  simp at hq
  subst hq
  refine ⟨.slice A n cp,.slice A2 n2 cp2,?_,?_,?_,?_,?_,?_,hrd _ _ hdv,hrd _ _ hrt⟩
  ·rw [List.getElem?_append_right (by omega),hvl,Nat.sub_self];rfl
  ·rw [List.getElem?_append_right (by omega),hvl,show ps.length * 6 + 1 - ps.length * 6 = 1 by omega];rfl
  ·rw [List.getElem?_append_right (by omega),hvl,show ps.length * 6 + 2 - ps.length * 6 = 2 by omega];rfl
  ·rw [List.getElem?_append_right (by omega),hvl,show ps.length * 6 + 3 - ps.length * 6 = 3 by omega];rfl
  ·rw [List.getElem?_append_right (by omega),hvl,show ps.length * 6 + 4 - ps.length * 6 = 4 by omega];rfl
  ·rw [List.getElem?_append_right (by omega),hvl,show ps.length * 6 + 5 - ps.length * 6 = 5 by omega];rfl
theorem rules4 {a7 a20 : Value} {gt tt : Int} {R : Value → World → Prop} (hl : l.length = 64) (h6 : l.getD 6 default = .pointer (some ⟨gp,0,none⟩)) (h7 : l.getD 7 default = a7) (h20 : l.getD 20 default = a20)
  (hc : Calls Tryz.prog 21 #[.pointer (some ⟨gp,0,none⟩)] wr fun e w' => ∃ dv,e = .returned (.tuple #[.int .u32 gt,.int .u32 tt,dv]) ∧ R dv w')
  (hK : ∀ (l' : List Value) (wx : World) (dv : Value),l'.length = 64 → l'.getD 6 default = .pointer (some ⟨gp,0,none⟩) → l'.getD 7 default = a7 → l'.getD 20 default = a20 → l'.getD 8 default = .int .u32 gt → l'.getD 10 default = dv → R dv wx → K ⟨l'.toArray,[]⟩ wx) :
  Code.wp Tryz.prog (nav [1,1,0,0,0] dr) (Exit.then K Q) ⟨l.toArray,[]⟩ wr:=by
 obtain ⟨f,hf,rfl⟩:=lit64 l hl
 rw [hf] at h6 h7 h20
 rw [h6,h7,h20]
 have HC:=Aside0.mk hc
 have HK:=Aside0.mk hK
 clear hf hl h6 h7 h20 hc hK
 conv => arg 2;whnf
 go_wp2_with (fail)
 refine HC.out.mono ?_
 rintro e w1 ⟨dv,rfl,hr⟩
 have HR:=Aside0.mk hr
 clear hr
 go_wp2_with (fail)
 exact HK.out _ _ dv (by kernel_rfl) rfl rfl rfl rfl rfl HR.out
theorem rules14 {a6 a7 : Value} {i : Nat} (hl : l.length = 64) (h6 : l.getD 6 default = a6) (h7 : l.getD 7 default = a7) (h20 : l.getD 20 default = .int .i64 i) (hi : i < 100000)
  (hK : ∀ (l' : List Value),l'.length = 64 → l'.getD 6 default = a6 → l'.getD 7 default = a7 → l'.getD 20 default = .int .i64 ((i + 1 : Nat) : Int) → K ⟨l'.toArray,[]⟩ wr) :
  Code.wp Tryz.prog (nav [1,1,1] dr) (Exit.then K Q) ⟨l.toArray,[]⟩ wr:=by
 obtain ⟨f,hf,rfl⟩:=lit64 l hl
 rw [hf] at h6 h7 h20
 rw [h6,h7,h20]
 have HK:=Aside0.mk hK
 clear hf hl h6 h7 h20 hK
 conv => arg 2;whnf
 go_wp2_with (fail)
 exact HK.out _ (by kernel_rfl) rfl rfl rfl
theorem rules3 {a6 a7 : Value} {i : Nat} (hl : l.length = 64) (h6 : l.getD 6 default = a6) (h7 : l.getD 7 default = a7) (h20 : l.getD 20 default = .int .i64 i) (hi : i < 100000)
  (hK : ∀ (l' : List Value),l'.length = 64 → l'.getD 6 default = a6 → l'.getD 7 default = a7 → l'.getD 20 default = .int .i64 i → l'.getD 21 default = .bool true → K ⟨l'.toArray,[]⟩ wr) :
  Code.wp Tryz.prog (nav [0] dr) (Exit.then K Q) ⟨l.toArray,[]⟩ wr:=by
 obtain ⟨f,hf,rfl⟩:=lit64 l hl
 rw [hf] at h6 h7 h20
 rw [h6,h7,h20]
 have HK:=Aside0.mk hK
 have hlt : (i : Int) < 100000:=by omega
 clear hf hl h6 h7 h20 hK
 conv => arg 2;whnf
 go_wp2_with (fail)
 exact HK.out _ (by kernel_rfl) rfl rfl rfl rfl
theorem rules5 {a6 a7 a20 dv : Value} {gt : Int} (hl : l.length = 64) (h6 : l.getD 6 default = a6) (h7 : l.getD 7 default = a7) (h20 : l.getD 20 default = a20) (h8 : l.getD 8 default = .int .u32 gt) (h10 : l.getD 10 default = dv)
  (hK : ∀ (l' : List Value),l'.length = 64 → l'.getD 6 default = a6 → l'.getD 7 default = a7 → l'.getD 20 default = a20 → l'.getD 8 default = .int .u32 gt → l'.getD 10 default = dv → l'.getD 29 default = .bool (gt == 0) → K ⟨l'.toArray,[]⟩ wr) :
  Code.wp Tryz.prog (nav [1,1,0,0,1,0,0] dr) (Exit.then K Q) ⟨l.toArray,[]⟩ wr:=by
 obtain ⟨f,hf,rfl⟩:=lit64 l hl
 rw [hf] at h6 h7 h20 h8 h10
 rw [h6,h7,h20,h8,h10]
 have HK:=Aside0.mk hK
 clear hf hl h6 h7 h20 h8 h10 hK
 conv => arg 2;whnf
 go_wp2_with (fail)
 exact HK.out _ (by kernel_rfl) rfl rfl rfl rfl rfl rfl
theorem dr_eq : dr = .seq (nav [0] dr) (.seq (.cond (.tmp 21) .skip (.exit 0)) (.seq (.block 1 (.seq (nav [1,1,0,0,0] dr) (.seq (.seq (nav [1,1,0,0,1,0,0] dr) (.cond (.tmp 29) (.exit 0) .skip)) (.seq (nav [1,1,0,0,1,1,0] dr) (.seq (.seq (nav [1,1,0,0,1,1,1,0,0] dr) (nav [1,1,0,0,1,1,1,0,1] dr)) (nav [1,1,0,0,1,1,1,1] dr)))))) (nav [1,1,1] dr))):=by kernel_rfl
theorem rulesLast {a7 : Value} {i : Nat} {tt : Int} {R : Value → World → Prop} (hl : l.length = 64) (h6 : l.getD 6 default = .pointer (some ⟨gp,0,none⟩)) (h7 : l.getD 7 default = a7) (h20 : l.getD 20 default = .int .i64 i) (hi : i < 100000)
  (hc : Calls Tryz.prog 21 #[.pointer (some ⟨gp,0,none⟩)] wr fun e w' => ∃ dv,e = .returned (.tuple #[.int .u32 0,.int .u32 tt,dv]) ∧ R dv w')
  (hQ : ∀ (l' : List Value) (wx : World) (dv : Value),l'.length = 64 → l'.getD 6 default = .pointer (some ⟨gp,0,none⟩) → l'.getD 7 default = a7 → R dv wx → Q (.exit 0) ⟨l'.toArray,[]⟩ wx) :
  Code.wp Tryz.prog dr (Exit.then K Q) ⟨l.toArray,[]⟩ wr:=by
 have ev : ∀ {l : List Value} {i : Nat} {v : Value},l.getD i default = v → l.length = 64 → i < 64 → (⟨l.toArray,[]⟩ : Act).eval (.tmp i) = v:=by
  intro l i v h hl hi
  have e : (⟨l.toArray,[]⟩ : Act).eval (.tmp i) = l.toArray.getD i undef:=rfl
  rw [e,← h]
  simp [List.getD_eq_getElem?_getD,Array.getD_eq_getD_getElem?,List.getElem?_eq_getElem (show i < l.length by omega)]
 rw [dr_eq]
 refine wp_seq_k fun K1 hK1 => ?_
 refine rules3 hl h6 h7 h20 hi fun l1 a1 a2 a3 a4 a5 => hK1 _ _ ?_
 refine wp_seq_k fun K2 hK2 => ?_
 refine wp_cond_true (ev a5 a1 (by decide)) (wp_skip (hK2 _ _ ?_))
 refine wp_seq_k fun K3 hK3 => wp_block ?_
 refine wp_seq_k fun K4 hK4 => ?_
 refine rules4 a1 a2 a3 a4 hc fun l2 w2 dv b1 b2 b3 b4 b5 b6 hr => hK4 _ _ ?_
 refine wp_seq_k fun K5 hK5 => wp_seq_k fun K6 hK6 => ?_
 refine rules5 b1 b2 b3 b4 b5 b6 fun l3 c1 c2 c3 c4 c5 c6 c7 => hK6 _ _ ?_
 refine wp_cond_true (ev c7 c1 (by decide)) (wp_exit ?_)
 exact hQ l3 w2 dv c1 c2 c3 hr
theorem ev64 {l : List Value} {i : Nat} {v : Value} (h : l.getD i default = v) (hl : l.length = 64) (hi : i < 64) : (⟨l.toArray,[]⟩ : Act).eval (.tmp i) = v:=by
 have e : (⟨l.toArray,[]⟩ : Act).eval (.tmp i) = l.toArray.getD i undef:=rfl
 rw [e,← h]
 simp [List.getD_eq_getElem?_getD,Array.getD_eq_getD_getElem?,List.getElem?_eq_getElem (show i < l.length by omega)]
theorem Pcs.kt {w' : World} {a7 : Value} {ps : List Pc} (h : Pcs B wr a7 ps) (k : Kt B wr w') : Pcs B w' a7 ps:=by
 obtain ⟨vs,ho,hc⟩:=h
 refine ⟨vs,⟨ho.1,?_⟩,fun i q hq => ?_⟩
 ·rcases ho.2 with h2|⟨g,cap,cur,e,hB,hg,r⟩
  ·exact .inl h2
  ·exact .inr ⟨g,cap,cur,e,hB,k.typ _ _ hg rfl,r⟩
 ·obtain ⟨dv,tv,d1,d2,d3,e3,e4,e5,d4,d5⟩:=hc i q hq
  exact ⟨dv,tv,d1,d2,d3,e3,e4,e5,d4.kt k,d5.kt k⟩
theorem Pcs.below {w' : World} {a7 : Value} {ps : List Pc} (h : Pcs B wr a7 ps) (k : Below wr.heap.size wr w') : Pcs B w' a7 ps:=by
 obtain ⟨vs,ho,hc⟩:=h
 refine ⟨vs,pw_own_below ho k,fun i q hq => ?_⟩
 obtain ⟨dv,tv,d1,d2,d3,e3,e4,e5,d4,d5⟩:=hc i q hq
 exact ⟨dv,tv,d1,d2,d3,e3,e4,e5,d4.below k,d5.below k⟩
theorem Pcs.row {a7 : Value} {ps : List Pc} (h : Pcs B wr a7 ps) : ∀ k,a7.ownBlock = some k → B ≤ k ∧ ∃ cs,wr.heap[k]? = some (.cells cs 55 (0,0)):=by
 obtain ⟨vs,ho,hc⟩:=h
 intro k hk
 rcases ho.2 with ⟨rfl,_⟩|⟨g,cap,cur,rfl,hB,hg,_⟩
 ·cases hk
 ·injection hk with hk
  subst hk
  exact ⟨hB,cur,hg⟩
theorem rulesRound {a7 : Value} {i : Nat} {N0 : List Tk} {V : PV → Prop} {ps : List Pc} (hB0 : B = w0.heap.size) (h0 : 0 < B) (hl : l.length = 64) (h6 : l.getD 6 default = .pointer (some ⟨gp,0,none⟩)) (h7 : l.getD 7 default = a7) (h20 : l.getD 20 default = .int .i64 i) (hi : i < 100000)
  (hPc : Pcs B wr a7 ps) (hps : ps.length ≤ 100000)
  (hc : Calls Tryz.prog 21 #[.pointer (some ⟨gp,0,none⟩)] wr fun e w' => ∃ v' ts',e = .returned (.tuple #[.int .u32 8,.int .u32 1,v'.data]) ∧ V v' ∧ nonws ts' = N0 ∧ ts'.length ≤ 100000000 ∧ (bars ts').length ≤ 100000000000 ∧ Pk B w0 c gp wr w' q v' ts' [38] xs)
  (hK : ∀ (l' : List Value) (wx : World) (a7' : Value) (v' : PV) (ts' : List Tk),l'.length = 64 → l'.getD 6 default = .pointer (some ⟨gp,0,none⟩) → l'.getD 7 default = a7' → l'.getD 20 default = .int .i64 ((i + 1 : Nat) : Int) → nonws ts' = N0 → V v' → Ps B w0 c gp wx q v' ts' [38] xs → Pcs B wx a7' (ps ++ [⟨declB,xs,bars ts'⟩]) → K ⟨l'.toArray,[]⟩ wx) :
  Code.wp Tryz.prog dr (Exit.then K Q) ⟨l.toArray,[]⟩ wr:=by
 rw [dr_eq]
 refine wp_seq_k fun K1 hK1 => ?_
 refine rules3 hl h6 h7 h20 hi fun l1 a1 a2 a3 a4 a5 => hK1 _ _ ?_
 refine wp_seq_k fun K2 hK2 => ?_
 refine wp_cond_true (ev64 a5 a1 (by decide)) (wp_skip (hK2 _ _ ?_))
 refine wp_seq_k fun K3 hK3 => wp_block ?_
 refine wp_seq_k fun K4 hK4 => ?_
 refine rules4 (gt:=8) (tt:=1) (R:=fun dv w' => ∃ v' ts',dv = v'.data ∧ V v' ∧ nonws ts' = N0 ∧ ts'.length ≤ 100000000 ∧ (bars ts').length ≤ 100000000000 ∧ Pk B w0 c gp wr w' q v' ts' [38] xs) a1 a2 a3 a4 (hc.mono ?_) fun l2 w2 dv b1 b2 b3 b4 b5 b6 hr => hK4 _ _ ?_
 ·rintro e w' ⟨v',ts',rfl,r⟩
  exact ⟨_,rfl,v',ts',rfl,r⟩
 obtain ⟨v',ts',rfl,hV,hn,hlen,hbl,hP,hKt⟩:=hr
 refine wp_seq_k fun K5 hK5 => wp_seq_k fun K6 hK6 => ?_
 refine rules5 b1 b2 b3 b4 b5 b6 fun l3 c1 c2 c3 c4 c5 c6 c7 => hK6 _ _ ?_
 refine wp_cond_false (ev64 (c7.trans (by rfl)) c1 (by decide)) (wp_skip (hK5 _ _ ?_))
 refine wp_seq_k fun K7 hK7 => ?_
 refine rules6 c1 c2 c3 c4 c5 c6 hP.dat fun l4 wb dv' d1 d2 d3 d4 d5 d6 d7 => hK7 _ _ ?_
 have hPb:=hP.below d6
 have hal:=below_alloc (Below.refl _ wb) (.cells #[.string declB,dv',.slice none 0 0,.slice none 0 0,.slice none 0 0,.string ⟨#[]⟩] 55)
 have hPcb:=(hPc.kt hKt).below d6
 refine wp_seq_k fun K8 hK8 => wp_seq_k fun K9 hK9 => ?_
 refine rules7 (S:=wb.heap.size) (wb:=wb) d1 d2 d3 d4 d5 (hPb.below hal) hal (Nat.le_refl _) (Nat.le_refl _) (heap_alloc_new wb _) fun l5 hr5 => hK9 _ _ ?_
 refine rulesText hr5 hPb.tb rfl hlen hbl fun l6 w6 hr6 => hK8 _ _ ?_
 have hb6 : Below wb.heap.size wb w6:=by obtain ⟨_,_,_,_,_,_,_,_,_,h,_⟩:=hr6;exact h
 have hPc6:=hPcb.below hb6
 refine wp_mono (rules13 (K:=K3) (Q:=Exit.inBlock 1 (Exit.then K3 (Exit.then K Q))) hr6 (d7.below hb6) hPc6 (by have:=hPb.hB;have:=hb6.size;omega) hps hbl fun l7 w7 a7' e1 e2 e3 e4 e5 e6 => hK3 _ _ ?_) (fun e a w' hq => by cases e <;> exact hq)
 refine rules14 e1 e2 e4 e3 hi fun l8 g1 g2 g3 g4 => ?_
 exact hK l8 w7 a7' v' ts' g1 g2 g3 g4 hn hV ((hPb.below hb6).pieces hB0 h0 e6 hPc6.row) e5
end Go.Proofs.YtlglijnaeaonpaaGreatDoor.Lx
end
