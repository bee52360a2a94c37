/- FnRules: a part of the proof (Rj). -/
import Derived.Test.YtlglijnaeaonpaaGreatDoorRd
import Derived.Test.YtlglijnaeaonpaaGreatDoorRe
import Derived.Test.YtlglijnaeaonpaaGreatDoorRh
import Derived.Test.YtlglijnaeaonpaaGreatDoorRi
section
set_option maxHeartbeats 8000000
set_option maxRecDepth 100000
set_option linter.unusedVariables false
set_option linter.unusedSimpArgs false
namespace Go.Proofs.YtlglijnaeaonpaaGreatDoor.Lx
open Go.RowKit Go.Proofs.YtlglijnaeaonpaaGreatDoorW.aC Go.Proofs.YtlglijnaeaonpaaGreatDoor.bG
structure Tx (xs:List Int):Prop where
 len:xs.length≤2147483647
 byte:∀j:Nat,0≤xs.getD j 0∧xs.getD j 0≤255
def Nb (xs:List Int):Prop:=∀i:Int,at_ xs i≠92
def N0 (xs:List Int):Prop:=∀i:Int,0≤i→i<xs.length→at_ xs i≠0
theorem fX {x:Int} (h0: -9223372036854775808≤x) (h1:x≤9223372036854775807):wrap64 x=x:=by unfold wrap64;omega
section
variable {xs:List Int} {i n c:Int} {o:Bool} {k:Nat}
theorem Tx.at_ (h:Tx xs) (i:Int):0≤at_ xs i∧Lx.at_ xs i≤255:=h.byte i.toNat
theorem cN (hx:Tx xs) (h0:0≤i+n) (h1:i+n≤4611686018427387904):aa.f xs i o n=some (Lx.at_ xs (i+n),i,o):=by
 unfold aa.f
 rw [fX (by omega) (by omega)]
 by_cases h:i+n≥xs.length
 ·rw [if_pos h,fN h]
 ·rw [if_neg h,if_pos h0,if_pos (by omega)];rfl
theorem bj (hx:Tx xs) (h0:0≤i) (h1:i≤xs.length):aa.f xs i o 0=some (Lx.at_ xs i,i,o):=by
 have:=hx.len
 rw [cN hx (by omega) (by omega),Int.add_zero]
theorem dw:aV.f xs i o=some (decide (i≥(xs.length:Int)),i,o):=rfl
theorem fO:bJ.f c=some (decide (Ws c)):=by
 unfold bJ.f Ws
 by_cases h1:c=32
 ·simp [h1]
 by_cases h2:c=10
 ·simp [h1,h2]
 by_cases h3:c=13
 ·simp [h1,h2,h3]
 by_cases h4:c=9
 ·simp [h1,h2,h3,h4]
 by_cases h5:c=12<;>simp [h1,h2,h3,h4,h5]
theorem eB:aW.f c=some (decide (Dg c)):=by
 unfold aW.f Dg
 by_cases h1:c≥48<;>simp [h1]<;>omega
theorem jP:bk.f c=some (decide (c=10∨c=13∨c=12)):=by
 unfold bk.f
 by_cases h1:c=10
 ·simp [h1]
 by_cases h2:c=13
 ·simp [h1,h2]
 by_cases h3:c=12<;>simp [h1,h2,h3]
theorem CV:dm.f c=some (decide ((97≤c∧c≤122)∨(65≤c∧c≤90))):=by
 unfold dm.f
 by_cases h1:c≥97
 ·by_cases h2:c≤122
  ·simp [h1,h2]
  ·by_cases h3:c≥65<;>simp [h1,h2,h3]<;>omega
 ·by_cases h3:c≥65<;>simp [h1,h3]<;>omega
theorem jg:bO.f c=some (decide (Sn c)):=by
 unfold bO.f
 rw [CV]
 simp only [Option.bind_some,decide_eq_true_eq]
 by_cases h1:(97≤c∧c≤122)∨(65≤c∧c≤90)
 ·rw [if_pos h1]
  have h3:Sn c:=by unfold Sn;omega
  rw [decide_eq_true h3]
 ·rw [if_neg h1]
  by_cases h2:c=95
  ·have h3:Sn c:=by unfold Sn;omega
   rw [if_pos h2,decide_eq_true h3]
  ·rw [if_neg h2]
   have h3:(c≥128)↔Sn c:=by unfold Sn;omega
   exact congrArg some (decide_eq_decide.2 h3)
theorem fP:bK.f c=some (decide (Nm c)):=by
 unfold bK.f
 rw [jg]
 simp only [Option.bind_some,decide_eq_true_eq]
 by_cases h1:Sn c
 ·rw [if_pos h1];simp [h1.nm]
 ·rw [if_neg h1,eB]
  simp only [Option.bind_some,decide_eq_true_eq]
  by_cases h2:Dg c
  ·rw [if_pos h2]
   have:Nm c:=by unfold Dg at h2;unfold Nm;omega
   simp [this]
  ·rw [if_neg h2]
   have h3:c=45↔Nm c:=by unfold Sn at h1;unfold Dg at h2;unfold Nm;omega
   refine congrArg some ?_
   rw [Bool.eq_iff_iff]
   simp [h3]
theorem zT:cH.f c=some (decide (c≤8∨c=11∨(14≤c∧c≤31)∨c=127)):=by
 unfold cH.f
 by_cases h1:c≤8
 ·simp [h1]
 by_cases h2:c=11
 ·simp [h1,h2]
 by_cases h3:c≥14
 ·by_cases h4:c≤31
  ·simp [h1,h2,h3,h4]
  ·by_cases h5:c=127
   ·simp [h5]
   ·simp [h1,h2,h3,h4,h5]
 ·by_cases h5:c=127
  ·omega
  ·simp [h1,h2,h3,h5]
theorem fe (hc:0≤c) (GH:c≤255):∃v,(∀k,1≤k→ax.f k c=some v)∧(0≤v↔Hx c):=by
 have hj:∀b:Bool,(b=true↔(97≤c∧c≤102))→¬Dg c→∃v,(∀k,1≤k→ax.j0 k c b=some v)∧(0≤v↔Hx c):=by
  intro b hb hd
  unfold Dg at hd;unfold Hx
  cases b with
  | true=>
   have hb:=hb.1 rfl
   refine⟨((c - 97) % 256)+10,fun k hk=> ?_,by omega⟩
   obtain⟨k,rfl⟩:∃m,k=m+1:=⟨k - 1,by omega⟩
   simp [ax.j0]
  | false=>
   have hb:¬(97≤c∧c≤102):=fun h=>by have:=hb.2 h;cases this
   by_cases h1:c≥65∧c≤70
   ·refine⟨((c - 65) % 256)+10,fun k hk=> ?_,by omega⟩
    obtain⟨k,rfl⟩:∃m,k=m+1:=⟨k - 1,by omega⟩
    simp [ax.j0,h1]
   ·refine⟨-1,fun k hk=> ?_,by omega⟩
    obtain⟨k,rfl⟩:∃m,k=m+1:=⟨k - 1,by omega⟩
    simp only [ax.j0]
    rw [if_neg (by decide)]
    by_cases h2:c≥65
    ·rw [if_pos h2,if_neg (by omega)]
    ·rw [if_neg h2]
 unfold ax.f
 rw [eB]
 simp only [Option.bind_some,decide_eq_true_eq]
 by_cases h1:Dg c
 ·refine⟨(c - 48) % 256,fun k hk=>by rw [if_pos h1],?_⟩
  unfold Dg at h1;unfold Hx;omega
 ·by_cases h2:c≥97
  ·obtain⟨v,hv,sY⟩:=hj (decide (c≤102)) (by simp;omega) h1
   exact⟨v,fun k hk=>by rw [if_neg h1,if_pos h2];exact hv k hk,sY⟩
  ·obtain⟨v,hv,sY⟩:=hj false (by simp;omega) h1
   exact⟨v,fun k hk=>by rw [if_neg h1,if_neg h2];exact hv k hk,sY⟩
theorem fa (h:Lx.at_ xs i≠0) (h0:0≤i):i+1≤xs.length:=by have:=sW h;omega
theorem ie (hx:Tx xs) (h0:0≤i+n) (h1:i+n≤xs.length+8) (hi:i≤xs.length+8) (hn:0≤n) (hn8:n≤8):∃b o',ay.f xs i o n=some (b,i,o')∧(o=true→o' =true)∧
  (b=true→Lx.at_ xs (i+n)=92∧i+n+1<xs.length)∧(Lx.at_ xs (i+n)≠92→b=false∧o' =o):=by
 have hl:=hx.len
 unfold ay.f
 rw [cN hx h0 (by omega)]
 simp only [Option.bind_some]
 by_cases h2:Lx.at_ xs (i+n)=92
 ·rw [if_pos h2,fX (x:=i+n) (by omega) (by omega),fX (by omega) (by omega)]
  by_cases h3:i+n+1≥xs.length
  ·rw [if_pos h3]
   exact⟨false,true,rfl,fun _=>rfl,(fun h=>by cases h),fun h=>absurd h2 h⟩
  ·rw [if_neg h3,fX (x:=n+1) (by omega) (by omega),cN hx (by omega) (by omega)]
   simp only [Option.bind_some]
   rw [jP]
   simp only [Option.bind_some]
   exact⟨_,o,rfl,id,fun _=>⟨h2,by omega⟩,fun h=>absurd h2 h⟩
 ·rw [if_neg h2]
  exact⟨false,o,rfl,id,(fun h=>by cases h),fun _=>⟨rfl,rfl⟩⟩
theorem jB {f:Int→Prop} [DecidablePred f] (hf:¬f 0) (h0:0≤i) (h1:i≤xs.length):run f (xs++ [0]) i=run f xs i:=by
 have h2:=bL (f:=f) (bs:=xs) (p:=i)
 have h3:=ib (f:=f) (bs:=xs) h0 h1
 refine iM h0 h2 (by simp;omega) (fun j a b=>by rw [aY];exact pC h0 j a b) (.inr ?_)
 rw [aY]
 by_cases h4:run f xs i<xs.length
 ·exact xy h0 h4
 ·rw [fN (by omega)];exact hf
theorem JH (hx:Tx xs):∀(d:Nat) (k:Nat) (i:Int),0≤i→i≤xs.length→(xs.length:Int) - i≤d→d+1≤k→aH.l0 k xs i o=some (run Ws xs i,o):=by
 have hl:=hx.len
 intro d
 induction d with
 | zero=>
  intro k i h0 h1 hd hk
  obtain⟨k,rfl⟩:∃m,k=m+1:=⟨k - 1,by omega⟩
  have hn:¬Ws (Lx.at_ xs i):=by rw [fN (by omega)];decide
  simp only [aH.l0]
  rw [bj hx h0 h1]
  simp only [Option.bind_some]
  rw [fO]
  simp only [Option.bind_some,decide_eq_true_eq]
  rw [if_neg hn,eI h0 h1 hn]
 | succ d ih=>
  intro k i h0 h1 hd hk
  obtain⟨k,rfl⟩:∃m,k=m+1:=⟨k - 1,by omega⟩
  simp only [aH.l0]
  rw [bj hx h0 h1]
  simp only [Option.bind_some]
  rw [fO]
  simp only [Option.bind_some,decide_eq_true_eq]
  by_cases hn:Ws (Lx.at_ xs i)
  ·have eh:i+1≤xs.length:=fa (fun e=>by rw [e] at hn;revert hn;decide) h0
   rw [if_pos hn,fX (by omega) (by omega),fH h0 (by omega) hn]
   exact ih k (i+1) (by omega) eh (by omega) (by omega)
  ·rw [if_neg hn,eI h0 h1 hn]
theorem pG (hx:Tx xs) (h0:0≤i) (h1:i≤xs.length) (hk:xs.length+1≤k):aH.f k xs i o=some (run Ws xs i,o):=
 JH hx xs.length k i h0 h1 (by omega) hk
theorem JI (hx:Tx xs):∀(d:Nat) (k:Nat) (i:Int),0≤i→i≤xs.length→(xs.length:Int) - i≤d→d+1≤k→aT.l0 k xs i o=some (run Dg xs i,o):=by
 have hl:=hx.len
 intro d
 induction d with
 | zero=>
  intro k i h0 h1 hd hk
  obtain⟨k,rfl⟩:∃m,k=m+1:=⟨k - 1,by omega⟩
  have hn:¬Dg (Lx.at_ xs i):=by rw [fN (by omega)];decide
  simp only [aT.l0]
  rw [bj hx h0 h1]
  simp only [Option.bind_some]
  rw [eB]
  simp only [Option.bind_some,decide_eq_true_eq]
  rw [if_neg hn,eI h0 h1 hn]
 | succ d ih=>
  intro k i h0 h1 hd hk
  obtain⟨k,rfl⟩:∃m,k=m+1:=⟨k - 1,by omega⟩
  simp only [aT.l0]
  rw [bj hx h0 h1]
  simp only [Option.bind_some]
  rw [eB]
  simp only [Option.bind_some,decide_eq_true_eq]
  by_cases hn:Dg (Lx.at_ xs i)
  ·have eh:i+1≤xs.length:=fa (fun e=>by rw [e] at hn;revert hn;decide) h0
   rw [if_pos hn,fX (by omega) (by omega),fH h0 (by omega) hn]
   exact ih k (i+1) (by omega) eh (by omega) (by omega)
  ·rw [if_neg hn,eI h0 h1 hn]
theorem pH (hx:Tx xs) (h0:0≤i) (h1:i≤xs.length) (hk:xs.length+1≤k):aT.f k xs i o=some (run Dg xs i,o):=
 JI hx xs.length k i h0 h1 (by omega) hk
theorem GI (hx:Tx xs):∀(d:Nat) (i:Int),0≤i→i≤xs.length→(xs.length:Int) - i≤d→∃i',(∀k,d+1≤k→aj.l0 k xs i o=some (i',o))∧i≤i' ∧i' ≤xs.length:=by
 have hl:=hx.len
 intro d
 induction d with
 | zero=>
  intro i h0 h1 hd
  refine⟨i,fun k hk=> ?_,Int.le_refl _,h1⟩
  obtain⟨k,rfl⟩:∃m,k=m+1:=⟨k - 1,by omega⟩
  simp only [aj.l0,dw,Option.bind_some,decide_eq_true_eq]
  rw [if_pos (by omega)]
 | succ d ih=>
  intro i h0 h1 hd
  by_cases h2:i≥xs.length
  ·refine⟨i,fun k hk=> ?_,Int.le_refl _,h1⟩
   obtain⟨k,rfl⟩:∃m,k=m+1:=⟨k - 1,by omega⟩
   simp only [aj.l0,dw,Option.bind_some,decide_eq_true_eq]
   rw [if_pos (by omega)]
  ·by_cases h3:Go.bits .and .u8 (Lx.at_ xs i) 192=128
   ·obtain⟨i',h4,h5,h6⟩:=ih (i+1) (by omega) (by omega) (by omega)
    refine⟨i',fun k hk=> ?_,by omega,h6⟩
    obtain⟨k,rfl⟩:∃m,k=m+1:=⟨k - 1,by omega⟩
    simp only [aj.l0,dw,Option.bind_some,decide_eq_true_eq]
    rw [if_neg (by omega),bj hx h0 h1]
    simp only [Option.bind_some]
    rw [if_pos h3,fX (by omega) (by omega)]
    exact h4 k (by omega)
   ·refine⟨i,fun k hk=> ?_,Int.le_refl _,h1⟩
    obtain⟨k,rfl⟩:∃m,k=m+1:=⟨k - 1,by omega⟩
    simp only [aj.l0,dw,Option.bind_some,decide_eq_true_eq]
    rw [if_neg (by omega),bj hx h0 h1]
    simp only [Option.bind_some]
    rw [if_neg h3]
theorem vK (hx:Tx xs) (h0:0≤i) (h1:i≤xs.length):∃i',(∀k,1≤k→aj.j3 k xs i o=some (i',o))∧i≤i' ∧i' ≤xs.length:=by
 have hl:=hx.len
 by_cases hn:Ws (Lx.at_ xs i)
 ·have eh:i+1≤xs.length:=fa (fun e=>by rw [e] at hn;revert hn;decide) h0
  refine⟨i+1,fun k hk=> ?_,by omega,eh⟩
  obtain⟨k,rfl⟩:∃m,k=m+1:=⟨k - 1,by omega⟩
  simp only [aj.j3]
  rw [bj hx h0 h1]
  simp only [Option.bind_some]
  rw [fO]
  simp only [Option.bind_some,decide_eq_true_eq]
  rw [if_pos hn,fX (by omega) (by omega)]
 ·refine⟨i,fun k hk=> ?_,Int.le_refl _,h1⟩
  obtain⟨k,rfl⟩:∃m,k=m+1:=⟨k - 1,by omega⟩
  simp only [aj.j3]
  rw [bj hx h0 h1]
  simp only [Option.bind_some]
  rw [fO]
  simp only [Option.bind_some,decide_eq_true_eq]
  rw [if_neg hn]
theorem qw (hx:Tx xs) (h0:0≤i) (h1:i≤xs.length):∃i' o',(∀k,2≤k→aj.j2 k xs i o=some (i',o'))∧i≤i' ∧i' ≤xs.length∧(o=true→o' =true):=by
 by_cases h2:Lx.at_ xs i=13
 ·obtain⟨i',h3,h4,h5⟩:=vK (o:=true) hx h0 h1
  refine⟨i',true,fun k hk=> ?_,h4,h5,fun _=>rfl⟩
  obtain⟨k,rfl⟩:∃m,k=m+1:=⟨k - 1,by omega⟩
  simp only [aj.j2]
  rw [bj hx h0 h1]
  simp only [Option.bind_some]
  rw [if_pos h2]
  exact h3 k (by omega)
 ·obtain⟨i',h3,h4,h5⟩:=vK (o:=o) hx h0 h1
  refine⟨i',o,fun k hk=> ?_,h4,h5,id⟩
  obtain⟨k,rfl⟩:∃m,k=m+1:=⟨k - 1,by omega⟩
  simp only [aj.j2]
  rw [bj hx h0 h1]
  simp only [Option.bind_some]
  rw [if_neg h2]
  exact h3 k (by omega)
theorem GJ (hx:Tx xs):∀(d:Nat) (n i:Int),0≤n→6 - n≤d→0≤i→i≤xs.length→∃i' o',(∀k,d+4≤k→aj.l1 k n xs i o=some (i',o'))∧i≤i' ∧i' ≤xs.length∧(o=true→o' =true):=by
 have hl:=hx.len
 intro d
 induction d with
 | zero=>
  intro n i hn hd h0 h1
  obtain⟨i',o',h3,h4,h5,h6⟩:=qw (o:=o) hx h0 h1
  refine⟨i',o',fun k hk=> ?_,h4,h5,h6⟩
  obtain⟨k,rfl⟩:∃m,k=m+1:=⟨k - 1,by omega⟩
  simp only [aj.l1]
  rw [if_neg (by omega)]
  exact h3 k (by omega)
 | succ d ih=>
  intro n i hn hd h0 h1
  by_cases h2:n<6
  ·have hb:=hx.at_ i
   obtain⟨v,hv,sY⟩:=fe hb.1 hb.2
   by_cases h7:Hx (Lx.at_ xs i)
   ·have eh:i+1≤xs.length:=fa (fun e=>by rw [e] at h7;revert h7;decide) h0
    obtain⟨i',o',h3,h4,h5,h6⟩:=ih (n+1) (i+1) (by omega) (by omega) (by omega) eh
    refine⟨i',o',fun k hk=> ?_,by omega,h5,h6⟩
    obtain⟨k,rfl⟩:∃m,k=m+1:=⟨k - 1,by omega⟩
    simp only [aj.l1]
    rw [if_pos h2,bj hx h0 h1]
    simp only [Option.bind_some]
    rw [hv k (by omega)]
    simp only [Option.bind_some]
    rw [if_pos (sY.2 h7),fX (x:=n+1) (by omega) (by omega),fX (x:=i+1) (by omega) (by omega)]
    exact h3 k (by omega)
   ·obtain⟨i',o',h3,h4,h5,h6⟩:=qw (o:=o) hx h0 h1
    refine⟨i',o',fun k hk=> ?_,h4,h5,h6⟩
    obtain⟨k,rfl⟩:∃m,k=m+1:=⟨k - 1,by omega⟩
    simp only [aj.l1]
    rw [if_pos h2,bj hx h0 h1]
    simp only [Option.bind_some]
    rw [hv k (by omega)]
    simp only [Option.bind_some]
    rw [if_neg (fun h=>h7 (sY.1 h))]
    exact h3 k (by omega)
  ·obtain⟨i',o',h3,h4,h5,h6⟩:=qw (o:=o) hx h0 h1
   refine⟨i',o',fun k hk=> ?_,h4,h5,h6⟩
   obtain⟨k,rfl⟩:∃m,k=m+1:=⟨k - 1,by omega⟩
   simp only [aj.l1]
   rw [if_neg h2]
   exact h3 k (by omega)
theorem pI (hx:Tx xs) (h0:0≤i) (h1:i+1<xs.length):∃i' o',(∀k,xs.length+12≤k→aj.f k xs i o=some (i',o'))∧i<i' ∧i' ≤xs.length∧(o=true→o' =true):=by
 have hl:=hx.len
 have hb:=hx.at_ (i+1)
 obtain⟨v,hv,sY⟩:=fe hb.1 hb.2
 by_cases h7:Hx (Lx.at_ xs (i+1))
 ·obtain⟨i',o',h3,h4,h5,h6⟩:=GJ (o:=o) hx 6 0 (i+1) (by omega) (by omega) (by omega) (by omega)
  refine⟨i',o',fun k hk=> ?_,by omega,h5,h6⟩
  unfold aj.f
  rw [fX (by omega) (by omega),bj hx (by omega) (by omega)]
  simp only [Option.bind_some]
  rw [hv k (by omega)]
  simp only [Option.bind_some]
  rw [if_neg (by have:=sY.2 h7;omega)]
  exact h3 k (by omega)
 ·obtain⟨i',h3,h4,h5⟩:=GI (o:=o) hx xs.length (i+1+1) (by omega) (by omega) (by omega)
  refine⟨i',o,fun k hk=> ?_,by omega,h5,id⟩
  unfold aj.f
  rw [fX (by omega) (by omega),bj hx (by omega) (by omega)]
  simp only [Option.bind_some]
  rw [hv k (by omega)]
  simp only [Option.bind_some]
  rw [if_pos (by rcases Int.lt_or_le v 0 with h|h;exact h;exact absurd (sY.1 h) h7),fX (by omega) (by omega)]
  exact h3 k (by omega)
theorem JJ (hx:Tx xs):∀(d:Nat) (i:Int) (o:Bool),0≤i→i≤xs.length→(xs.length:Int) - i≤d→∃i' o',(∀k,d+xs.length+14≤k→az.l0 k xs i o=some (i',o'))∧i≤i' ∧i' ≤xs.length∧(o=true→o' =true)∧
  (Nm (Lx.at_ xs i)→i<i')∧(Nb xs→i' =run Nm xs i∧o' =o):=by
 have hl:=hx.len
 intro d
 induction d with
 | zero=>
  intro i o h0 h1 hd
  have hz:Lx.at_ xs i=0:=fN (by omega)
  refine⟨i,o,fun k hk=> ?_,Int.le_refl _,h1,id,fun h=>absurd (hz▸h) (by decide:¬Nm 0),fun _=>⟨(eI h0 h1 (by rw [hz];decide)).symm,rfl⟩⟩
  obtain⟨k,rfl⟩:∃m,k=m+1:=⟨k - 1,by omega⟩
  simp only [az.l0,dw,Option.bind_some,decide_eq_true_eq]
  rw [if_pos (by omega)]
 | succ d ih=>
  intro i o h0 h1 hd
  by_cases h2:i≥xs.length
  ·have hz:Lx.at_ xs i=0:=fN (by omega)
   refine⟨i,o,fun k hk=> ?_,Int.le_refl _,h1,id,fun h=>absurd (hz▸h) (by decide:¬Nm 0),fun _=>⟨(eI h0 h1 (by rw [hz];decide)).symm,rfl⟩⟩
   obtain⟨k,rfl⟩:∃m,k=m+1:=⟨k - 1,by omega⟩
   simp only [az.l0,dw,Option.bind_some,decide_eq_true_eq]
   rw [if_pos (by omega)]
  ·by_cases h3:Nm (Lx.at_ xs i)
   ·obtain⟨i',o',h4,h5,h6,h7,h8,h9⟩:=ih (i+1) o (by omega) (by omega) (by omega)
    refine⟨i',o',fun k hk=> ?_,by omega,h6,h7,fun _=>by omega,fun hn=> ?_⟩
    ·obtain⟨k,rfl⟩:∃m,k=m+1:=⟨k - 1,by omega⟩
     simp only [az.l0,dw,Option.bind_some,decide_eq_true_eq]
     rw [if_neg (by omega),bj hx h0 h1]
     simp only [Option.bind_some]
     rw [fP]
     simp only [Option.bind_some,decide_eq_true_eq]
     rw [if_pos h3,fX (by omega) (by omega)]
     exact h4 k (by omega)
    ·rw [fH h0 (by omega) h3];exact h9 hn
   ·obtain⟨b,o1,e1,e2,e3,e4⟩:=ie (o:=o) (n:=0) (i:=i) hx (by omega) (by omega) (by omega) (by omega) (by omega)
    rw [Int.add_zero] at e3 e4
    cases b with
    | true=>
     have e5:=e3 rfl
     obtain⟨i1,o2,f1,f2,f3,f4⟩:=pI (o:=o1) hx h0 e5.2
     obtain⟨i',o',h4,h5,h6,h7,h8,h9⟩:=ih i1 o2 (by omega) (by omega) (by omega)
     refine⟨i',o',fun k hk=> ?_,by omega,h6,fun h=>h7 (f4 (e2 h)),fun _=>by omega,fun hn=>absurd e5.1 (hn i)⟩
     obtain⟨k,rfl⟩:∃m,k=m+1:=⟨k - 1,by omega⟩
     simp only [az.l0,dw,Option.bind_some,decide_eq_true_eq]
     rw [if_neg (by omega),bj hx h0 h1]
     simp only [Option.bind_some]
     rw [fP]
     simp only [Option.bind_some,decide_eq_true_eq]
     rw [if_neg h3,e1]
     simp only [Option.bind_some,if_true]
     rw [f1 k (by omega)]
     simp only [Option.bind_some]
     exact h4 k (by omega)
    | false=>
     refine⟨i,o1,fun k hk=> ?_,Int.le_refl _,h1,e2,fun h=>absurd h h3,fun hn=>⟨(eI h0 h1 h3).symm,(e4 (hn i)).2⟩⟩
     obtain⟨k,rfl⟩:∃m,k=m+1:=⟨k - 1,by omega⟩
     simp only [az.l0,dw,Option.bind_some,decide_eq_true_eq]
     rw [if_neg (by omega),bj hx h0 h1]
     simp only [Option.bind_some]
     rw [fP]
     simp only [Option.bind_some,decide_eq_true_eq]
     rw [if_neg h3,e1]
     simp
theorem qx (hx:Tx xs) (h0:0≤i) (h1:i≤xs.length):∃i' o',(∀k,xs.length+xs.length+14≤k→az.f k xs i o=some (i',o'))∧i≤i' ∧i' ≤xs.length∧(o=true→o' =true)∧
  (Nm (Lx.at_ xs i)→i<i')∧(Nb xs→i' =run Nm xs i∧o' =o):=JJ hx xs.length i o h0 h1 (by omega)
theorem JK (hx:Tx xs) (h0:0≤i) (h1:i≤xs.length) {b:Bool} {o1 o2:Bool} (he:ay.f xs i o1 0=some (true,i,o2)):∃i' o',(∀k,xs.length+xs.length+16≤k→az.f k xs i o=some (i',o'))∧i<i' ∧i' ≤xs.length∧(o=true→o' =true):=by
 have hl:=hx.len
 by_cases h3:Nm (Lx.at_ xs i)
 ·obtain⟨i',o',a1,a2,a3,a4,a5,a6⟩:=qx (o:=o) hx h0 h1
  exact⟨i',o',fun k hk=>a1 k (by omega),a5 h3,a3,a4⟩
 ·obtain⟨b,o3,e1,e2,e3,e4⟩:=ie (o:=o) (n:=0) (i:=i) hx (by omega) (by omega) (by omega) (by omega) (by omega)
  have hb:b=true:=by
   have g1:=e1
   unfold ay.f at g1 he
   rw [bj hx h0 h1] at g1 he
   simp only [Option.bind_some] at g1 he
   by_cases h4:Lx.at_ xs i=92
   ·rw [if_pos h4] at g1 he
    by_cases h5:wrap64 (wrap64 (i+0)+1)≥(xs.length:Int)
    ·rw [if_pos h5] at he;simp at he
    ·rw [if_neg h5] at g1 he
     rw [fX (x:=0+1) (by omega) (by omega),cN hx (by omega) (by omega)] at g1 he
     simp only [Option.bind_some] at g1 he
     rw [jP] at g1 he
     simp only [Option.bind_some,Option.some.injEq,Prod.mk.injEq] at g1 he
     rw [←g1.1,he.1]
   ·rw [if_neg h4] at he;simp at he
  subst hb
  rw [Int.add_zero] at e3
  have e5:=e3 rfl
  obtain⟨i1,o4,f1,f2,f3,f4⟩:=pI (o:=o3) hx h0 e5.2
  obtain⟨i',o',h4,h5,h6,h7,h8,h9⟩:=JJ hx xs.length i1 o4 (by omega) (by omega) (by omega)
  refine⟨i',o',fun k hk=> ?_,by omega,h6,fun h=>h7 (f4 (e2 h))⟩
  unfold az.f
  obtain⟨k,rfl⟩:∃m,k=m+1:=⟨k - 1,by omega⟩
  simp only [az.l0,dw,Option.bind_some,decide_eq_true_eq]
  rw [if_neg (by omega),bj hx h0 h1]
  simp only [Option.bind_some]
  rw [fP]
  simp only [Option.bind_some,decide_eq_true_eq]
  rw [if_neg h3,e1]
  simp only [Option.bind_some,if_true]
  rw [f1 k (by omega)]
  simp only [Option.bind_some]
  exact h4 k (by omega)
theorem lO (hx:Tx xs) (h0:0≤i) (h1:i≤xs.length) (hn:0≤n) (hn4:n≤2):∃b o',(∀k,1≤k→aA.f k xs i o n=some (b,i,o'))∧(o=true→o' =true)∧
  (b=true→Nm (Lx.at_ xs (i+n))∨(n=0→ay.f xs i o 0=some (true,i,o')))∧(b=true→i+n<xs.length)∧
  (Nb xs→(b=true↔lr xs (i+n))∧(o' =false→¬(Lx.at_ xs (i+n)=45∧Lx.at_ xs (i+n+1)=45))):=by
 have hl:=hx.len
 by_cases h2:Lx.at_ xs (i+n)=45
 ·have hns:¬Sn (45:Int):=by decide
  have eh:i+n<xs.length:=sW (by rw [h2];decide)
  have hj:∀o1:Bool,(o=true→o1=true)→(o1=false→Lx.at_ xs (i+n+1)≠45)→∃b o',(∀k,1≤k→aA.j0 k n xs i o1=some (b,i,o'))∧(o=true→o' =true)∧(Nb xs→(b=true↔lr xs (i+n))∧(o' =false→Lx.at_ xs (i+n+1)≠45)):=by
   intro o1 NY ho2
   by_cases h3:Sn (Lx.at_ xs (i+(n+1)))
   ·refine⟨true,o1,fun k hk=> ?_,NY,fun _=>⟨⟨fun _=> .inr ⟨h2,by rw [show i+n+1=i+(n+1) by omega];exact h3⟩,fun _=>rfl⟩,ho2⟩⟩
    obtain⟨k,rfl⟩:∃m,k=m+1:=⟨k - 1,by omega⟩
    simp only [aA.j0]
    rw [fX (x:=n+1) (by omega) (by omega),cN hx (by omega) (by omega)]
    simp only [Option.bind_some]
    rw [jg]
    simp only [Option.bind_some,decide_eq_true_eq]
    rw [if_pos h3]
   ·obtain⟨b,o2,e1,e2,e3,e4⟩:=ie (o:=o1) (n:=n+1) (i:=i) hx (by omega) (by omega) (by omega) (by omega) (by omega)
    refine⟨b,o2,fun k hk=> ?_,fun h=>e2 (NY h),fun hn=> ?_⟩
    ·obtain⟨k,rfl⟩:∃m,k=m+1:=⟨k - 1,by omega⟩
     simp only [aA.j0]
     rw [fX (x:=n+1) (by omega) (by omega),cN hx (by omega) (by omega)]
     simp only [Option.bind_some]
     rw [jg]
     simp only [Option.bind_some,decide_eq_true_eq]
     rw [if_neg h3,e1]
     rfl
    ·obtain⟨rfl,rfl⟩:=e4 (hn _)
     refine⟨⟨(fun h=>by cases h),?_⟩,ho2⟩
     rintro (h|⟨_,h⟩)
     ·rw [h2] at h;exact absurd h hns
     ·rw [show i+n+1=i+(n+1) by omega] at h;exact absurd h h3
  by_cases h3:Lx.at_ xs (i+(n+1))=45
  ·obtain⟨b,o',a1,a2,a3⟩:=hj true (fun _=>rfl) (fun h=>by cases h)
   refine⟨b,o',fun k hk=> ?_,a2,fun _=> .inl (by rw [h2];decide),fun _=>eh,fun hn=>⟨(a3 hn).1,fun h h' =>(a3 hn).2 h h'.2⟩⟩
   unfold aA.f
   rw [cN hx (by omega) (by omega)]
   simp only [Option.bind_some]
   rw [if_pos h2,fX (x:=n+1) (by omega) (by omega),cN hx (by omega) (by omega)]
   simp only [Option.bind_some]
   rw [if_pos h3]
   exact a1 k hk
  ·obtain⟨b,o',a1,a2,a3⟩:=hj o id (fun _=>by rw [show i+n+1=i+(n+1) by omega];exact h3)
   refine⟨b,o',fun k hk=> ?_,a2,fun _=> .inl (by rw [h2];decide),fun _=>eh,fun hn=>⟨(a3 hn).1,fun h h' =>(a3 hn).2 h h'.2⟩⟩
   unfold aA.f
   rw [cN hx (by omega) (by omega)]
   simp only [Option.bind_some]
   rw [if_pos h2,fX (x:=n+1) (by omega) (by omega),cN hx (by omega) (by omega)]
   simp only [Option.bind_some]
   rw [if_neg h3]
   exact a1 k hk
 ·by_cases h3:Sn (Lx.at_ xs (i+n))
  ·refine⟨true,o,fun k hk=> ?_,id,fun _=> .inl h3.nm,fun _=>sW (fun e=>by rw [e] at h3;revert h3;decide),fun _=>⟨⟨fun _=> .inl h3,fun _=>rfl⟩,fun _ h=>h2 h.1⟩⟩
   unfold aA.f
   rw [cN hx (by omega) (by omega)]
   simp only [Option.bind_some]
   rw [if_neg h2,jg]
   simp only [Option.bind_some,decide_eq_true_eq]
   rw [if_pos h3]
  ·obtain⟨b,o2,e1,e2,e3,e4⟩:=ie (o:=o) (n:=n) (i:=i) hx (by omega) (by omega) (by omega) (by omega) (by omega)
   refine⟨b,o2,fun k hk=> ?_,e2,fun hb=> .inr fun hz=> ?_,fun hb=>by have:=(e3 hb).2;omega,fun Ii=> ?_⟩
   ·unfold aA.f
    rw [cN hx (by omega) (by omega)]
    simp only [Option.bind_some]
    rw [if_neg h2,jg]
    simp only [Option.bind_some,decide_eq_true_eq]
    rw [if_neg h3,e1]
    rfl
   ·subst hz;rw [e1,hb]
   ·obtain⟨rfl,rfl⟩:=e4 (Ii _)
    refine⟨⟨(fun h=>by cases h),?_⟩,fun _ h=>h2 h.1⟩
    rintro (h|⟨h,_⟩)
    ·exact absurd h h3
    ·exact absurd h h2
end
section
variable {xs:List Int} {i n c:Int} {o:Bool} {k:Nat}
abbrev zU:ByteArray:=⟨#[115,116,114,105,110,103]⟩
abbrev aeH:ByteArray:=⟨#[98,97,100,32,115,116,114,105,110,103]⟩
abbrev CW:ByteArray:=⟨#[99,111,109,109,101,110,116]⟩
abbrev xB:ByteArray:=⟨#[114,97,110,103,101]⟩
abbrev TJ:ByteArray:=⟨#[100,105,109,101,110,115,105,111,110]⟩
abbrev TK:ByteArray:=⟨#[112,101,114,99,101,110,116,97,103,101]⟩
abbrev TM:ByteArray:=⟨#[110,117,109,98,101,114]⟩
abbrev uQ:ByteArray:=⟨#[117,114,108]⟩
theorem JL (hx:Tx xs) (q:Int):∀(d:Nat) (j:Int) (o:Bool),0≤j→j≤xs.length→(xs.length:Int) - j≤d→∃kind i' o',(∀k,d+d+xs.length+20≤k→aq.l0 k q xs j o=some (kind,i',o'))∧j≤i' ∧i' ≤xs.length∧(o=true→o' =true)∧
  (Nb xs→N0 xs→o' =false→kind=zU∧∃r,i' =r+1∧j≤r∧r<xs.length∧Lx.at_ xs r=q∧∀m,j≤m→m<r→Sc q (Lx.at_ xs m)):=by
 have hl:=hx.len
 intro d
 induction d with
 | zero=>
  intro j o h0 h1 hd
  refine⟨zU,j,true,fun k hk=> ?_,Int.le_refl _,h1,fun _=>rfl,fun _ _ h=>by cases h⟩
  ·obtain⟨k,rfl⟩:∃m,k=m+1:=⟨k - 1,by omega⟩
   simp only [aq.l0,dw,Option.bind_some,decide_eq_true_eq]
   rw [if_pos (by omega)]
 | succ d ih=>
  intro j o h0 h1 hd
  by_cases h2:j≥xs.length
  ·refine⟨zU,j,true,fun k hk=> ?_,Int.le_refl _,h1,fun _=>rfl,fun _ _ h=>by cases h⟩
   ·obtain⟨k,rfl⟩:∃m,k=m+1:=⟨k - 1,by omega⟩
    simp only [aq.l0,dw,Option.bind_some,decide_eq_true_eq]
    rw [if_pos (by omega)]
  ·have jC:∀k,aq.l0 (k+1) q xs j o=(if Lx.at_ xs j=q then (some ((⟨#[115,116,114,105,110,103]⟩:ByteArray),j+1,o)) else (if (Lx.at_ xs j=10∨Lx.at_ xs j=13∨Lx.at_ xs j=12) then (some ((⟨#[98,97,100,32,115,116,114,105,110,103]⟩:ByteArray),j,true)) else (if Lx.at_ xs j=92 then (aq.j1 k q (decide (Lx.at_ xs (j+1)=10∨Lx.at_ xs (j+1)=13∨Lx.at_ xs (j+1)=12)) xs j o) else (aq.j1 k q false xs j o)))):=by
    intro k
    simp only [aq.l0,dw,Option.bind_some,decide_eq_true_eq]
    rw [if_neg h2,bj hx h0 h1]
    simp only [Option.bind_some]
    rw [fX (by omega) (by omega),jP]
    simp only [Option.bind_some,decide_eq_true_eq]
    rw [cN hx (by omega) (by omega)]
    simp only [Option.bind_some]
    rw [jP]
    simp only [Option.bind_some]
   by_cases h3:Lx.at_ xs j=q
   ·refine⟨zU,j+1,o,fun k hk=> ?_,by omega,by omega,id,fun _ _ _=>⟨rfl,j,rfl,Int.le_refl _,by omega,h3,fun m a b=>by omega⟩⟩
    obtain⟨k,rfl⟩:∃m,k=m+1:=⟨k - 1,by omega⟩
    rw [jC,if_pos h3]
   ·by_cases h4:Lx.at_ xs j=10∨Lx.at_ xs j=13∨Lx.at_ xs j=12
    ·refine⟨aeH,j,true,fun k hk=> ?_,Int.le_refl _,h1,fun _=>rfl,fun _ _ h=>by cases h⟩
     ·obtain⟨k,rfl⟩:∃m,k=m+1:=⟨k - 1,by omega⟩
      rw [jC,if_neg h3,if_pos h4]
    ·
     have pJ:∃kind i' o',(∀k,d+d+xs.length+21≤k→aq.j1 k q false xs j o=some (kind,i',o'))∧j≤i' ∧i' ≤xs.length∧(o=true→o' =true)∧
       (Nb xs→N0 xs→o' =false→kind=zU∧∃r,i' =r+1∧j+1≤r∧r<xs.length∧Lx.at_ xs r=q∧∀m,j+1≤m→m<r→Sc q (Lx.at_ xs m)):=by
      obtain⟨b,o1,e1,e2,e3,e4⟩:=ie (o:=o) (n:=0) (i:=j) hx (by omega) (by omega) (by omega) (by omega) (by omega)
      rw [Int.add_zero] at e3 e4
      cases b with
      | true=>
       have e5:=e3 rfl
       obtain⟨i1,o2,f1,f2,f3,f4⟩:=pI (o:=o1) hx h0 e5.2
       obtain⟨kind,i',o',g1,g2,g3,g4,g5⟩:=ih i1 o2 (by omega) (by omega) (by omega)
       refine⟨kind,i',o',fun k hk=> ?_,by omega,g3,fun h=>g4 (f4 (e2 h)),fun hn=>absurd e5.1 (hn j)⟩
       obtain⟨k,rfl⟩:∃m,k=m+1:=⟨k - 1,by omega⟩
       simp only [aq.j1]
       rw [if_neg (by decide),e1]
       simp only [Option.bind_some,if_true]
       rw [f1 k (by omega)]
       simp only [Option.bind_some]
       exact g1 k (by omega)
      | false=>
       obtain⟨kind,i',o',g1,g2,g3,g4,g5⟩:=ih (j+1) o1 (by omega) (by omega) (by omega)
       refine⟨kind,i',o',fun k hk=> ?_,by omega,g3,fun h=>g4 (e2 h),fun hn h0' oN =>g5 hn h0' oN⟩
       obtain⟨k,rfl⟩:∃m,k=m+1:=⟨k - 1,by omega⟩
       simp only [aq.j1]
       rw [if_neg (by decide),e1]
       simp only [Option.bind_some]
       rw [if_neg (by decide),fX (by omega) (by omega)]
       exact g1 k (by omega)
     by_cases h5:Lx.at_ xs j=92
     ·by_cases h6:Lx.at_ xs (j+1)=10∨Lx.at_ xs (j+1)=13∨Lx.at_ xs (j+1)=12
      ·have h7:j+1+1≤xs.length:=fa (by omega) (by omega)
       obtain⟨kind,i',o',g1,g2,g3,g4,g5⟩:=ih (j+2) (if Lx.at_ xs (j+1)=13 then true else o) (by omega) (by omega) (by omega)
       refine⟨kind,i',o',fun k hk=> ?_,by omega,g3,fun h=>g4 (by rw [h];split<;>rfl),fun hn=>absurd h5 (hn j)⟩
       obtain⟨k,rfl⟩:∃m,k=m+1:=⟨k - 1,by omega⟩
       rw [jC,if_neg h3,if_neg h4,if_pos h5,decide_eq_true h6]
       obtain⟨k,rfl⟩:∃m,k=m+1:=⟨k - 1,by omega⟩
       simp only [aq.j1,if_true]
       rw [cN hx (by omega) (by omega)]
       simp only [Option.bind_some]
       rw [fX (by omega) (by omega),←g1 k (by omega)]
       split<;>rfl
      ·obtain⟨kind,i',o',g1,g2,g3,g4,g5⟩:=pJ
       refine⟨kind,i',o',fun k hk=> ?_,g2,g3,g4,fun hn=>absurd h5 (hn j)⟩
       obtain⟨k,rfl⟩:∃m,k=m+1:=⟨k - 1,by omega⟩
       rw [jC,if_neg h3,if_neg h4,if_pos h5,decide_eq_false h6]
       exact g1 k (by omega)
     ·obtain⟨kind,i',o',g1,g2,g3,g4,g5⟩:=pJ
      refine⟨kind,i',o',fun k hk=> ?_,g2,g3,g4,fun hn hz oN => ?_⟩
      ·obtain⟨k,rfl⟩:∃m,k=m+1:=⟨k - 1,by omega⟩
       rw [jC,if_neg h3,if_neg h4,if_neg h5]
       exact g1 k (by omega)
      ·obtain⟨r1,r,r2,r3,r4,r5,r6⟩:=g5 hn hz oN
       refine⟨r1,r,r2,by omega,r4,r5,fun m a b=> ?_⟩
       by_cases hm:j+1≤m
       ·exact r6 m hm b
       ·obtain rfl:m=j:=by omega
        have hz:=hz m h0 (by omega)
        unfold Sc
        simp
        omega
theorem JM (hx:Tx xs) (h0:0≤i) (h1:i<xs.length):∃kind i' o',(∀k,xs.length+xs.length+xs.length+20≤k→aq.f k xs i o=some (kind,i',o'))∧i<i' ∧i' ≤xs.length∧(o=true→o' =true)∧
  (Nb xs→N0 xs→o' =false→kind=zU∧∃r,i' =r+1∧i+1≤r∧r<xs.length∧Lx.at_ xs r=Lx.at_ xs i∧∀m,i+1≤m→m<r→Sc (Lx.at_ xs i) (Lx.at_ xs m)):=by
 have hl:=hx.len
 obtain⟨kind,i',o',g1,g2,g3,g4,g5⟩:=JL hx (Lx.at_ xs i) xs.length (i+1) o (by omega) (by omega) (by omega)
 refine⟨kind,i',o',fun k hk=> ?_,by omega,g3,g4,g5⟩
 unfold aq.f
 rw [bj hx h0 (by omega)]
 simp only [Option.bind_some]
 rw [fX (by omega) (by omega)]
 exact g1 k (by omega)
theorem GK (hx:Tx xs):∀(d:Nat) (j:Int) (o:Bool),0≤j→j≤xs.length→(xs.length:Int) - j≤d→∃i' o',(∀k,d+1≤k→aJ.l0 k xs j o=some (CW,i',o'))∧j≤i' ∧i' ≤xs.length∧(o=true→o' =true):=by
 have hl:=hx.len
 intro d
 induction d with
 | zero=>
  intro j o h0 h1 hd
  refine⟨j,true,fun k hk=> ?_,Int.le_refl _,h1,fun _=>rfl⟩
  obtain⟨k,rfl⟩:∃m,k=m+1:=⟨k - 1,by omega⟩
  simp only [aJ.l0,dw,Option.bind_some,decide_eq_true_eq]
  rw [if_pos (by omega)]
 | succ d ih=>
  intro j o h0 h1 hd
  by_cases h2:j≥xs.length
  ·refine⟨j,true,fun k hk=> ?_,Int.le_refl _,h1,fun _=>rfl⟩
   obtain⟨k,rfl⟩:∃m,k=m+1:=⟨k - 1,by omega⟩
   simp only [aJ.l0,dw,Option.bind_some,decide_eq_true_eq]
   rw [if_pos (by omega)]
  ·obtain⟨i',o',g1,g2,g3,g4⟩:=ih (j+1) o (by omega) (by omega) (by omega)
   by_cases h3:Lx.at_ xs j=42
   ·by_cases h4:Lx.at_ xs (j+1)=47
    ·have h5:j+1+1≤xs.length:=fa (by omega) (by omega)
     refine⟨j+2,o,fun k hk=> ?_,by omega,by omega,id⟩
     obtain⟨k,rfl⟩:∃m,k=m+1:=⟨k - 1,by omega⟩
     simp only [aJ.l0,dw,Option.bind_some,decide_eq_true_eq]
     rw [if_neg h2,bj hx h0 h1]
     simp only [Option.bind_some]
     rw [if_pos h3,cN hx (by omega) (by omega)]
     simp only [Option.bind_some]
     rw [if_pos h4,fX (by omega) (by omega)]
    ·refine⟨i',o',fun k hk=> ?_,by omega,g3,g4⟩
     obtain⟨k,rfl⟩:∃m,k=m+1:=⟨k - 1,by omega⟩
     simp only [aJ.l0,dw,Option.bind_some,decide_eq_true_eq]
     rw [if_neg h2,bj hx h0 h1]
     simp only [Option.bind_some]
     rw [if_pos h3,cN hx (by omega) (by omega)]
     simp only [Option.bind_some]
     rw [if_neg h4,fX (by omega) (by omega)]
     exact g1 k (by omega)
   ·refine⟨i',o',fun k hk=> ?_,by omega,g3,g4⟩
    obtain⟨k,rfl⟩:∃m,k=m+1:=⟨k - 1,by omega⟩
    simp only [aJ.l0,dw,Option.bind_some,decide_eq_true_eq]
    rw [if_neg h2,bj hx h0 h1]
    simp only [Option.bind_some]
    rw [if_neg h3,fX (by omega) (by omega)]
    exact g1 k (by omega)
theorem GL (hx:Tx xs) (h0:0≤i) (h1:i+2≤xs.length):∃i' o',(∀k,xs.length+1≤k→aJ.f k xs i o=some (CW,i',o'))∧i<i' ∧i' ≤xs.length∧(o=true→o' =true):=by
 have hl:=hx.len
 obtain⟨i',o',g1,g2,g3,g4⟩:=GK hx xs.length (i+2) o (by omega) (by omega) (by omega)
 refine⟨i',o',fun k hk=> ?_,by omega,g3,g4⟩
 unfold aJ.f
 rw [fX (by omega) (by omega)]
 exact g1 k (by omega)
theorem zV (hx:Tx xs) (h0:0≤i) (h1:i≤xs.length):∃o',(∀k,2≤k→af.j8 k xs i o=some (xB,i,o'))∧(o=true→o' =true):=by
 have hb:=hx.at_ i
 obtain⟨v,hv,sY⟩:=fe hb.1 hb.2
 by_cases h2:v≥0
 ·refine⟨true,fun k hk=> ?_,fun _=>rfl⟩
  obtain⟨k,rfl⟩:∃m,k=m+1:=⟨k - 1,by omega⟩
  simp only [af.j8]
  rw [bj hx h0 h1]
  simp only [Option.bind_some]
  rw [hv k (by omega)]
  simp only [Option.bind_some]
  rw [if_pos h2]
 ·refine⟨o,fun k hk=> ?_,id⟩
  obtain⟨k,rfl⟩:∃m,k=m+1:=⟨k - 1,by omega⟩
  simp only [af.j8]
  rw [bj hx h0 h1]
  simp only [Option.bind_some]
  rw [hv k (by omega)]
  simp only [Option.bind_some]
  rw [if_neg h2]
theorem JN (hx:Tx xs):∀(d:Nat) (n i:Int),0≤n→6 - n≤d→0≤i→i≤xs.length→∃i' o',(∀k,d+4≤k→af.l2 k n xs i o=some (xB,i',o'))∧i≤i' ∧i' ≤xs.length∧(o=true→o' =true):=by
 have hl:=hx.len
 intro d
 induction d with
 | zero=>
  intro n i hn hd h0 h1
  obtain⟨o',h3,h4⟩:=zV (o:=o) hx h0 h1
  refine⟨i,o',fun k hk=> ?_,Int.le_refl _,h1,h4⟩
  obtain⟨k,rfl⟩:∃m,k=m+1:=⟨k - 1,by omega⟩
  simp only [af.l2]
  rw [if_neg (by omega)]
  exact h3 k (by omega)
 | succ d ih=>
  intro n i hn hd h0 h1
  obtain⟨o1,h3,h4⟩:=zV (o:=o) hx h0 h1
  by_cases h2:n<6
  ·have hb:=hx.at_ i
   obtain⟨v,hv,sY⟩:=fe hb.1 hb.2
   by_cases h7:v≥0
   ·have h8:=sY.1 h7
    have eh:i+1≤xs.length:=fa (fun e=>by rw [e] at h8;exact absurd h8 (by decide)) h0
    obtain⟨i',o',g1,g2,g3,g4⟩:=ih (n+1) (i+1) (by omega) (by omega) (by omega) eh
    refine⟨i',o',fun k hk=> ?_,by omega,g3,g4⟩
    obtain⟨k,rfl⟩:∃m,k=m+1:=⟨k - 1,by omega⟩
    simp only [af.l2]
    rw [if_pos h2,bj hx h0 h1]
    simp only [Option.bind_some]
    rw [hv k (by omega)]
    simp only [Option.bind_some]
    rw [if_pos h7,fX (x:=n+1) (by omega) (by omega),fX (x:=i+1) (by omega) (by omega)]
    exact g1 k (by omega)
   ·refine⟨i,o1,fun k hk=> ?_,Int.le_refl _,h1,h4⟩
    obtain⟨k,rfl⟩:∃m,k=m+1:=⟨k - 1,by omega⟩
    simp only [af.l2]
    rw [if_pos h2,bj hx h0 h1]
    simp only [Option.bind_some]
    rw [hv k (by omega)]
    simp only [Option.bind_some]
    rw [if_neg h7]
    exact h3 k (by omega)
  ·refine⟨i,o1,fun k hk=> ?_,Int.le_refl _,h1,h4⟩
   obtain⟨k,rfl⟩:∃m,k=m+1:=⟨k - 1,by omega⟩
   simp only [af.l2]
   rw [if_neg h2]
   exact h3 k (by omega)
def vL (xs:List Int) (i:Int) (o:Bool) (K:Nat) (f:Nat→Option (ByteArray×Int×Bool)):Prop:=
 ∃i' o',(∀k,K≤k→f k=some (xB,i',o'))∧i≤i' ∧i' ≤xs.length∧(o=true→o' =true)
theorem zW (hx:Tx xs) (h0:0≤i) (h1:i≤xs.length) (b:Bool) (hb:b=true→i+1≤xs.length):vL xs i o 12 (fun k=>af.j6 k b xs i o):=by
 have hl:=hx.len
 cases b with
 | true=>
  have hb:=hb rfl
  obtain⟨i',o',g1,g2,g3,g4⟩:=JN (o:=o) hx 6 0 (i+1) (by omega) (by omega) (by omega) hb
  refine⟨i',o',fun k hk=> ?_,by omega,g3,g4⟩
  obtain⟨k,rfl⟩:∃m,k=m+1:=⟨k - 1,by omega⟩
  simp only [af.j6,if_true]
  rw [fX (by omega) (by omega)]
  exact g1 k (by omega)
 | false=>
  refine⟨i,o,fun k hk=> ?_,Int.le_refl _,h1,id⟩
  obtain⟨k,rfl⟩:∃m,k=m+1:=⟨k - 1,by omega⟩
  simp only [af.j6]
  rw [if_neg (by decide)]
theorem zX (hx:Tx xs) (h0:0≤i) (h1:i≤xs.length) (b:Bool):vL xs i o 13 (fun k=>af.j5 k b xs i o):=by
 have hl:=hx.len
 have hf:=zW (o:=o) hx h0 h1 false (fun h=>by cases h)
 obtain⟨i1,o1,f1,f2,f3,f4⟩:=hf
 cases b with
 | true=>
  refine⟨i1,o1,fun k hk=> ?_,f2,f3,f4⟩
  obtain⟨k,rfl⟩:∃m,k=m+1:=⟨k - 1,by omega⟩
  simp only [af.j5,if_true]
  exact f1 k (by omega)
 | false=>
  by_cases h2:Lx.at_ xs i=45
  ·have hb:=hx.at_ (i+1)
   obtain⟨v,hv,sY⟩:=fe hb.1 hb.2
   obtain⟨i2,o2,g1,g2,g3,g4⟩:=zW (o:=o) hx h0 h1 (decide (v≥0)) (fun _=>fa (by omega) h0)
   refine⟨i2,o2,fun k hk=> ?_,g2,g3,g4⟩
   obtain⟨k,rfl⟩:∃m,k=m+1:=⟨k - 1,by omega⟩
   simp only [af.j5]
   rw [if_neg (by decide),bj hx h0 h1]
   simp only [Option.bind_some]
   rw [if_pos h2,cN hx (by omega) (by omega)]
   simp only [Option.bind_some]
   rw [hv k (by omega)]
   simp only [Option.bind_some]
   exact g1 k (by omega)
  ·refine⟨i1,o1,fun k hk=> ?_,f2,f3,f4⟩
   obtain⟨k,rfl⟩:∃m,k=m+1:=⟨k - 1,by omega⟩
   simp only [af.j5]
   rw [if_neg (by decide),bj hx h0 h1]
   simp only [Option.bind_some]
   rw [if_neg h2]
   exact f1 k (by omega)
theorem JO (hx:Tx xs) (h0:0≤i) (h1:i≤xs.length) (b b2:Bool):vL xs i o 14 (fun k=>af.j4 k b b2 xs i o):=by
 cases b2 with
 | true=>
  obtain⟨i1,o1,f1,f2,f3,f4⟩:=zX (o:=true) hx h0 h1 b
  refine⟨i1,o1,fun k hk=> ?_,f2,f3,fun _=>f4 rfl⟩
  obtain⟨k,rfl⟩:∃m,k=m+1:=⟨k - 1,by omega⟩
  simp only [af.j4,if_true]
  exact f1 k (by omega)
 | false=>
  obtain⟨i1,o1,f1,f2,f3,f4⟩:=zX (o:=o) hx h0 h1 b
  refine⟨i1,o1,fun k hk=> ?_,f2,f3,f4⟩
  obtain⟨k,rfl⟩:∃m,k=m+1:=⟨k - 1,by omega⟩
  simp only [af.j4]
  rw [if_neg (by decide)]
  exact f1 k (by omega)
theorem zY (hx:Tx xs) (h0:0≤i) (h1:i≤xs.length) (b:Bool):vL xs i o 15 (fun k=>af.j3 k b xs i o):=by
 have hl:=hx.len
 have hb:=hx.at_ i
 obtain⟨v,hv,sY⟩:=fe hb.1 hb.2
 have CX:=hx.at_ (i+1)
 obtain⟨v',MA,agU⟩:=fe CX.1 CX.2
 have key:∃b2:Bool,∀k,1≤k→af.j3 (k+1) b xs i o=af.j4 k b b2 xs i o:=by
  by_cases h2:v≥0
  ·refine⟨true,fun k hk=> ?_⟩
   simp only [af.j3]
   rw [bj hx h0 h1]
   simp only [Option.bind_some]
   rw [hv k (by omega)]
   simp only [Option.bind_some]
   rw [if_pos h2]
  ·by_cases h3:Lx.at_ xs i=63
   ·refine⟨true,fun k hk=> ?_⟩
    simp only [af.j3]
    rw [bj hx h0 h1]
    simp only [Option.bind_some]
    rw [hv k (by omega)]
    simp only [Option.bind_some]
    rw [if_neg h2,bj hx h0 h1]
    simp only [Option.bind_some]
    rw [if_pos h3]
   ·by_cases h4:Lx.at_ xs i=45
    ·cases b with
     | true=>
      refine⟨true,fun k hk=> ?_⟩
      simp only [af.j3]
      rw [bj hx h0 h1]
      simp only [Option.bind_some]
      rw [hv k (by omega)]
      simp only [Option.bind_some]
      rw [if_neg h2,bj hx h0 h1]
      simp only [Option.bind_some]
      rw [if_neg h3,bj hx h0 h1]
      simp only [Option.bind_some]
      rw [if_pos h4,if_pos trivial]
     | false=>
      refine⟨decide (v' <0),fun k hk=> ?_⟩
      simp only [af.j3]
      rw [bj hx h0 h1]
      simp only [Option.bind_some]
      rw [hv k (by omega)]
      simp only [Option.bind_some]
      rw [if_neg h2,bj hx h0 h1]
      simp only [Option.bind_some]
      rw [if_neg h3,bj hx h0 h1]
      simp only [Option.bind_some]
      rw [if_pos h4,if_neg (by decide),cN hx (by omega) (by omega)]
      simp only [Option.bind_some]
      rw [MA k (by omega)]
      simp only [Option.bind_some]
    ·refine⟨false,fun k hk=> ?_⟩
     simp only [af.j3]
     rw [bj hx h0 h1]
     simp only [Option.bind_some]
     rw [hv k (by omega)]
     simp only [Option.bind_some]
     rw [if_neg h2,bj hx h0 h1]
     simp only [Option.bind_some]
     rw [if_neg h3,bj hx h0 h1]
     simp only [Option.bind_some]
     rw [if_neg h4]
 obtain⟨b2,kV⟩:=key
 obtain⟨i1,o1,f1,f2,f3,f4⟩:=JO (o:=o) hx h0 h1 b b2
 refine⟨i1,o1,fun k hk=> ?_,f2,f3,f4⟩
 obtain⟨k,rfl⟩:∃m,k=m+1:=⟨k - 1,by omega⟩
 show af.j3 (k+1) b xs i o=_
 rw [kV k (by omega)]
 exact f1 k (by omega)
theorem zZ (hx:Tx xs):∀(d:Nat) (n i:Int) (b:Bool),0≤n→6 - n≤d→0≤i→i≤xs.length→vL xs i o (d+16) (fun k=>af.l1 k n b xs i o):=by
 have hl:=hx.len
 intro d
 induction d with
 | zero=>
  intro n i b hn hd h0 h1
  obtain⟨i1,o1,f1,f2,f3,f4⟩:=zY (o:=o) hx h0 h1 b
  refine⟨i1,o1,fun k hk=> ?_,f2,f3,f4⟩
  obtain⟨k,rfl⟩:∃m,k=m+1:=⟨k - 1,by omega⟩
  simp only [af.l1]
  rw [if_neg (by omega)]
  exact f1 k (by omega)
 | succ d ih=>
  intro n i b hn hd h0 h1
  obtain⟨i1,o1,f1,f2,f3,f4⟩:=zY (o:=o) hx h0 h1 b
  by_cases h2:n<6
  ·by_cases h3:Lx.at_ xs i=63
   ·have eh:i+1≤xs.length:=fa (by omega) h0
    obtain⟨i',o',g1,g2,g3,g4⟩:=ih (n+1) (i+1) true (by omega) (by omega) (by omega) eh
    refine⟨i',o',fun k hk=> ?_,by omega,g3,g4⟩
    obtain⟨k,rfl⟩:∃m,k=m+1:=⟨k - 1,by omega⟩
    simp only [af.l1]
    rw [if_pos h2,bj hx h0 h1]
    simp only [Option.bind_some]
    rw [if_pos h3,fX (x:=n+1) (by omega) (by omega),fX (x:=i+1) (by omega) (by omega)]
    exact g1 k (by omega)
   ·refine⟨i1,o1,fun k hk=> ?_,f2,f3,f4⟩
    obtain⟨k,rfl⟩:∃m,k=m+1:=⟨k - 1,by omega⟩
    simp only [af.l1]
    rw [if_pos h2,bj hx h0 h1]
    simp only [Option.bind_some]
    rw [if_neg h3]
    exact f1 k (by omega)
  ·refine⟨i1,o1,fun k hk=> ?_,f2,f3,f4⟩
   obtain⟨k,rfl⟩:∃m,k=m+1:=⟨k - 1,by omega⟩
   simp only [af.l1]
   rw [if_neg h2]
   exact f1 k (by omega)
theorem JP (hx:Tx xs):∀(d:Nat) (n i:Int),0≤n→6 - n≤d→0≤i→i≤xs.length→vL xs i o (d+24) (fun k=>af.l0 k n xs i o):=by
 have hl:=hx.len
 intro d
 induction d with
 | zero=>
  intro n i hn hd h0 h1
  obtain⟨i1,o1,f1,f2,f3,f4⟩:=zZ (o:=o) hx 6 n i false hn (by omega) h0 h1
  refine⟨i1,o1,fun k hk=> ?_,f2,f3,f4⟩
  obtain⟨k,rfl⟩:∃m,k=m+1:=⟨k - 1,by omega⟩
  simp only [af.l0]
  rw [if_neg (by omega)]
  obtain⟨k,rfl⟩:∃m,k=m+1:=⟨k - 1,by omega⟩
  simp only [af.j1]
  exact f1 k (by omega)
 | succ d ih=>
  intro n i hn hd h0 h1
  obtain⟨i1,o1,f1,f2,f3,f4⟩:=zZ (o:=o) hx 6 n i false hn (by omega) h0 h1
  by_cases h2:n<6
  ·have hb:=hx.at_ i
   obtain⟨v,hv,sY⟩:=fe hb.1 hb.2
   by_cases h7:v≥0
   ·have h8:=sY.1 h7
    have eh:i+1≤xs.length:=fa (fun e=>by rw [e] at h8;exact absurd h8 (by decide)) h0
    obtain⟨i',o',g1,g2,g3,g4⟩:=ih (n+1) (i+1) (by omega) (by omega) (by omega) eh
    refine⟨i',o',fun k hk=> ?_,by omega,g3,g4⟩
    obtain⟨k,rfl⟩:∃m,k=m+1:=⟨k - 1,by omega⟩
    simp only [af.l0]
    rw [if_pos h2,bj hx h0 h1]
    simp only [Option.bind_some]
    rw [hv k (by omega)]
    simp only [Option.bind_some]
    rw [if_pos h7,fX (x:=n+1) (by omega) (by omega),fX (x:=i+1) (by omega) (by omega)]
    exact g1 k (by omega)
   ·refine⟨i1,o1,fun k hk=> ?_,f2,f3,f4⟩
    obtain⟨k,rfl⟩:∃m,k=m+1:=⟨k - 1,by omega⟩
    simp only [af.l0]
    rw [if_pos h2,bj hx h0 h1]
    simp only [Option.bind_some]
    rw [hv k (by omega)]
    simp only [Option.bind_some]
    rw [if_neg h7]
    obtain⟨k,rfl⟩:∃m,k=m+1:=⟨k - 1,by omega⟩
    simp only [af.j1]
    exact f1 k (by omega)
  ·refine⟨i1,o1,fun k hk=> ?_,f2,f3,f4⟩
   obtain⟨k,rfl⟩:∃m,k=m+1:=⟨k - 1,by omega⟩
   simp only [af.l0]
   rw [if_neg h2]
   obtain⟨k,rfl⟩:∃m,k=m+1:=⟨k - 1,by omega⟩
   simp only [af.j1]
   exact f1 k (by omega)
theorem NZ (hx:Tx xs) (h0:0≤i) (h1:i+2≤xs.length):∃i' o',(∀k,30≤k→af.f k xs i o=some (xB,i',o'))∧i<i' ∧i' ≤xs.length∧(o=true→o' =true):=by
 have hl:=hx.len
 obtain⟨i',o',g1,g2,g3,g4⟩:=JP (o:=o) hx 6 0 (i+2) (by omega) (by omega) (by omega) (by omega)
 refine⟨i',o',fun k hk=> ?_,by omega,g3,g4⟩
 unfold af.f
 rw [fX (by omega) (by omega)]
 exact g1 k (by omega)
end
section
variable {xs:List Int} {i n c q p:Int} {o:Bool} {k:Nat}
def sg (xs:List Int) (i:Int):Int:=if Lx.at_ xs i=43∨Lx.at_ xs i=45 then 1 else 0
def gN (xs:List Int) (i:Int):Prop:=Dg (Lx.at_ xs (i+sg xs i))∨(Lx.at_ xs (i+sg xs i)=46∧Dg (Lx.at_ xs (i+sg xs i+1)))
theorem JQ (xs:List Int) (i:Int):sg xs i=0∨sg xs i=1:=by unfold sg;split<;>simp
theorem CY (xs:List Int) (i:Int):∃b,Fi xs i (i+sg xs i) b:=by
 unfold sg Fi
 by_cases h1:Lx.at_ xs i=43
 ·exact⟨true,.inl ⟨rfl,h1,by rw [if_pos (.inl h1)]⟩⟩
 ·by_cases h2:Lx.at_ xs i=45
  ·exact⟨true,.inr (.inl ⟨rfl,h2,by rw [if_pos (.inr h2)]⟩)⟩
  ·exact⟨false,.inr (.inr ⟨rfl,by simpa using h1,by simpa using h2,by rw [if_neg (by omega)];omega⟩)⟩
theorem CZ (hx:Tx xs) (h0:0≤i) (h1:i≤xs.length) (hn:0≤n) (BY:n≤1):∃b,(∀k,1≤k→aE.j1 k n xs i o=some (b,i,o))∧(b=true↔Dg (Lx.at_ xs (i+n))∨(Lx.at_ xs (i+n)=46∧Dg (Lx.at_ xs (i+n+1)))):=by
 have hl:=hx.len
 by_cases h2:Dg (Lx.at_ xs (i+n))
 ·refine⟨true,fun k hk=> ?_,⟨fun _=> .inl h2,fun _=>rfl⟩⟩
  obtain⟨k,rfl⟩:∃m,k=m+1:=⟨k - 1,by omega⟩
  simp only [aE.j1]
  rw [cN hx (by omega) (by omega)]
  simp only [Option.bind_some]
  rw [eB]
  simp only [Option.bind_some,decide_eq_true_eq]
  rw [if_pos h2]
 ·by_cases h3:Lx.at_ xs (i+n)=46
  ·refine⟨decide (Dg (Lx.at_ xs (i+(n+1)))),fun k hk=> ?_,?_⟩
   ·obtain⟨k,rfl⟩:∃m,k=m+1:=⟨k - 1,by omega⟩
    simp only [aE.j1]
    rw [cN hx (by omega) (by omega)]
    simp only [Option.bind_some]
    rw [eB]
    simp only [Option.bind_some,decide_eq_true_eq]
    rw [if_neg h2,cN hx (by omega) (by omega)]
    simp only [Option.bind_some]
    rw [if_pos h3,fX (x:=n+1) (by omega) (by omega),cN hx (by omega) (by omega)]
    simp only [Option.bind_some]
    rw [eB]
    rfl
   ·rw [decide_eq_true_eq,show i+n+1=i+(n+1) by omega]
    exact⟨fun h=> .inr ⟨h3,h⟩,fun h=>by rcases h with h|h;exact absurd h h2;exact h.2⟩
  ·refine⟨false,fun k hk=> ?_,⟨(fun h=>by cases h),fun h=>by rcases h with h|h;exact absurd h h2;exact absurd h.1 h3⟩⟩
   obtain⟨k,rfl⟩:∃m,k=m+1:=⟨k - 1,by omega⟩
   simp only [aE.j1]
   rw [cN hx (by omega) (by omega)]
   simp only [Option.bind_some]
   rw [eB]
   simp only [Option.bind_some,decide_eq_true_eq]
   rw [if_neg h2,cN hx (by omega) (by omega)]
   simp only [Option.bind_some]
   rw [if_neg h3]
theorem GM (hx:Tx xs) (h0:0≤i) (h1:i≤xs.length):∃b,(∀k,3≤k→aE.f k xs i o=some (b,i,o))∧(b=true↔gN xs i):=by
 have hs:=JQ xs i
 obtain⟨b,hb,dc⟩:=CZ (n:=sg xs i) (o:=o) hx h0 h1 (by omega) (by omega)
 refine⟨b,fun k hk=> ?_,dc⟩
 obtain⟨k,rfl⟩:∃m,k=m+1:=⟨k - 1,by omega⟩
 unfold aE.f
 rw [bj hx h0 h1]
 simp only [Option.bind_some]
 have hj:=hb k (by omega)
 unfold sg at hj
 by_cases h2:Lx.at_ xs i=43
 ·rw [if_pos h2]
  rw [if_pos (.inl h2)] at hj
  simp only [aE.j0,if_true]
  exact hj
 ·rw [if_neg h2]
  by_cases h3:Lx.at_ xs i=45
  ·rw [if_pos (.inr h3)] at hj
   simp only [aE.j0]
   rw [if_pos (by simpa using h3)]
   exact hj
  ·rw [if_neg (by omega)] at hj
   simp only [aE.j0]
   rw [if_neg (by simpa using h3)]
   exact hj
def vM (xs:List Int) (q:Int) (kind:ByteArray) (i' :Int):Prop:=
 (kind=TJ∧lr xs q∧i' =run Nm xs q)∨(kind=TK∧Lx.at_ xs q=37∧i' =q+1)∨(kind=TM∧Lx.at_ xs q≠37∧fu xs q∧i' =q)
def Yr (xs:List Int) (q:Int) (o:Bool) (f:Nat→Option (ByteArray×Int×Bool)):Prop:=
 ∃kind i' o',(∀k,xs.length+xs.length+20≤k→f k=some (kind,i',o'))∧q≤i' ∧i' ≤xs.length∧(o=true→o' =true)∧(Nb xs→o' =false→vM xs q kind i')
theorem sZ (hx:Tx xs) (h0:0≤i) (h1:i≤xs.length):Yr xs i o (fun k=>ab.j7 k xs i o):=by
 have hl:=hx.len
 obtain⟨b,o1,a1,a2,a3,a4,a5⟩:=lO (o:=o) (n:=0) hx h0 h1 (by omega) (by omega)
 rw [Int.add_zero] at a3 a4 a5
 cases b with
 | true=>
  obtain⟨i',o',b1,b2,b3,b4,b5,b6⟩:=qx (o:=o1) hx h0 h1
  refine⟨TJ,i',o',fun k hk=> ?_,b2,b3,fun h=>b4 (a2 h),fun hn oN => .inl ⟨rfl,(a5 hn).1.1 rfl,(b6 hn).1⟩⟩
  obtain⟨k,rfl⟩:∃m,k=m+1:=⟨k - 1,by omega⟩
  simp only [ab.j7]
  rw [a1 k (by omega)]
  simp only [Option.bind_some,if_true]
  rw [b1 k (by omega)]
  rfl
 | false=>
  by_cases h2:Lx.at_ xs i=37
  ·refine⟨TK,i+1,o1,fun k hk=> ?_,by omega,fa (by omega) h0,a2,fun hn oN => .inr (.inl ⟨rfl,h2,rfl⟩)⟩
   obtain⟨k,rfl⟩:∃m,k=m+1:=⟨k - 1,by omega⟩
   simp only [ab.j7]
   rw [a1 k (by omega)]
   simp only [Option.bind_some]
   rw [if_neg (by decide),bj hx h0 h1]
   simp only [Option.bind_some]
   rw [if_pos h2,fX (by omega) (by omega)]
  ·refine⟨TM,i,o1,fun k hk=> ?_,Int.le_refl _,h1,a2,fun hn oN => .inr (.inr ⟨rfl,h2,?_,rfl⟩)⟩
   ·obtain⟨k,rfl⟩:∃m,k=m+1:=⟨k - 1,by omega⟩
    simp only [ab.j7]
    rw [a1 k (by omega)]
    simp only [Option.bind_some]
    rw [if_neg (by decide),bj hx h0 h1]
    simp only [Option.bind_some]
    rw [if_neg h2]
   ·have h3:=(a5 hn).2 oN
    have h4:¬lr xs i:=fun h=>by have:=(a5 hn).1.2 h;cases this
    unfold lr at h4;unfold fu
    by_cases h5:Lx.at_ xs i=45
    ·exact .inr ⟨h5,fun h=>h4 (.inr ⟨h5,h⟩),fun h=>h3 ⟨h5,h⟩⟩
    ·exact .inl ⟨fun h=>h4 (.inl h),h5⟩
def Ys (xs:List Int) (q2:Int) (o:Bool) (K:Nat) (f:Nat→Option (ByteArray×Int×Bool)):Prop:=
 ∃kind i' o',(∀k,xs.length+xs.length+K≤k→f k=some (kind,i',o'))∧q2≤i' ∧i' ≤xs.length∧(o=true→o' =true)∧(Nb xs→o' =false→∃q,xz xs q2 q∧vM xs q kind i')
theorem C0 (hx:Tx xs) (h0:0≤i) (h1:i≤xs.length) (hn:0≤n) (JR:n≤2):∃q,((Dg (Lx.at_ xs (i+n))∧q=run Dg xs (i+n))∨(¬Dg (Lx.at_ xs (i+n))∧q=i))∧i≤q∧q≤xs.length∧
  ∀k,xs.length+1≤k→ab.j6 (k+1) n xs i o=ab.j7 k xs q o:=by
 have hl:=hx.len
 by_cases h3:Dg (Lx.at_ xs (i+n))
 ·have eh:i+n+1≤xs.length:=fa (fun e=>by rw [e] at h3;exact absurd h3 (by decide)) (by omega)
  have MU:=bL (f:=Dg) (bs:=xs) (p:=i+n)
  have hle:=ib (f:=Dg) (bs:=xs) (p:=i+n) (by omega) (by omega)
  refine⟨_,.inl ⟨h3,rfl⟩,by omega,hle,fun k hk=> ?_⟩
  simp only [ab.j6]
  rw [cN hx (by omega) (by omega)]
  simp only [Option.bind_some]
  rw [eB]
  simp only [Option.bind_some,decide_eq_true_eq]
  rw [if_pos h3,fX (by omega) (by omega),pH hx (by omega) (by omega) hk]
  simp only [Option.bind_some]
 ·refine⟨i,.inr ⟨h3,rfl⟩,Int.le_refl _,h1,fun k hk=> ?_⟩
  simp only [ab.j6]
  rw [cN hx (by omega) (by omega)]
  simp only [Option.bind_some]
  rw [eB]
  simp only [Option.bind_some,decide_eq_true_eq]
  rw [if_neg h3]
theorem s9 (hx:Tx xs) (h0:0≤i) (h1:i≤xs.length):Ys xs i o 30 (fun k=>ab.j3 k xs i o):=by
 have hl:=hx.len
 by_cases h2:Lx.at_ xs i=101∨Lx.at_ xs i=69
 ·have hi1:i+1≤xs.length:=fa (by omega) h0
  have hs:=JQ xs (i+1)
  obtain⟨sb,hsb⟩:=CY xs (i+1)
  obtain⟨q,hq,N4,N5,hq3⟩:=C0 (o:=o) (n:=1+sg xs (i+1)) hx h0 h1 (by omega) (by omega)
  rw [show i+(1+sg xs (i+1))=i+1+sg xs (i+1) by omega] at hq
  have hj4:∀k,ab.j4 (k+2) true xs i o=ab.j6 k (1+sg xs (i+1)) xs i o:=by
   intro k
   simp only [ab.j4,if_true]
   rw [cN hx (by omega) (by omega)]
   simp only [Option.bind_some]
   unfold sg
   by_cases h3:Lx.at_ xs (i+1)=43
   ·rw [if_pos h3,if_pos (.inl h3)]
    simp only [ab.j5,if_true]
    rfl
   ·rw [if_neg h3]
    by_cases h4:Lx.at_ xs (i+1)=45
    ·rw [if_pos (.inr h4)]
     simp only [ab.j5]
     rw [if_pos (by simpa using h4)]
     rfl
    ·rw [if_neg (by omega)]
     simp only [ab.j5]
     rw [if_neg (by simpa using h4)]
     rfl
  have hj3:∀k,ab.j3 (k+3) xs i o=ab.j6 k (1+sg xs (i+1)) xs i o:=by
   intro k
   simp only [ab.j3]
   rw [bj hx h0 h1]
   simp only [Option.bind_some]
   by_cases h3:Lx.at_ xs i=101
   ·rw [if_pos h3];exact hj4 k
   ·rw [if_neg h3,show (Lx.at_ xs i==69)=true by simp;omega];exact hj4 k
  obtain⟨kind,i',o',g1,g2,g3,g4,g5⟩:=sZ (o:=o) (i:=q) hx (by omega) N5
  refine⟨kind,i',o',fun k hk=> ?_,by omega,g3,g4,fun hn oN =>⟨q,.inr ⟨h2,_,sb,hsb,hq⟩,g5 hn oN⟩⟩
  obtain⟨k,rfl⟩:∃m,k=m+4:=⟨k - 4,by omega⟩
  show ab.j3 (k+1+3) xs i o=_
  rw [hj3,hq3 k (by omega)]
  exact g1 k (by omega)
 ·obtain⟨kind,i',o',g1,g2,g3,g4,g5⟩:=sZ (o:=o) (i:=i) hx h0 h1
  refine⟨kind,i',o',fun k hk=> ?_,g2,g3,g4,fun hn oN =>⟨i,.inl ⟨by simp;omega,by simp;omega,rfl⟩,g5 hn oN⟩⟩
  obtain⟨k,rfl⟩:∃m,k=m+2:=⟨k - 2,by omega⟩
  simp only [ab.j3]
  rw [bj hx h0 h1]
  simp only [Option.bind_some]
  rw [if_neg (by omega),show (Lx.at_ xs i==69)=false by simp;omega]
  simp only [ab.j4]
  rw [if_neg (by decide)]
  exact g1 k (by omega)
theorem C1 (hx:Tx xs) (h0:0≤q) (h1:q≤xs.length):∃kind i' o',(∀k,xs.length+xs.length+40≤k→ab.j1 k xs q o=some (kind,i',o'))∧q≤i' ∧i' ≤xs.length∧(o=true→o' =true)∧
  ((Dg (Lx.at_ xs q)∨(Lx.at_ xs q=46∧Dg (Lx.at_ xs (q+1))))→q<i')∧
  (Nb xs→(Dg (Lx.at_ xs q)∨(Lx.at_ xs q=46∧Dg (Lx.at_ xs (q+1))))→o' =false→∃q1 q2 fd e,((fd=true∧Dg (Lx.at_ xs q)∧q1=run Dg xs q)∨(fd=false∧¬Dg (Lx.at_ xs q)∧q1=q))∧
   ((Lx.at_ xs q1=46∧Dg (Lx.at_ xs (q1+1))∧q2=run Dg xs (q1+1))∨(Lx.at_ xs q1=46∧¬Dg (Lx.at_ xs (q1+1))∧fd=true∧q2=q1)∨((Lx.at_ xs q1==46)=false∧fd=true∧q2=q1))∧
   xz xs q2 e∧vM xs e kind i'):=by
 have hl:=hx.len
 have MU:=bL (f:=Dg) (bs:=xs) (p:=q)
 have hle:=ib (f:=Dg) (bs:=xs) (p:=q) h0 h1
 have hnd:¬Dg (46:Int):=by decide
 have eh:Dg (Lx.at_ xs q)→q<run Dg xs q:=by
  intro h
  have hq:q<xs.length:=sW (fun e=>by rw [e] at h;exact absurd h (by decide))
  rw [fH h0 hq h]
  have:=bL (f:=Dg) (bs:=xs) (p:=q+1)
  omega
 have JS:∃fd:Bool,((fd=true∧Dg (Lx.at_ xs q)∧run Dg xs q=run Dg xs q)∨(fd=false∧¬Dg (Lx.at_ xs q)∧run Dg xs q=q)):=by
  by_cases h:Dg (Lx.at_ xs q)
  ·exact⟨true,.inl ⟨rfl,h,rfl⟩⟩
  ·exact⟨false,.inr ⟨rfl,h,eI h0 h1 h⟩⟩
 obtain⟨fd,JS⟩:=JS
 by_cases h2:Lx.at_ xs (run Dg xs q)=46∧Dg (Lx.at_ xs (run Dg xs q+1))
 ·have oz:run Dg xs q+1+1≤xs.length:=fa (fun e=>by rw [e] at h2;exact absurd h2.2 (by decide)) (by omega)
  have agV:=bL (f:=Dg) (bs:=xs) (p:=run Dg xs q+1)
  have aeI:=ib (f:=Dg) (bs:=xs) (p:=run Dg xs q+1) (by omega) (by omega)
  obtain⟨kind,i',o',g1,g2,g3,g4,g5⟩:=s9 (o:=o) (i:=run Dg xs (run Dg xs q+1)) hx (by omega) aeI
  refine⟨kind,i',o',fun k hk=> ?_,by omega,g3,g4,fun _=>by omega,fun hn _ oN => ?_⟩
  ·obtain⟨k,rfl⟩:∃m,k=m+2:=⟨k - 2,by omega⟩
   simp only [ab.j1]
   rw [pH hx h0 h1 (by omega)]
   simp only [Option.bind_some]
   rw [bj hx (by omega) hle]
   simp only [Option.bind_some]
   rw [if_pos h2.1,cN hx (by omega) (by omega)]
   simp only [Option.bind_some]
   rw [eB]
   simp only [Option.bind_some]
   rw [decide_eq_true h2.2]
   simp only [ab.j2,if_true]
   rw [fX (by omega) (by omega),pH hx (by omega) (by omega) (by omega)]
   simp only [Option.bind_some]
   exact g1 k (by omega)
  ·obtain⟨e,e1,e2⟩:=g5 hn oN
   exact⟨_,_,fd,e,JS,.inl ⟨h2.1,h2.2,rfl⟩,e1,e2⟩
 ·obtain⟨kind,i',o',g1,g2,g3,g4,g5⟩:=s9 (o:=o) (i:=run Dg xs q) hx (by omega) hle
  have hd:(Dg (Lx.at_ xs q)∨(Lx.at_ xs q=46∧Dg (Lx.at_ xs (q+1))))→Dg (Lx.at_ xs q):=by
   intro h
   by_cases h3:Dg (Lx.at_ xs q)
   ·exact h3
   ·rcases h with h|h
    ·exact h
    ·exfalso;apply h2;rw [eI h0 h1 h3];exact h
  refine⟨kind,i',o',fun k hk=> ?_,by omega,g3,g4,fun h=>by have:=eh (hd h);omega,fun hn hd' oN => ?_⟩
  ·obtain⟨k,rfl⟩:∃m,k=m+2:=⟨k - 2,by omega⟩
   simp only [ab.j1]
   rw [pH hx h0 h1 (by omega)]
   simp only [Option.bind_some]
   rw [bj hx (by omega) hle]
   simp only [Option.bind_some]
   by_cases h3:Lx.at_ xs (run Dg xs q)=46
   ·rw [if_pos h3,cN hx (by omega) (by omega)]
    simp only [Option.bind_some]
    rw [eB]
    simp only [Option.bind_some]
    rw [decide_eq_false (fun h=>h2 ⟨h3,h⟩)]
    simp only [ab.j2]
    rw [if_neg (by decide)]
    exact g1 k (by omega)
   ·rw [if_neg h3]
    simp only [ab.j2]
    rw [if_neg (by decide)]
    exact g1 k (by omega)
  ·obtain⟨e,e1,e2⟩:=g5 hn oN
   have hf:fd=true:=by
    rcases JS with h|h
    ·exact h.1
    ·exact absurd (hd hd') h.2.1
   refine⟨_,_,fd,e,JS,?_,e1,e2⟩
   by_cases h3:Lx.at_ xs (run Dg xs q)=46
   ·exact .inr (.inl ⟨h3,fun h=>h2 ⟨h3,h⟩,hf,rfl⟩)
   ·exact .inr (.inr ⟨by simpa using h3,hf,rfl⟩)
theorem GN (hx:Tx xs) (h0:0≤i) (h1:i≤xs.length):∃kind i' o',(∀k,xs.length+xs.length+50≤k→ab.f k xs i o=some (kind,i',o'))∧i≤i' ∧i' ≤xs.length∧(o=true→o' =true)∧(gN xs i→i<i')∧
  (Nb xs→gN xs i→o' =false→∃q,pD xs i q∧vM xs q kind i'):=by
 have hl:=hx.len
 have hs:=JQ xs i
 obtain⟨sb,hsb⟩:=CY xs i
 have hle:i+sg xs i≤xs.length:=by
  by_cases h:Lx.at_ xs i=43∨Lx.at_ xs i=45
  ·have:=fa (xs:=xs) (i:=i) (by omega) h0;omega
  ·unfold sg;rw [if_neg h];omega
 obtain⟨kind,i',o',g1,g2,g3,g4,g5,g6⟩:=C1 (o:=o) (q:=i+sg xs i) hx (by omega) hle
 refine⟨kind,i',o',fun k hk=> ?_,by omega,g3,g4,fun h=>by have:=g5 h;omega,fun hn hN oN => ?_⟩
 ·obtain⟨k,rfl⟩:∃m,k=m+1:=⟨k - 1,by omega⟩
  unfold ab.f
  rw [bj hx h0 h1]
  simp only [Option.bind_some]
  have hj:=g1 k (by omega)
  unfold sg at hj
  by_cases h2:Lx.at_ xs i=43
  ·rw [if_pos h2]
   rw [if_pos (.inl h2)] at hj
   simp only [ab.j0,if_true]
   rw [fX (by omega) (by omega)]
   exact hj
  ·rw [if_neg h2]
   by_cases h3:Lx.at_ xs i=45
   ·rw [if_pos (.inr h3)] at hj
    simp only [ab.j0]
    rw [if_pos (by simpa using h3),fX (by omega) (by omega)]
    exact hj
   ·rw [if_neg (by omega),Int.add_zero] at hj
    simp only [ab.j0]
    rw [if_neg (by simpa using h3)]
    exact hj
 ·obtain⟨q1,q2,fd,e,a1,a2,a3,a4⟩:=g6 hn hN oN
  exact⟨e,⟨_,q1,q2,sb,fd,hsb,a1,a2,a3⟩,a4⟩
def vN (xs:List Int) (a:Int) (i' :Int):Prop:=
 (Lx.at_ xs (run Uc xs a)=41∧i' =run Uc xs a+1)∨(Ws (Lx.at_ xs (run Uc xs a))∧Lx.at_ xs (run Ws xs (run Uc xs a))=41∧i' =run Ws xs (run Uc xs a)+1)
theorem Yt {b:Int} (h1:b≠41) (h2:¬Ws b) (h3:¬(b=34∨b=39∨b=40)) (h4:¬(b≤8∨b=11∨(14≤b∧b≤31)∨b=127)) (h5:b≠92):Uc b:=by
 unfold Ws at h2
 unfold Uc
 simp
 omega
theorem GO (hx:Tx xs):∀(d:Nat) (j:Int) (o:Bool),0≤j→j≤xs.length→(xs.length:Int) - j≤d→∃kind i' o',(∀k,d+d+xs.length+xs.length+30≤k→an.l0 k xs j o=some (kind,i',o'))∧j≤i' ∧i' ≤xs.length∧(o=true→o' =true)∧
  (Nb xs→o' =false→kind=uQ∧vN xs j i'):=by
 have hl:=hx.len
 intro d
 induction d with
 | zero=>
  intro j o h0 h1 hd
  refine⟨uQ,j,true,fun k hk=> ?_,Int.le_refl _,h1,fun _=>rfl,fun _ h=>by cases h⟩
  obtain⟨k,rfl⟩:∃m,k=m+1:=⟨k - 1,by omega⟩
  simp only [an.l0,dw,Option.bind_some,decide_eq_true_eq]
  rw [if_pos (by omega)]
 | succ d ih=>
  intro j o h0 h1 hd
  by_cases h2:j≥xs.length
  ·refine⟨uQ,j,true,fun k hk=> ?_,Int.le_refl _,h1,fun _=>rfl,fun _ h=>by cases h⟩
   obtain⟨k,rfl⟩:∃m,k=m+1:=⟨k - 1,by omega⟩
   simp only [an.l0,dw,Option.bind_some,decide_eq_true_eq]
   rw [if_pos (by omega)]
  ·by_cases h3:Lx.at_ xs j=41
   ·refine⟨uQ,j+1,o,fun k hk=> ?_,by omega,by omega,id,fun _ _=>⟨rfl,?_⟩⟩
    ·obtain⟨k,rfl⟩:∃m,k=m+1:=⟨k - 1,by omega⟩
     simp only [an.l0,dw,Option.bind_some,decide_eq_true_eq]
     rw [if_neg h2,bj hx h0 h1]
     simp only [Option.bind_some]
     rw [if_pos h3,fX (by omega) (by omega)]
    ·have hr:run Uc xs j=j:=eI h0 h1 (by rw [h3];decide)
     unfold vN;rw [hr];exact .inl ⟨h3,rfl⟩
   ·by_cases h4:Ws (Lx.at_ xs j)
    ·have hr:run Uc xs j=j:=eI h0 h1 (by unfold Ws at h4;unfold Uc;simp;omega)
     have b1:=bL (f:=Ws) (bs:=xs) (p:=j)
     have b2:=ib (f:=Ws) (bs:=xs) (p:=j) h0 h1
     by_cases h5:Lx.at_ xs (run Ws xs j)=41
     ·have h6:run Ws xs j+1≤xs.length:=fa (by omega) (by omega)
      refine⟨uQ,run Ws xs j+1,o,fun k hk=> ?_,by omega,h6,id,fun _ _=>⟨rfl,?_⟩⟩
      ·obtain⟨k,rfl⟩:∃m,k=m+1:=⟨k - 1,by omega⟩
       simp only [an.l0,dw,Option.bind_some,decide_eq_true_eq]
       rw [if_neg h2,bj hx h0 h1]
       simp only [Option.bind_some]
       rw [if_neg h3,fO]
       simp only [Option.bind_some,decide_eq_true_eq]
       rw [if_pos h4,pG hx h0 h1 (by omega)]
       simp only [Option.bind_some]
       rw [bj hx (by omega) b2]
       simp only [Option.bind_some]
       rw [if_pos h5,fX (by omega) (by omega)]
      ·unfold vN;rw [hr];exact .inr ⟨h4,h5,rfl⟩
     ·refine⟨⟨#[98,97,100,32,117,114,108]⟩,run Ws xs j,true,fun k hk=> ?_,by omega,b2,fun _=>rfl,fun _ h=>by cases h⟩
      obtain⟨k,rfl⟩:∃m,k=m+1:=⟨k - 1,by omega⟩
      simp only [an.l0,dw,Option.bind_some,decide_eq_true_eq]
      rw [if_neg h2,bj hx h0 h1]
      simp only [Option.bind_some]
      rw [if_neg h3,fO]
      simp only [Option.bind_some,decide_eq_true_eq]
      rw [if_pos h4,pG hx h0 h1 (by omega)]
      simp only [Option.bind_some]
      rw [bj hx (by omega) b2]
      simp only [Option.bind_some]
      rw [if_neg h5]
      rfl
    ·
     have jC:∃b:Bool,(b=true↔((Lx.at_ xs j=34∨Lx.at_ xs j=39∨Lx.at_ xs j=40)∨(Lx.at_ xs j≤8∨Lx.at_ xs j=11∨(14≤Lx.at_ xs j∧Lx.at_ xs j≤31)∨Lx.at_ xs j=127)))∧
       ∀k,1≤k→an.l0 (k+1) xs j o=an.j1 k (Lx.at_ xs j) b xs j o:=by
      by_cases h5:Lx.at_ xs j=34∨Lx.at_ xs j=39∨Lx.at_ xs j=40
      ·refine⟨true,⟨fun _=> .inl h5,fun _=>rfl⟩,fun k hk=> ?_⟩
       simp only [an.l0,dw,Option.bind_some,decide_eq_true_eq]
       rw [if_neg h2,bj hx h0 h1]
       simp only [Option.bind_some]
       rw [if_neg h3,fO]
       simp only [Option.bind_some,decide_eq_true_eq]
       rw [if_neg h4]
       by_cases a:Lx.at_ xs j=34
       ·rw [if_pos a]
       ·rw [if_neg a]
        by_cases b:Lx.at_ xs j=39
        ·rw [if_pos b]
        ·rw [if_neg b,if_pos (by omega)]
      ·refine⟨decide (Lx.at_ xs j≤8∨Lx.at_ xs j=11∨(14≤Lx.at_ xs j∧Lx.at_ xs j≤31)∨Lx.at_ xs j=127),?_,fun k hk=> ?_⟩
       ·rw [decide_eq_true_eq]
        exact⟨.inr,fun h=>h.resolve_left h5⟩
       ·simp only [an.l0,dw,Option.bind_some,decide_eq_true_eq]
        rw [if_neg h2,bj hx h0 h1]
        simp only [Option.bind_some]
        rw [if_neg h3,fO]
        simp only [Option.bind_some,decide_eq_true_eq]
        rw [if_neg h4,if_neg (by omega),if_neg (by omega),if_neg (by omega),zT]
        simp only [Option.bind_some]
     obtain⟨b,hb,BZ⟩:=jC
     cases b with
     | true=>
      refine⟨⟨#[98,97,100,32,117,114,108]⟩,j,true,fun k hk=> ?_,by omega,h1,fun _=>rfl,fun _ h=>by cases h⟩
      obtain⟨k,rfl⟩:∃m,k=m+2:=⟨k - 2,by omega⟩
      rw [BZ (k+1) (by omega)]
      simp only [an.j1,if_true]
      rfl
     | false=>
      have dc:¬((Lx.at_ xs j=34∨Lx.at_ xs j=39∨Lx.at_ xs j=40)∨(Lx.at_ xs j≤8∨Lx.at_ xs j=11∨(14≤Lx.at_ xs j∧Lx.at_ xs j≤31)∨Lx.at_ xs j=127)):=fun h=>by have:=hb.2 h;cases this
      by_cases h6:Lx.at_ xs j=92
      ·obtain⟨b,o1,e1,e2,e3,e4⟩:=ie (o:=o) (n:=0) (i:=j) hx (by omega) (by omega) (by omega) (by omega) (by omega)
       rw [Int.add_zero] at e3 e4
       cases b with
       | true=>
        have e5:=e3 rfl
        obtain⟨i1,o2,f1,f2,f3,f4⟩:=pI (o:=o1) hx h0 e5.2
        obtain⟨kind,i',o',g1,g2,g3,g4,g5⟩:=ih i1 o2 (by omega) (by omega) (by omega)
        refine⟨kind,i',o',fun k hk=> ?_,by omega,g3,fun h=>g4 (f4 (e2 h)),fun hn=>absurd h6 (hn j)⟩
        obtain⟨k,rfl⟩:∃m,k=m+2:=⟨k - 2,by omega⟩
        rw [BZ (k+1) (by omega)]
        simp only [an.j1]
        rw [if_neg (by decide),if_pos h6,e1]
        simp only [Option.bind_some,if_true]
        rw [f1 k (by omega)]
        simp only [Option.bind_some]
        exact g1 k (by omega)
       | false=>
        refine⟨⟨#[98,97,100,32,117,114,108]⟩,j,true,fun k hk=> ?_,by omega,h1,fun _=>rfl,fun _ h=>by cases h⟩
        obtain⟨k,rfl⟩:∃m,k=m+2:=⟨k - 2,by omega⟩
        rw [BZ (k+1) (by omega)]
        simp only [an.j1]
        rw [if_neg (by decide),if_pos h6,e1]
        simp only [Option.bind_some]
        rw [if_neg (by decide)]
        rfl
      ·obtain⟨kind,i',o',g1,g2,g3,g4,g5⟩:=ih (j+1) o (by omega) (by omega) (by omega)
       refine⟨kind,i',o',fun k hk=> ?_,by omega,g3,g4,fun hn oN => ?_⟩
       ·obtain⟨k,rfl⟩:∃m,k=m+2:=⟨k - 2,by omega⟩
        rw [BZ (k+1) (by omega)]
        simp only [an.j1]
        rw [if_neg (by decide),if_neg h6,fX (by omega) (by omega)]
        exact g1 k (by omega)
       ·obtain⟨e1,e2⟩:=g5 hn oN
        refine⟨e1,?_⟩
        have hu:Uc (Lx.at_ xs j):=Yt h3 h4 (fun h=>dc (.inl h)) (fun h=>dc (.inr h)) h6
        unfold vN at*
        rw [fH h0 (by omega) hu]
        exact e2
theorem GP (hx:Tx xs) (h0:0≤i) (h1:i≤xs.length):∃kind i' o',(∀k,xs.length+xs.length+xs.length+xs.length+30≤k→an.f k xs i o=some (kind,i',o'))∧i≤i' ∧i' ≤xs.length∧(o=true→o' =true)∧
  (Nb xs→o' =false→kind=uQ∧xA (xs++ [0]) i i'):=by
 have hl:=hx.len
 have b1:=bL (f:=Ws) (bs:=xs) (p:=i)
 have b2:=ib (f:=Ws) (bs:=xs) (p:=i) h0 h1
 obtain⟨kind,i',o',g1,g2,g3,g4,g5⟩:=GO hx xs.length (run Ws xs i) o (by omega) b2 (by omega)
 refine⟨kind,i',o',fun k hk=> ?_,by omega,g3,g4,fun hn oN => ?_⟩
 ·unfold an.f
  rw [pG hx h0 h1 (by omega)]
  simp only [Option.bind_some]
  exact g1 k (by omega)
 ·obtain⟨e1,e2⟩:=g5 hn oN
  refine⟨e1,run Ws xs i,run Uc xs (run Ws xs i),(jB (by decide) h0 h1).symm,(jB uc0 (by omega) b2).symm,?_,?_,?_⟩
  ·rw [aY]
   simp only [beq_eq_false_iff_ne,ne_eq]
   intro h
   have hr:run Uc xs (run Ws xs i)=run Ws xs i:=eI (by omega) b2 (by rw [h];decide)
   unfold vN at e2
   rw [hr,h] at e2
   rcases e2 with ⟨h,_⟩|⟨h,_⟩
   ·revert h;decide
   ·revert h;decide
  ·rw [aY]
   simp only [beq_eq_false_iff_ne,ne_eq]
   intro h
   have hr:run Uc xs (run Ws xs i)=run Ws xs i:=eI (by omega) b2 (by rw [h];decide)
   unfold vN at e2
   rw [hr,h] at e2
   rcases e2 with ⟨h,_⟩|⟨h,_⟩
   ·revert h;decide
   ·revert h;decide
  ·have b3:=bL (f:=Uc) (bs:=xs) (p:=run Ws xs i)
   have b4:=ib (f:=Uc) (bs:=xs) (p:=run Ws xs i) (by omega) b2
   rw [aY,jB (f:=Ws) (by decide) (by omega) b4,aY]
   exact e2
end
abbrev ta:ByteArray:=⟨#[105,100,101,110,116]⟩
abbrev MB:ByteArray:=⟨#[102,117,110,99,116,105,111,110]⟩
abbrev kAt:ByteArray:=⟨#[97,116]⟩
abbrev QE:ByteArray:=⟨#[104,97,115,104]⟩
abbrev oO:ByteArray:=⟨#[100,101,108,105,109]⟩
abbrev xC:ByteArray:=⟨#[98,108,97,110,107]⟩
inductive Kc:ByteArray→Int→Prop where
 | ident:Kc ta 1
 | fn:Kc MB 2
 | at_:Kc kAt 3
 | hash:Kc QE 4
 | str:Kc zU 5
 | url:Kc uQ 7
 | num:Kc TM 10
 | pct:Kc TK 11
 | dim:Kc TJ 12
 | lp:Kc ⟨#[40]⟩ 28
 | rp:Kc ⟨#[41]⟩ 29
 | lb:Kc ⟨#[91]⟩ 26
 | rb:Kc ⟨#[93]⟩ 27
 | lc:Kc ⟨#[123]⟩ 30
 | rc:Kc ⟨#[125]⟩ 31
 | colon:Kc ⟨#[58]⟩ 23
 | sV:Kc ⟨#[59]⟩ 24
 | comma:Kc ⟨#[44]⟩ 25
 | m1:Kc ⟨#[126,61]⟩ 14
 | m2:Kc ⟨#[124,61]⟩ 15
 | m3:Kc ⟨#[94,61]⟩ 16
 | m4:Kc ⟨#[36,61]⟩ 17
 | m5:Kc ⟨#[42,61]⟩ 18
inductive Ko:ByteArray→Prop where
 | blank:Ko xC
 | com:Ko CW
 | ran:Ko xB
 | cdc:Ko ⟨#[45,45,62]⟩
 | cdo:Ko ⟨#[60,33,45,45]⟩
 | col:Ko ⟨#[124,124]⟩
def ja (b:Int):Prop:=b=42∨b=126∨b=46∨b=43∨b=62∨b=61
def GQ (xs:List Int) (i:Int) (kind:ByteArray) (i' :Int):Prop:=
 (∃t,Kc kind t∧Tok (xs++ [0]) i t i')∨Ko kind∨(kind=oO∧i' =i+1∧(ja (at_ xs i)→Tok (xs++ [0]) i 9 (i+1)))
section
variable {xs:List Int} {i n c nx q p:Int} {o:Bool} {k:Nat}
theorem Yu (xs:List Int) (c:Int) (hl:xs.length≤140737488355328):∀(d:Nat) (j:Nat),j≤xs.length→xs.length - j≤d→∃b,(∀k,d+1≤k→cD.l0 k c xs (xs.length:Int) (j:Int)=some b)∧(b=true↔∃m:Nat,j≤m∧m<xs.length∧xs.getD m 0=c):=by
 intro d
 induction d with
 | zero=>
  intro j h1 hd
  refine⟨false,fun k hk=> ?_,⟨(fun h=>by cases h),fun ⟨m,a,b,_⟩=>by omega⟩⟩
  obtain⟨k,rfl⟩:∃m,k=m+1:=⟨k - 1,by omega⟩
  simp only [cD.l0]
  rw [if_neg (by omega)]
 | succ d ih=>
  intro j h1 hd
  by_cases h2:j<xs.length
  ·by_cases h3:rd xs (j:Int)=c
   ·refine⟨true,fun k hk=> ?_,⟨fun _=>⟨j,Nat.le_refl _,h2,by simpa [rd] using h3⟩,fun _=>rfl⟩⟩
    obtain⟨k,rfl⟩:∃m,k=m+1:=⟨k - 1,by omega⟩
    simp only [cD.l0]
    rw [if_pos (by omega),if_pos (by omega),if_pos (by omega),if_pos h3]
   ·obtain⟨b,hb,dc⟩:=ih (j+1) (by omega) (by omega)
    refine⟨b,fun k hk=> ?_,dc.trans ⟨fun ⟨m,a,e⟩=>⟨m,by omega,e⟩,fun ⟨m,a,e,f⟩=>⟨m,?_,e,f⟩⟩⟩
    ·obtain⟨k,rfl⟩:∃m,k=m+1:=⟨k - 1,by omega⟩
     simp only [cD.l0]
     rw [if_pos (by omega),if_pos (by omega),if_pos (by omega),if_neg h3,fX (by omega) (by omega)]
     have:=hb k (by omega)
     rwa [show ((j+1:Nat):Int)=(j:Int)+1 by omega] at this
    ·rcases Nat.lt_or_ge j m with h|h
     ·omega
     ·obtain rfl:m=j:=by omega
      exact absurd (by simpa [rd] using f) h3
  ·refine⟨false,fun k hk=> ?_,⟨(fun h=>by cases h),fun ⟨m,a,b,_⟩=>by omega⟩⟩
   obtain⟨k,rfl⟩:∃m,k=m+1:=⟨k - 1,by omega⟩
   simp only [cD.l0]
   rw [if_neg (by omega)]
theorem vO (xs:List Int) (c:Int) (hl:xs.length≤140737488355328):∃b,(∀k,xs.length+1≤k→cD.f k xs c=some b)∧(b=true↔∃m:Nat,m<xs.length∧xs.getD m 0=c):=by
 obtain⟨b,h1,h2⟩:=Yu xs c hl xs.length 0 (by omega) (by omega)
 exact⟨b,fun k hk=>h1 k hk,h2.trans ⟨fun ⟨m,_,h⟩=>⟨m,h⟩,fun ⟨m,h⟩=>⟨m,Nat.zero_le _,h⟩⟩⟩
theorem Fj (h0:0≤c) (h1:c≤255):dY.f c=some (if 65≤c∧c≤90 then c+32 else c):=by
 unfold dY.f
 by_cases h2:c≥65
 ·by_cases h3:c≤90
  ·rw [if_pos h2,if_pos h3,if_pos ⟨h2,h3⟩]
   congr 1
   omega
  ·rw [if_pos h2,if_neg h3,if_neg (by omega)]
 ·rw [if_neg h2,if_neg (by omega)]
theorem z7 (ys zs:List Int) (hy:∀j:Nat,0≤ys.getD j 0∧ys.getD j 0≤255) (he:ys.length=zs.length) (hl:ys.length≤140737488355328):∀(d:Nat) (j:Nat),j≤ys.length→ys.length - j≤d→
  ∃b,(∀k,d+1≤k→bx.l0 k zs ys (ys.length:Int) (j:Int)=some b)∧(b=true↔∀m:Nat,j≤m→m<ys.length→(if 65≤ys.getD m 0∧ys.getD m 0≤90 then ys.getD m 0+32 else ys.getD m 0)=zs.getD m 0):=by
 intro d
 induction d with
 | zero=>
  intro j h1 hd
  refine⟨true,fun k hk=> ?_,⟨fun _ m a b=>by omega,fun _=>rfl⟩⟩
  obtain⟨k,rfl⟩:∃m,k=m+1:=⟨k - 1,by omega⟩
  simp only [bx.l0]
  rw [if_neg (by omega)]
 | succ d ih=>
  intro j h1 hd
  by_cases h2:j<ys.length
  ·have hyj:=hy j
   have hr:rd ys (j:Int)=ys.getD j 0:=by simp [rd]
   have hz:rd zs (j:Int)=zs.getD j 0:=by simp [rd]
   by_cases h3:(if 65≤ys.getD j 0∧ys.getD j 0≤90 then ys.getD j 0+32 else ys.getD j 0)=zs.getD j 0
   ·obtain⟨b,hb,dc⟩:=ih (j+1) (by omega) (by omega)
    refine⟨b,fun k hk=> ?_,dc.trans ⟨fun h m a e=> ?_,fun h m a e=>h m (by omega) e⟩⟩
    ·obtain⟨k,rfl⟩:∃m,k=m+1:=⟨k - 1,by omega⟩
     simp only [bx.l0]
     rw [if_pos (by omega),if_pos (by omega),if_pos (by omega),hr,Fj hyj.1 hyj.2]
     simp only [Option.bind_some]
     rw [if_pos (by omega),hz,if_pos h3,fX (by omega) (by omega)]
     have:=hb k (by omega)
     rwa [show ((j+1:Nat):Int)=(j:Int)+1 by omega] at this
    ·rcases Nat.lt_or_ge j m with h'|h'
     ·exact h m (by omega) e
     ·obtain rfl:m=j:=by omega
      exact h3
   ·refine⟨false,fun k hk=> ?_,⟨(fun h=>by cases h),fun h=>absurd (h j (Nat.le_refl _) h2) h3⟩⟩
    obtain⟨k,rfl⟩:∃m,k=m+1:=⟨k - 1,by omega⟩
    simp only [bx.l0]
    rw [if_pos (by omega),if_pos (by omega),if_pos (by omega),hr,Fj hyj.1 hyj.2]
    simp only [Option.bind_some]
    rw [if_pos (by omega),hz,if_neg h3]
  ·refine⟨true,fun k hk=> ?_,⟨fun _ m a b=>by omega,fun _=>rfl⟩⟩
   obtain⟨k,rfl⟩:∃m,k=m+1:=⟨k - 1,by omega⟩
   simp only [bx.l0]
   rw [if_neg (by omega)]
theorem N6 (ys:List Int) (hy:∀j:Nat,0≤ys.getD j 0∧ys.getD j 0≤255) (hl:ys.length≤140737488355328):∃b,(∀k,ys.length+1≤k→bx.f k ys [117,114,108]=some b)∧(b=true↔gC ys):=by
 by_cases h:ys.length=3
 ·obtain⟨b,h1,h2⟩:=z7 ys [117,114,108] hy h hl ys.length 0 (by omega) (by omega)
  refine⟨b,fun k hk=> ?_,h2.trans ⟨fun hm=>⟨h,?_,?_,?_⟩,fun hu m _ e=> ?_⟩⟩
  ·unfold bx.f
   rw [if_pos (by rw [h];rfl)]
   exact h1 k hk
  ·have:=hm 0 (Nat.le_refl _) (by omega)
   have h4:=hy 0
   simp only [List.getD_cons_zero] at this
   unfold Fa
   split at this<;>omega
  ·have:=hm 1 (by omega) (by omega)
   have h4:=hy 1
   simp only [List.getD_cons_succ,List.getD_cons_zero] at this
   unfold Fa
   split at this<;>omega
  ·have:=hm 2 (by omega) (by omega)
   have h4:=hy 2
   simp only [List.getD_cons_succ,List.getD_cons_zero] at this
   unfold Fa
   split at this<;>omega
  ·obtain⟨_,u0,u1,u2⟩:=hu
   unfold Fa at u0 u1 u2
   have hm:m=0∨m=1∨m=2:=by omega
   rcases hm with rfl|rfl|rfl
   ·simp only [List.getD_cons_zero]
    split<;>omega
   ·simp only [List.getD_cons_succ,List.getD_cons_zero]
    split<;>omega
   ·simp only [List.getD_cons_succ,List.getD_cons_zero]
    split<;>omega
 ·refine⟨false,fun k hk=> ?_,⟨(fun h=>by cases h),fun hu=>absurd hu.1 h⟩⟩
  unfold bx.f
  rw [if_neg (by simp;omega)]
def N7 (xs:List Int) (i:Int) (o:Bool) (K:Nat) (f:Nat→Option (ByteArray×Int×Bool)):Prop:=
 ∃kind i' o',(∀k,K≤k→f k=some (kind,i',o'))∧i<i' ∧i' ≤xs.length∧(o=true→o' =true)∧(Nb xs→¬gN xs i→o' =false→GQ xs i kind i')
theorem N7.up {K K' :Nat} {f g:Nat→Option (ByteArray×Int×Bool)} (h:N7 xs i o K f) (hK:K<K') (hg:∀k,g (k+1)=f k):N7 xs i o K' g:=by
 obtain⟨kind,i',o',h1,h2⟩:=h
 refine⟨kind,i',o',fun k hk=> ?_,h2⟩
 obtain⟨k,rfl⟩:∃m,k=m+1:=⟨k - 1,by omega⟩
 rw [hg]
 exact h1 k (by omega)
theorem rN (hx:Tx xs) (h0:0≤i) (h1:i<xs.length) (b:Bool) (hb:b=true→i+4≤xs.length) (hm:(Lx.at_ xs i=42∨Lx.at_ xs i=126)→Lx.at_ xs (i+1)≠61):N7 xs i o 20 (fun k=>ag.j4 k (Lx.at_ xs i) b xs i o):=by
 have hl:=hx.len
 cases b with
 | true=>
  have hb:=hb rfl
  refine⟨⟨#[60,33,45,45]⟩,i+4,o,fun k hk=> ?_,by omega,hb,id,fun _ _ _=> .inr (.inl .cdo)⟩
  obtain⟨k,rfl⟩:∃m,k=m+1:=⟨k - 1,by omega⟩
  simp only [ag.j4,if_true]
  rw [fX (by omega) (by omega)]
 | false=>
  obtain⟨b,eW,dc⟩:=vO [40,41,44,58,59,91,93,123,125] (Lx.at_ xs i) (by decide)
  cases b with
  | true=>
   obtain⟨m,TN,oP⟩:=dc.1 rfl
   refine⟨strOfNums [Lx.at_ xs i],i+1,o,fun k hk=> ?_,by omega,by omega,id,fun _ _ _=> .inl ?_⟩
   ·obtain⟨k,rfl⟩:∃m,k=m+1:=⟨k - 1,by omega⟩
    simp only [ag.j4]
    rw [if_neg (by decide),eW k (by simp;omega)]
    simp only [Option.bind_some,if_true]
    unfold bF.f
    rw [fX (by omega) (by omega)]
    rfl
   ·have e:Lx.at_ (xs++ [0]) i=Lx.at_ xs i:=aY xs i
    have hm3:m<9:=TN
    clear eW dc
    rcases m with _|_|_|_|_|_|_|_|_|m
    ·simp at oP;rw [←oP];exact⟨28,.lp,.bracket _ (.inl ⟨by rw [e,←oP],rfl⟩)⟩
    ·simp at oP;rw [←oP];exact⟨29,.rp,.bracket _ (.inr (.inl ⟨by rw [e,←oP],rfl⟩))⟩
    ·simp at oP;rw [←oP];exact⟨25,.comma,.comma (by rw [e,←oP])⟩
    ·simp at oP;rw [←oP];exact⟨23,.colon,.colon (by rw [e,←oP])⟩
    ·simp at oP;rw [←oP];exact⟨24,.sV,.sV (by rw [e,←oP])⟩
    ·simp at oP;rw [←oP];exact⟨26,.lb,.bracket _ (.inr (.inr (.inl ⟨by rw [e,←oP],rfl⟩)))⟩
    ·simp at oP;rw [←oP];exact⟨27,.rb,.bracket _ (.inr (.inr (.inr (.inl ⟨by rw [e,←oP],rfl⟩))))⟩
    ·simp at oP;rw [←oP];exact⟨30,.lc,.bracket _ (.inr (.inr (.inr (.inr (.inl ⟨by rw [e,←oP],rfl⟩)))))⟩
    ·simp at oP;rw [←oP];exact⟨31,.rc,.bracket _ (.inr (.inr (.inr (.inr (.inr ⟨by rw [e,←oP],rfl⟩)))))⟩
    ·omega
  | false=>
   refine⟨oO,i+1,o,fun k hk=> ?_,by omega,by omega,id,fun _ hN _=> .inr (.inr ⟨rfl,rfl,fun hd=> ?_⟩)⟩
   ·obtain⟨k,rfl⟩:∃m,k=m+1:=⟨k - 1,by omega⟩
    simp only [ag.j4]
    rw [if_neg (by decide),eW k (by simp;omega)]
    simp only [Option.bind_some]
    rw [if_neg (by decide)]
    unfold bF.f
    rw [fX (by omega) (by omega)]
    rfl
   ·have e:Lx.at_ (xs++ [0]) i=Lx.at_ xs i:=aY xs i
    have e1:Lx.at_ (xs++ [0]) (i+1)=Lx.at_ xs (i+1):=aY xs (i+1)
    have Yv:(Lx.at_ xs i=46∨Lx.at_ xs i=43)→mm (xs++ [0]) i:=by
     intro h
     obtain⟨b,hs⟩:=CY (xs++ [0]) i
     have es:sg (xs++ [0]) i=sg xs i:=by unfold sg;rw [e]
     rw [es] at hs
     unfold gN at hN
     refine⟨_,b,hs,by rw [aY];exact fun h=>hN (.inl h),?_⟩
     rw [aY,aY]
     by_cases h46:Lx.at_ xs (i+sg xs i)=46
     ·exact .inr ⟨h46,fun h=>hN (.inr ⟨h46,h⟩)⟩
     ·exact .inl (by simpa using h46)
    unfold ja at hd
    rcases hd with hd|hd|hd|hd|hd|hd
    ·exact .star (by rw [e];exact .inl hd) (by rw [e1];simpa using hm (.inl hd))
    ·exact .star (by rw [e];exact .inr hd) (by rw [e1];simpa using hm (.inr hd))
    ·exact .dot (by rw [e];exact .inl hd) (Yv (.inl hd))
    ·exact .dot (by rw [e];exact .inr hd) (Yv (.inr hd))
    ·exact .gt (by rw [e];exact .inl hd)
    ·exact .gt (by rw [e];exact .inr hd)
theorem xD (hx:Tx xs) (h0:0≤i) (h1:i<xs.length) (b:Bool) (hb:b=true↔(Lx.at_ xs (i+1)=61∧(Lx.at_ xs i=126∨Lx.at_ xs i=124∨Lx.at_ xs i=94∨Lx.at_ xs i=36∨Lx.at_ xs i=42))):
  N7 xs i o 21 (fun k=>ag.j3 k (Lx.at_ xs i) (Lx.at_ xs (i+1)) b xs i o):=by
 have hl:=hx.len
 cases b with
 | true=>
  obtain⟨h2,h3⟩:=hb.1 rfl
  have h4:i+1+1≤xs.length:=fa (by omega) (by omega)
  refine⟨strOfNums [Lx.at_ xs i,61],i+2,o,fun k hk=> ?_,by omega,by omega,id,fun _ _ _=> .inl ?_⟩
  ·obtain⟨k,rfl⟩:∃m,k=m+1:=⟨k - 1,by omega⟩
   simp only [ag.j3,if_true]
   unfold bU.f
   rw [fX (by omega) (by omega)]
   rfl
  ·have e:Lx.at_ (xs++ [0]) i=Lx.at_ xs i:=aY xs i
   have e1:Lx.at_ (xs++ [0]) (i+1)=61:=by rw [aY];exact h2
   rcases h3 with h3|h3|h3|h3|h3
   ·rw [h3];exact⟨14,.m1,.JG _ (.inl ⟨by rw [e,h3],rfl⟩) e1⟩
   ·rw [h3];exact⟨15,.m2,.JG _ (.inr (.inl ⟨by rw [e,h3],rfl⟩)) e1⟩
   ·rw [h3];exact⟨16,.m3,.JG _ (.inr (.inr (.inl ⟨by rw [e,h3],rfl⟩))) e1⟩
   ·rw [h3];exact⟨17,.m4,.JG _ (.inr (.inr (.inr (.inl ⟨by rw [e,h3],rfl⟩)))) e1⟩
   ·rw [h3];exact⟨18,.m5,.JG _ (.inr (.inr (.inr (.inr ⟨by rw [e,h3],rfl⟩)))) e1⟩
 | false=>
  have hm:(Lx.at_ xs i=42∨Lx.at_ xs i=126)→Lx.at_ xs (i+1)≠61:=by
   intro h h2
   have:=hb.2 ⟨h2,by omega⟩
   cases this
  by_cases h2:Lx.at_ xs i=60
  ·by_cases h3:Lx.at_ xs (i+1)=33
   ·by_cases h4:Lx.at_ xs (i+2)=45
    ·refine(rN hx h0 h1 (Lx.at_ xs (i+3)==45) (fun h=> ?_) hm).up (by omega) (fun k=> ?_)
     ·have:Lx.at_ xs (i+3)=45:=by simpa using h
      have:=fa (xs:=xs) (i:=i+3) (by omega) (by omega)
      omega
     ·show ag.j3 (k+1) _ _ _ _ _ _=_
      simp only [ag.j3]
      rw [if_neg (by decide),if_pos h2,if_pos h3,cN hx (by omega) (by omega)]
      simp only [Option.bind_some]
      rw [if_pos h4,cN hx (by omega) (by omega)]
      rfl
    ·refine(rN hx h0 h1 false (fun h=>by cases h) hm).up (by omega) (fun k=> ?_)
     show ag.j3 (k+1) _ _ _ _ _ _=_
     simp only [ag.j3]
     rw [if_neg (by decide),if_pos h2,if_pos h3,cN hx (by omega) (by omega)]
     simp only [Option.bind_some]
     rw [if_neg h4]
   ·refine(rN hx h0 h1 false (fun h=>by cases h) hm).up (by omega) (fun k=> ?_)
    show ag.j3 (k+1) _ _ _ _ _ _=_
    simp only [ag.j3]
    rw [if_neg (by decide),if_pos h2,if_neg h3]
  ·refine(rN hx h0 h1 false (fun h=>by cases h) hm).up (by omega) (fun k=> ?_)
   show ag.j3 (k+1) _ _ _ _ _ _=_
   simp only [ag.j3]
   rw [if_neg (by decide),if_neg h2]
theorem Fk (hx:Tx xs) (h0:0≤i) (h1:i<xs.length) (b:Bool) (hb:b=true→Lx.at_ xs (i+1)≠0):
  N7 xs i o 22 (fun k=>ag.j2 k (Lx.at_ xs i) (Lx.at_ xs (i+1)) b xs i o):=by
 have hl:=hx.len
 cases b with
 | true=>
  have h4:i+1+1≤xs.length:=fa (hb rfl) (by omega)
  refine⟨⟨#[124,124]⟩,i+2,o,fun k hk=> ?_,by omega,by omega,id,fun _ _ _=> .inr (.inl .col)⟩
  obtain⟨k,rfl⟩:∃m,k=m+1:=⟨k - 1,by omega⟩
  simp only [ag.j2,if_true]
  unfold bU.f
  rw [fX (by omega) (by omega)]
  rfl
 | false=>
  by_cases h2:Lx.at_ xs (i+1)=61
  ·by_cases h3:Lx.at_ xs i=126∨Lx.at_ xs i=124∨Lx.at_ xs i=94∨Lx.at_ xs i=36
   ·refine(xD hx h0 h1 true ⟨fun _=>⟨h2,by omega⟩,fun _=>rfl⟩).up (by omega) (fun k=> ?_)
    show ag.j2 (k+1) _ _ _ _ _ _=_
    simp only [ag.j2]
    rw [if_neg (by decide),if_pos h2]
    by_cases a:Lx.at_ xs i=126
    ·rw [if_pos a]
    ·rw [if_neg a]
     by_cases b:Lx.at_ xs i=124
     ·rw [if_pos b]
     ·rw [if_neg b]
      by_cases c:Lx.at_ xs i=94
      ·rw [if_pos c]
      ·rw [if_neg c,if_pos (by omega)]
   ·refine(xD hx h0 h1 (Lx.at_ xs i==42) ⟨fun h=>⟨h2,by have:Lx.at_ xs i=42:=(by simpa using h);omega⟩,fun h=>by simp;omega⟩).up (by omega) (fun k=> ?_)
    show ag.j2 (k+1) _ _ _ _ _ _=_
    simp only [ag.j2]
    rw [if_neg (by decide),if_pos h2,if_neg (by omega),if_neg (by omega),if_neg (by omega),if_neg (by omega)]
  ·refine(xD hx h0 h1 false ⟨(fun h=>by cases h),fun h=>absurd h.1 h2⟩).up (by omega) (fun k=> ?_)
   show ag.j2 (k+1) _ _ _ _ _ _=_
   simp only [ag.j2]
   rw [if_neg (by decide),if_neg h2]
theorem Fl (hx:Tx xs) (h0:0≤i) (h1:i<xs.length) (b:Bool) (hb:b=true→Lx.at_ xs i=64∧(Nb xs→lr xs (i+1))):
  N7 xs i o (xs.length+xs.length+60) (fun k=>ag.j1 k (Lx.at_ xs i) (Lx.at_ xs (i+1)) b xs i o):=by
 have hl:=hx.len
 cases b with
 | true=>
  obtain⟨h2,h3⟩:=hb rfl
  obtain⟨i',o',g1,g2,g3,g4,g5,g6⟩:=qx (o:=o) (i:=i+1) hx (by omega) (by omega)
  refine⟨kAt,i',o',fun k hk=> ?_,by omega,g3,g4,fun hn _ _=> .inl ⟨3,.at_,?_⟩⟩
  ·obtain⟨k,rfl⟩:∃m,k=m+1:=⟨k - 1,by omega⟩
   simp only [ag.j1,if_true]
   rw [fX (by omega) (by omega),g1 k (by omega)]
   rfl
  ·rw [(g6 hn).1,←jB (f:=Nm) (by decide) (by omega) (by omega)]
   refine .TH (by rw [aY];exact h2) ?_
   have h4:=h3 hn
   unfold lr at*
   rw [aY,aY]
   exact h4
 | false=>
  by_cases h2:Lx.at_ xs i=124
  ·refine(Fk hx h0 h1 (Lx.at_ xs (i+1)==124) (fun h=>by have:Lx.at_ xs (i+1)=124:=(by simpa using h);omega)).up (by omega) (fun k=> ?_)
   show ag.j1 (k+1) _ _ _ _ _ _=_
   simp only [ag.j1]
   rw [if_neg (by decide),if_pos h2]
  ·refine(Fk hx h0 h1 false (fun h=>by cases h)).up (by omega) (fun k=> ?_)
   show ag.j1 (k+1) _ _ _ _ _ _=_
   simp only [ag.j1]
   rw [if_neg (by decide),if_neg h2]
theorem xE (hx:Tx xs) (h0:0≤i) (h1:i<xs.length) (b:Bool) (hb:b=true→Lx.at_ xs i=35∧(Nb xs→Nm (Lx.at_ xs (i+1)))):
  N7 xs i o (xs.length+xs.length+61) (fun k=>ag.j0 k (Lx.at_ xs i) (Lx.at_ xs (i+1)) b xs i o):=by
 have hl:=hx.len
 cases b with
 | true=>
  obtain⟨h2,h3⟩:=hb rfl
  obtain⟨i',o',g1,g2,g3,g4,g5,g6⟩:=qx (o:=o) (i:=i+1) hx (by omega) (by omega)
  refine⟨QE,i',o',fun k hk=> ?_,by omega,g3,g4,fun hn _ _=> .inl ⟨4,.hash,?_⟩⟩
  ·obtain⟨k,rfl⟩:∃m,k=m+1:=⟨k - 1,by omega⟩
   simp only [ag.j0,if_true]
   rw [fX (by omega) (by omega),g1 k (by omega)]
   rfl
  ·rw [(g6 hn).1,←jB (f:=Nm) (by decide) (by omega) (by omega)]
   exact .hash (by rw [aY];exact h2) (by rw [aY];exact h3 hn)
 | false=>
  by_cases h2:Lx.at_ xs i=64
  ·obtain⟨b,o1,a1,a2,a3,a4,a5⟩:=lO (o:=o) (n:=1) (i:=i) hx h0 (by omega) (by omega) (by omega)
   obtain⟨kind,i',o',g1,g2,g3,g4,g5⟩:=Fl (o:=o1) hx h0 h1 b (fun h=>⟨h2,fun hn=>((a5 hn).1.1 h)⟩)
   refine⟨kind,i',o',fun k hk=> ?_,g2,g3,fun h=>g4 (a2 h),g5⟩
   obtain⟨k,rfl⟩:∃m,k=m+1:=⟨k - 1,by omega⟩
   simp only [ag.j0]
   rw [if_neg (by decide),if_pos h2,a1 k (by omega)]
   simp only [Option.bind_some]
   exact g1 k (by omega)
  ·refine(Fl hx h0 h1 false (fun h=>by cases h)).up (by omega) (fun k=> ?_)
   show ag.j0 (k+1) _ _ _ _ _ _=_
   simp only [ag.j0]
   rw [if_neg (by decide),if_neg h2]
theorem TO (hx:Tx xs) (h0:0≤i) (h1:i<xs.length):N7 xs i o (xs.length+xs.length+61) (fun k=>ag.f k xs i o (Lx.at_ xs i) (Lx.at_ xs (i+1))):=by
 have hl:=hx.len
 by_cases h2:Lx.at_ xs i=35
 ·by_cases h3:Nm (Lx.at_ xs (i+1))
  ·obtain⟨kind,i',o',g1,g2⟩:=xE (o:=o) hx h0 h1 true (fun _=>⟨h2,fun _=>h3⟩)
   refine⟨kind,i',o',fun k hk=> ?_,g2⟩
   show ag.f k _ _ _ _ _=_
   unfold ag.f
   rw [if_pos h2,fP]
   simp only [Option.bind_some,decide_eq_true_eq]
   rw [if_pos h3]
   exact g1 k hk
  ·obtain⟨b,o1,e1,e2,e3,e4⟩:=ie (o:=o) (n:=1) (i:=i) hx (by omega) (by omega) (by omega) (by omega) (by omega)
   obtain⟨kind,i',o',g1,g2,g3,g4,g5⟩:=xE (o:=o1) hx h0 h1 b (fun h=>⟨h2,fun hn=>absurd (e3 h).1 (hn _)⟩)
   refine⟨kind,i',o',fun k hk=> ?_,g2,g3,fun h=>g4 (e2 h),g5⟩
   show ag.f k _ _ _ _ _=_
   unfold ag.f
   rw [if_pos h2,fP]
   simp only [Option.bind_some,decide_eq_true_eq]
   rw [if_neg h3,e1]
   simp only [Option.bind_some]
   exact g1 k hk
 ·obtain⟨kind,i',o',g1,g2⟩:=xE (o:=o) hx h0 h1 false (fun h=>by cases h)
  refine⟨kind,i',o',fun k hk=> ?_,g2⟩
  show ag.f k _ _ _ _ _=_
  unfold ag.f
  rw [if_neg h2]
  exact g1 k hk
end
def dp (x:Option (ByteArray×Int×Bool)):Prop:=∀r,x=some r→r.1.size≤16
theorem dp.none_:dp none:=fun r h=>by cases h
theorem dp.some_ {a:ByteArray} {b:Int×Bool} (h:a.size≤16):dp (some (a,b)):=fun r e=>by injection e with e;subst e;exact h
theorem dp.gD {α:Type} {x:Option α} {f:α→Option (ByteArray×Int×Bool)} (h:∀a,dp (f a)):dp (x.bind f):=fun r e=>by
 obtain⟨a,_,ha⟩:=Option.bind_eq_some_iff.1 e
 exact h a r ha
theorem dp.jL {c:Prop} [Decidable c] {x y:Option (ByteArray×Int×Bool)} (hx:dp x) (hy:dp y):dp (if c then x else y):=by split<;>assumption
theorem vP:∀k,(∀q xs i o,dp (aq.l0 k q xs i o))∧(∀q b xs i o,dp (aq.j1 k q b xs i o))
 | 0=>⟨fun _ _ _ _=>dp.none_,fun _ _ _ _ _=>dp.none_⟩
 | k+1=>by
  obtain⟨Yw,Yx⟩:=vP k
  constructor
  ·intro q xs i o
   simp only [aq.l0]
   repeat' (first|exact Yw _ _ _ _|exact Yx _ _ _ _ _|exact dp.some_ (by decide)|exact dp.none_|refine dp.jL ?_ ?_|(refine dp.gD fun _=> ?_))
  ·intro q b xs i o
   simp only [aq.j1]
   repeat' (first|exact Yw _ _ _ _|exact Yx _ _ _ _ _|exact dp.some_ (by decide)|exact dp.none_|refine dp.jL ?_ ?_|(refine dp.gD fun _=> ?_))
theorem C3 (k:Nat) (xs:List Int) (i:Int) (o:Bool):dp (aq.f k xs i o):=by
 unfold aq.f
 exact dp.gD fun _=>(vP k).1 _ _ _ _
theorem z8 (xs:List Int) (i:Int) (o:Bool):dp (ba.f xs i o):=by unfold ba.f;exact dp.some_ (by decide)
theorem nV {x:Option (ByteArray×Int×Bool)} (h:dp x):dp (x.bind fun bt=>some (bt.1,bt.2.1,bt.2.2)):=fun r e=>by
 obtain⟨a,ha,e⟩:=Option.bind_eq_some_iff.1 e
 injection e with e
 subst e
 exact h a ha
theorem tc:∀k,(∀xs i o,dp (an.l0 k xs i o))∧(∀c b xs i o,dp (an.j1 k c b xs i o))
 | 0=>⟨fun _ _ _=>dp.none_,fun _ _ _ _ _=>dp.none_⟩
 | k+1=>by
  obtain⟨Yw,Yx⟩:=tc k
  constructor
  ·intro xs i o
   simp only [an.l0]
   repeat' (first|exact Yw _ _ _|exact Yx _ _ _ _ _|exact dp.some_ (by decide)|exact nV (z8 _ _ _)|refine dp.jL ?_ ?_|(refine dp.gD fun _=> ?_))
  ·intro c b xs i o
   simp only [an.j1]
   repeat' (first|exact Yw _ _ _|exact Yx _ _ _ _ _|exact dp.some_ (by decide)|exact nV (z8 _ _ _)|refine dp.jL ?_ ?_|(refine dp.gD fun _=> ?_))
theorem Ag (k:Nat) (xs:List Int) (i:Int) (o:Bool):dp (an.f k xs i o):=by
 unfold an.f
 exact dp.gD fun _=>(tc k).1 _ _ _
theorem qW:∀k xs i o,dp (ab.j7 k xs i o)
 | 0,_,_,_=>dp.none_
 | k+1,xs,i,o=>by
  simp only [ab.j7]
  repeat' (first|exact dp.some_ (by decide)|refine dp.jL ?_ ?_|(refine dp.gD fun _=> ?_))
theorem Ah:∀k n xs i o,dp (ab.j6 k n xs i o)
 | 0,_,_,_,_=>dp.none_
 | k+1,n,xs,i,o=>by
  simp only [ab.j6]
  repeat' (first|exact qW _ _ _ _|refine dp.jL ?_ ?_|(refine dp.gD fun _=> ?_))
theorem Ai:∀k n b xs i o,dp (ab.j5 k n b xs i o)
 | 0,_,_,_,_,_=>dp.none_
 | k+1,n,b,xs,i,o=>by
  simp only [ab.j5]
  repeat' (first|exact Ah _ _ _ _ _|refine dp.jL ?_ ?_|(refine dp.gD fun _=> ?_))
theorem Aj:∀k b xs i o,dp (ab.j4 k b xs i o)
 | 0,_,_,_,_=>dp.none_
 | k+1,b,xs,i,o=>by
  simp only [ab.j4]
  repeat' (first|exact Ai _ _ _ _ _ _|exact qW _ _ _ _|refine dp.jL ?_ ?_|(refine dp.gD fun _=> ?_))
theorem Ak:∀k xs i o,dp (ab.j3 k xs i o)
 | 0,_,_,_=>dp.none_
 | k+1,xs,i,o=>by
  simp only [ab.j3]
  repeat' (first|exact Aj _ _ _ _ _|refine dp.jL ?_ ?_|(refine dp.gD fun _=> ?_))
theorem Al:∀k b xs i o,dp (ab.j2 k b xs i o)
 | 0,_,_,_,_=>dp.none_
 | k+1,b,xs,i,o=>by
  simp only [ab.j2]
  repeat' (first|exact Ak _ _ _ _|refine dp.jL ?_ ?_|(refine dp.gD fun _=> ?_))
theorem Ap:∀k xs i o,dp (ab.j1 k xs i o)
 | 0,_,_,_=>dp.none_
 | k+1,xs,i,o=>by
  simp only [ab.j1]
  repeat' (first|exact Al _ _ _ _ _|refine dp.jL ?_ ?_|(refine dp.gD fun _=> ?_))
theorem Ar (k:Nat) (xs:List Int) (i:Int) (o:Bool):dp (ab.f k xs i o):=by
 have h0:∀k b xs i o,dp (ab.j0 k b xs i o):=by
  intro k
  cases k with
  | zero=>exact fun _ _ _ _=>dp.none_
  | succ k=>
   intro b xs i o
   simp only [ab.j0]
   repeat' (first|exact Ap _ _ _ _|refine dp.jL ?_ ?_)
 unfold ab.f
 repeat' (first|exact h0 _ _ _ _ _|refine dp.jL ?_ ?_|(refine dp.gD fun _=> ?_))
theorem Fm (a:List Int):(strOfNums a).size=a.length:=by simp [strOfNums,ByteArray.size]
theorem JT:∀k c b xs i o,dp (ag.j4 k c b xs i o)
 | 0,_,_,_,_,_=>dp.none_
 | k+1,c,b,xs,i,o=>by
  simp only [ag.j4]
  refine dp.jL (dp.some_ (by decide)) (dp.gD fun _=>dp.jL (nV ?_) (nV ?_))
  ·unfold bF.f
   exact dp.some_ (by rw [Fm];simp)
  ·unfold bF.f
   exact dp.some_ (by decide)
theorem JU:∀k c n b xs i o,dp (ag.j3 k c n b xs i o)
 | 0,_,_,_,_,_,_=>dp.none_
 | k+1,c,n,b,xs,i,o=>by
  simp only [ag.j3]
  refine dp.jL (nV ?_) ?_
  ·unfold bU.f
   exact dp.some_ (by rw [Fm];simp)
  ·repeat' (first|exact JT _ _ _ _ _ _|refine dp.jL ?_ ?_|(refine dp.gD fun _=> ?_))
theorem JV:∀k c n b xs i o,dp (ag.j2 k c n b xs i o)
 | 0,_,_,_,_,_,_=>dp.none_
 | k+1,c,n,b,xs,i,o=>by
  simp only [ag.j2]
  refine dp.jL (nV ?_) ?_
  ·unfold bU.f
   exact dp.some_ (by decide)
  ·repeat' (first|exact JU _ _ _ _ _ _ _|refine dp.jL ?_ ?_|(refine dp.gD fun _=> ?_))
theorem JW:∀k c n b xs i o,dp (ag.j1 k c n b xs i o)
 | 0,_,_,_,_,_,_=>dp.none_
 | k+1,c,n,b,xs,i,o=>by
  simp only [ag.j1]
  repeat' (first|exact dp.some_ (by decide)|exact JV _ _ _ _ _ _ _|refine dp.jL ?_ ?_|(refine dp.gD fun _=> ?_))
theorem JX:∀k c n b xs i o,dp (ag.j0 k c n b xs i o)
 | 0,_,_,_,_,_,_=>dp.none_
 | k+1,c,n,b,xs,i,o=>by
  simp only [ag.j0]
  repeat' (first|exact dp.some_ (by decide)|exact JW _ _ _ _ _ _ _|refine dp.jL ?_ ?_|(refine dp.gD fun _=> ?_))
theorem JY (k:Nat) (xs:List Int) (i:Int) (o:Bool) (c n:Int):dp (ag.f k xs i o c n):=by
 unfold ag.f
 repeat' (first|exact JX _ _ _ _ _ _ _|refine dp.jL ?_ ?_|(refine dp.gD fun _=> ?_))
end Go.Proofs.YtlglijnaeaonpaaGreatDoor.Lx
end
