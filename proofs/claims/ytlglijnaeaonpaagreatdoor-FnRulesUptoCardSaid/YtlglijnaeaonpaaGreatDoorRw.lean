/- FnRules: a part of the proof (Rw). -/
import Derived.Test.YtlglijnaeaonpaaGreatDoorRv
import Derived.StillTailTactics
import Derived.Lib.SlBytesConst
import Derived.Deep.LoopGhost
import Derived.Deep.DeepCutAuto
import Derived.ArgAppend
import Derived.Scope
import Derived.WalkMore
import Derived.Test.YtlglijnaeaonpaaGreatDoorRr
section
set_option maxHeartbeats 8000000
set_option maxRecDepth 100000
set_option linter.unusedVariables false
set_option linter.unusedSimpArgs false
namespace Go.Proofs.YtlglijnaeaonpaaGreatDoor.Lx
open Go.RowKit Go.Proofs.YtlglijnaeaonpaaGreatDoorW.aC
variable {w0 w wr:World} {c:lQ} {p:Int} {B:Nat} {gp:Nat} {v:PV} {ts:List Tk} {fs:List Nat} {ds:List Int} {k q:Int} {xs:List Int} {K:Act→World→Prop} {Q:Exit→Act→World→Prop} {l:List Value} {hv:Int}
noncomputable def da:Code:=(Tryz.f54.body.bind dT).getD .skip
theorem gS (l:List Value) (hl:l.length=260):∃f:Nat→Value,(∀i,l.getD i default=f i)∧l=f 0::f 1::f 2::f 3::f 4::f 5::f 6::f 7::f 8::f 9::f 10::f 11::f 12::f 13::f 14::f 15::f 16::f 17::f 18::f 19::f 20::f 21::f 22::f 23::f 24::f 25::f 26::f 27::f 28::f 29::f 30::f 31::f 32::f 33::f 34::f 35::f 36::f 37::f 38::f 39::f 40::f 41::f 42::f 43::f 44::f 45::f 46::f 47::f 48::f 49::f 50::f 51::f 52::f 53::f 54::f 55::f 56::f 57::f 58::f 59::f 60::f 61::f 62::f 63::f 64::f 65::f 66::f 67::f 68::f 69::f 70::f 71::f 72::f 73::f 74::f 75::f 76::f 77::f 78::f 79::f 80::f 81::f 82::f 83::f 84::f 85::f 86::f 87::f 88::f 89::f 90::f 91::f 92::f 93::f 94::f 95::f 96::f 97::f 98::f 99::f 100::f 101::f 102::f 103::f 104::f 105::f 106::f 107::f 108::f 109::f 110::f 111::f 112::f 113::f 114::f 115::f 116::f 117::f 118::f 119::f 120::f 121::f 122::f 123::f 124::f 125::f 126::f 127::f 128::f 129::f 130::f 131::f 132::f 133::f 134::f 135::f 136::f 137::f 138::f 139::f 140::f 141::f 142::f 143::f 144::f 145::f 146::f 147::f 148::f 149::f 150::f 151::f 152::f 153::f 154::f 155::f 156::f 157::f 158::f 159::f 160::f 161::f 162::f 163::f 164::f 165::f 166::f 167::f 168::f 169::f 170::f 171::f 172::f 173::f 174::f 175::f 176::f 177::f 178::f 179::f 180::f 181::f 182::f 183::f 184::f 185::f 186::f 187::f 188::f 189::f 190::f 191::f 192::f 193::f 194::f 195::f 196::f 197::f 198::f 199::f 200::f 201::f 202::f 203::f 204::f 205::f 206::f 207::f 208::f 209::f 210::f 211::f 212::f 213::f 214::f 215::f 216::f 217::f 218::f 219::f 220::f 221::f 222::f 223::f 224::f 225::f 226::f 227::f 228::f 229::f 230::f 231::f 232::f 233::f 234::f 235::f 236::f 237::f 238::f 239::f 240::f 241::f 242::f 243::f 244::f 245::f 246::f 247::f 248::f 249::f 250::f 251::f 252::f 253::f 254::f 255::f 256::f 257::f 258::f 259:: []:=by
 refine⟨fun i=>l.getD i default,fun _=>rfl,?_⟩
 conv=>lhs;rw [iP l,hl]
 kernel_rfl
theorem oF {l:List Value} {i:Nat} {v:Value} (h:l.getD i default=v) (hl:l.length=260) (hi:i<260):(⟨l.toArray,[]⟩:Act).eval (.tmp i)=v:=by
 have e:(⟨l.toArray,[]⟩:Act).eval (.tmp i)=l.toArray.getD i undef:=rfl
 rw [e,←h]
 simp [List.getD_eq_getElem?_getD,Array.getD_eq_getD_getElem?,List.getElem?_eq_getElem (show i<l.length by omega)]
theorem aaN:da= .block 1 (.seq (bI [0,0] da) (.seq (.seq (bI [0,1,0,0] da) (.cond (.tmp 59) (bI [0,1,0,1,0] da) (.seq (bI [0,1,0,1,1,0] da) (.cond (.tmp 127) (bI [0,1,0,1,1,1,0] da) (bI [0,1,0,1,1,1,1] da))))) (.seq (bI [0,1,1,0] da) (.seq (bI [0,1,1,1,0] da) (.seq (bI [0,1,1,1,1,0] da) (bI [0,1,1,1,1,1] da)))))):=by kernel_rfl
def Af (gp:Nat) (hv:Int) (first sw:Bool) (l:List Value):Prop:=l.length=260∧l.getD 0 default= .pointer (some ⟨gp,0,none⟩)∧l.getD 5 default= .int .u32 hv∧l.getD 6 default= .bool first∧l.getD 7 default= .bool sw
def Am (gp:Nat) (hv:Int) (first sw:Bool) (tt:Int) (dv:Value) (l:List Value):Prop:=Af gp hv first sw l∧l.getD 8 default= .int .u32 tt∧l.getD 9 default=dv
theorem atA {first sw ws:Bool} {t:Tk} (hf:Af gp hv first sw l) (h:Ps B w0 c gp wr p v ts fs ds) (h0:0<B) (ij:v.kw=false) (cW:eo c.bs p t.tt q t.bs ws)
  (hK:∀l' wx dv,Am gp hv first sw t.tt dv l' →Rd wx dv t.bs→Pk B w0 c gp wr wx q {v with pw:=ws,pc:=false} ts fs ds→K ⟨l'.toArray,[]⟩ wx):
  Code.wp Tryz.prog (bI [0,0] da) (Exit.then K Q) ⟨l.toArray,[]⟩ wr:=by
 obtain⟨hl,g0,g5,g6,g7⟩:=hf
 obtain⟨f,hf,rfl⟩:=gS l hl
 rw [hf] at g0 g5 g6 g7
 rw [g0,g5,g6,g7]
 have HP:=am h
 have HK:=am hK
 have AP:=am ij
 have tG:=am cW
 clear hf hl g0 g5 g6 g7 h hK ij cW
 conv=>arg 2;whnf
 go_wp2_with (fail)
 refine(pop HP.out h0 AP.out false tG.out).mono ?_
 rintro e w1 ⟨dv,rfl,hd,hP,hk⟩
 obtain⟨A2,n2,Fw,e2,-,-,-⟩:=id hd
 subst e2
 have HR:=am (And.intro hd (And.intro hP hk))
 clear hd hP hk
 go_wp2_with (fail)
 exact HK.out _ _ _ ⟨⟨by kernel_rfl,rfl,rfl,rfl,rfl⟩,rfl,rfl⟩ HR.out.1 HR.out.2
theorem UW {first sw r:Bool} {tt:Int} {dv:Value} (hf:Am gp hv first sw tt dv l) (h:Ps B w0 c gp wr p v ts fs ds) (hr:((tt==30)=true∧v.lvl=0∧r=true)∨((tt==30)=false∧r=false))
  (hK:∀l',Am gp hv first sw tt dv l' →l'.getD 59 default= .bool r→K ⟨l'.toArray,[]⟩ wr):
  Code.wp Tryz.prog (bI [0,1,0,0] da) (Exit.then K Q) ⟨l.toArray,[]⟩ wr:=by
 obtain⟨hf,g8,g9⟩:=hf
 obtain⟨hl,g0,g5,g6,g7⟩:=hf
 obtain⟨f,hf,rfl⟩:=gS l hl
 rw [hf] at g0 g5 g6 g7 g8 g9
 rw [g0,g5,g6,g7,g8,g9]
 have c5:=h.c5
 have HK:=am hK
 clear hf hl g0 g5 g6 g7 g8 g9 h hK
 rcases hr with ⟨h1,h2,rfl⟩|⟨h1,rfl⟩
 ·rw [h2] at c5
  clear h2
  conv=>arg 2;whnf
  go_wp2_with (fail)
  exact HK.out _ ⟨⟨by kernel_rfl,rfl,rfl,rfl,rfl⟩,rfl,rfl⟩ rfl
 ·conv=>arg 2;whnf
  go_wp2_with (fail)
  exact HK.out _ ⟨⟨by kernel_rfl,rfl,rfl,rfl,rfl⟩,rfl,rfl⟩ rfl
theorem aaO {first sw r:Bool} {tt:Int} {dv:Value} (hf:Am gp hv first sw tt dv l) (h:Ps B w0 c gp wr p v ts fs ds) (hr:((tt==24)=true∧v.lvl=0∧r=true)∨((tt==24)=false∧(tt==31)=false∧(tt==0)=false∧r=false))
  (hK:∀l',Am gp hv first sw tt dv l' →l'.getD 127 default= .bool r→K ⟨l'.toArray,[]⟩ wr):
  Code.wp Tryz.prog (bI [0,1,0,1,1,0] da) (Exit.then K Q) ⟨l.toArray,[]⟩ wr:=by
 obtain⟨hf,g8,g9⟩:=hf
 obtain⟨hl,g0,g5,g6,g7⟩:=hf
 obtain⟨f,hf,rfl⟩:=gS l hl
 rw [hf] at g0 g5 g6 g7 g8 g9
 rw [g0,g5,g6,g7,g8,g9]
 have c5:=h.c5
 have HK:=am hK
 clear hf hl g0 g5 g6 g7 g8 g9 h hK
 rcases hr with ⟨h1,h2,rfl⟩|⟨h1,h2,h3,rfl⟩
 ·rw [h2] at c5
  clear h2
  conv=>arg 2;whnf
  go_wp2_with (fail)
  exact HK.out _ ⟨⟨by kernel_rfl,rfl,rfl,rfl,rfl⟩,rfl,rfl⟩ rfl
 ·conv=>arg 2;whnf
  go_wp2_with (fail)
  exact HK.out _ ⟨⟨by kernel_rfl,rfl,rfl,rfl,rfl⟩,rfl,rfl⟩ rfl
theorem afT {first sw:Bool} {tt:Int} {dv:Value} {lvl lvl' :Nat} (hf:Am gp hv first sw tt dv l) (h:Ps B w0 c gp wr p v ts fs ds) (h0:0<B) (iW:v.lvl=lvl) (oz:lvl≤100000000) (fT:step lvl tt lvl')
  (hK:∀l' wx,Am gp hv first sw tt dv l' →Pk B w0 c gp wr wx p {v with lvl:=lvl' } ts fs ds→K ⟨l'.toArray,[]⟩ wx):
  Code.wp Tryz.prog (bI [0,1,0,1,1,1,1] da) (Exit.then K Q) ⟨l.toArray,[]⟩ wr:=by
 obtain⟨hf,g8,g9⟩:=hf
 obtain⟨hl,g0,g5,g6,g7⟩:=hf
 obtain⟨f,hf,rfl⟩:=gS l hl
 rw [hf] at g0 g5 g6 g7 g8 g9
 rw [g0,g5,g6,g7,g8,g9]
 have c5:=h.c5
 have f5:=h.f 5
 rw [iW] at c5
 have HP:=am (And.intro h iW)
 have HK:=am hK
 clear hf hl g0 g5 g6 g7 g8 g9 h hK iW
 rcases fT with ⟨ho,rfl⟩|⟨hc,rfl⟩|⟨ho,rfl⟩
 ·have hw:IntKind.i64.wrap ((lvl:Int)+1)=((lvl+1:Nat):Int):=by rw [IntWalk.i64_in _ (by omega)];omega
  have dL:Pk B w0 c gp wr (wr.setCell ⟨gp,5,none⟩ (.int .i64 ((lvl+1:Nat):Int))) p {v with lvl:=((lvl+1:Nat):Int)} ts fs ds:=
   ⟨HP.out.1.ez h0 5 _ {v with lvl:=((lvl+1:Nat):Int)} rfl rfl rfl rfl,HP.out.1.eY 5 _⟩
  have HF:=am dL
  clear dL
  generalize hm:((lvl+1:Nat):Int)=m at*
  clear hm
  unfold Ih at ho
  rcases ho with rfl|rfl|rfl
  all_goals
   conv=>arg 2;whnf
   go_wp2_with (fail)
   exact HK.out _ _ ⟨⟨by kernel_rfl,rfl,rfl,rfl,rfl⟩,rfl,rfl⟩ HF.out
 ·have hw:IntKind.i64.wrap (((lvl' +1:Nat):Int) - 1)=(lvl' :Int):=by rw [IntWalk.i64_in _ (by omega)];omega
  have jJ:(((lvl' +1:Nat):Int)==0)=false:=by simp;omega
  have dL:Pk B w0 c gp wr (wr.setCell ⟨gp,5,none⟩ (.int .i64 (lvl' :Int))) p {v with lvl:=(lvl' :Int)} ts fs ds:=
   ⟨HP.out.1.ez h0 5 _ {v with lvl:=(lvl' :Int)} rfl rfl rfl rfl,HP.out.1.eY 5 _⟩
  have HF:=am dL
  clear dL
  generalize hm:((lvl' +1:Nat):Int)=m at*
  clear hm
  unfold NX at hc
  rcases hc with rfl|rfl
  all_goals
   conv=>arg 2;whnf
   go_wp2_with (fail)
   exact HK.out _ _ ⟨⟨by kernel_rfl,rfl,rfl,rfl,rfl⟩,rfl,rfl⟩ HF.out
 ·obtain⟨h1,h2,h3,h4,h5,h6,h7,h8,h9⟩:=ho
  have dL:Pk B w0 c gp wr wr p {v with lvl:=(lvl' :Int)} ts fs ds:=by
   have e:({v with lvl:=(lvl' :Int)}:PV)=v:=by rw [←HP.out.2]
   rw [e]
   exact⟨HP.out.1,Kt.refl _ _⟩
  have HF:=am dL
  clear dL
  conv=>arg 2;whnf
  go_wp2_with (fail)
  exact HK.out _ _ ⟨⟨by kernel_rfl,rfl,rfl,rfl,rfl⟩,rfl,rfl⟩ HF.out
theorem atS {first sw:Bool} {tt:Int} {dv:Value} (hf:Am gp hv first sw tt dv l) (h:Ps B w0 c gp wr p v ts fs ds) (h0:0<B)
  (hK:∀l' wx pw',Am gp hv false sw tt dv l' →Pk B w0 c gp wr wx p {v with pw:=pw' } ts fs ds→K ⟨l'.toArray,[]⟩ wx):
  Code.wp Tryz.prog (bI [0,1,1,0] da) (Exit.then K Q) ⟨l.toArray,[]⟩ wr:=by
 obtain⟨hf,g8,g9⟩:=hf
 obtain⟨hl,g0,g5,g6,g7⟩:=hf
 obtain⟨f,hf,rfl⟩:=gS l hl
 rw [hf] at g0 g5 g6 g7 g8 g9
 rw [g0,g5,g6,g7,g8,g9]
 have c9:=h.c9
 have f9:=h.f 9
 have dL:Pk B w0 c gp wr (wr.setCell ⟨gp,9,none⟩ (.bool false)) p {v with pw:=false} ts fs ds:=⟨h.ez h0 9 _ {v with pw:=false} rfl rfl rfl rfl,h.eY 9 _⟩
 have Bg:Pk B w0 c gp wr wr p {v with pw:=v.pw} ts fs ds:=⟨h,Kt.refl _ _⟩
 have HF:=am (And.intro dL Bg)
 have HK:=am hK
 clear hf hl g0 g5 g6 g7 g8 g9 h hK dL Bg
 cases first
 ·conv=>arg 2;whnf
  go_wp2_with (fail)
  exact HK.out _ _ _ ⟨⟨by kernel_rfl,rfl,rfl,rfl,rfl⟩,rfl,rfl⟩ HF.out.2
 ·cases h1:(tt==28)
  ·cases h2:(tt==26)
   ·conv=>arg 2;whnf
    go_wp2_with (fail)
    exact HK.out _ _ _ ⟨⟨by kernel_rfl,rfl,rfl,rfl,rfl⟩,rfl,rfl⟩ HF.out.2
   ·conv=>arg 2;whnf
    go_wp2_with (fail)
    exact HK.out _ _ _ ⟨⟨by kernel_rfl,rfl,rfl,rfl,rfl⟩,rfl,rfl⟩ HF.out.1
  ·conv=>arg 2;whnf
   go_wp2_with (fail)
   exact HK.out _ _ _ ⟨⟨by kernel_rfl,rfl,rfl,rfl,rfl⟩,rfl,rfl⟩ HF.out.1
theorem afU {first sw:Bool} {tt:Int} {dv:Value} (hf:Am gp hv first sw tt dv l) (hd:Rd wr dv xs)
  (hK:∀l' r,Am gp hv first sw tt dv l' →l'.getD 238 default= .bool r→K ⟨l'.toArray,[]⟩ wr):
  Code.wp Tryz.prog (bI [0,1,1,1,0,0] da) (Exit.then K Q) ⟨l.toArray,[]⟩ wr:=by
 obtain⟨hf,g8,g9⟩:=hf
 obtain⟨hl,g0,g5,g6,g7⟩:=hf
 obtain⟨f,hf,rfl⟩:=gS l hl
 rw [hf] at g0 g5 g6 g7 g8 g9
 rw [g0,g5,g6,g7,g8,g9]
 have HK:=am hK
 obtain⟨A,n,cp,rfl,h1,h2,h3⟩:=hd
 clear hf hl g0 g5 g6 g7 g8 g9 hK
 by_cases hn:n=1
 ·subst hn
  obtain⟨g,o,cs,fr,rfl,hg,hc⟩:=h3 (by omega)
  have bR:wr.cell? ⟨g,o,none⟩=some (.int .u8 (xs.getD 0 0)):=by
   unfold World.cell?
   rw [hg]
   exact hc 0 (by omega)
  generalize xs.getD 0 0=b at bR
  clear h1 h2 h3 hg hc
  cases b1:(b==44)
  ·cases b2:(b==58)
   all_goals
    conv=>arg 2;whnf
    go_wp2_with (fail)
    exact HK.out _ _ ⟨⟨by kernel_rfl,rfl,rfl,rfl,rfl⟩,rfl,rfl⟩ rfl
  ·conv=>arg 2;whnf
   go_wp2_with (fail)
   exact HK.out _ _ ⟨⟨by kernel_rfl,rfl,rfl,rfl,rfl⟩,rfl,rfl⟩ rfl
 ·have BY:((n:Int)==1)=false:=by simp;omega
  clear h1 h2 h3 hn
  conv=>arg 2;whnf
  go_wp2_with (fail)
  exact HK.out _ _ ⟨⟨by kernel_rfl,rfl,rfl,rfl,rfl⟩,rfl,rfl⟩ rfl
theorem afV {first sw:Bool} {tt:Int} {dv:Value} (hf:Am gp hv first sw tt dv l) (hK:∀l',Am gp hv first true tt dv l' →K ⟨l'.toArray,[]⟩ wr):
  Code.wp Tryz.prog (bI [0,1,1,1,0,1,0] da) (Exit.then K Q) ⟨l.toArray,[]⟩ wr:=by
 obtain⟨hf,g8,g9⟩:=hf
 obtain⟨hl,g0,g5,g6,g7⟩:=hf
 obtain⟨f,hf,rfl⟩:=gS l hl
 rw [hf] at g0 g5 g6 g7 g8 g9
 rw [g0,g5,g6,g7,g8,g9]
 have HK:=am hK
 clear hf hl g0 g5 g6 g7 g8 g9 hK
 conv=>arg 2;whnf
 go_wp2_with (fail)
 exact HK.out _ ⟨⟨by kernel_rfl,rfl,rfl,rfl,rfl⟩,rfl,rfl⟩
theorem afW {first sw:Bool} {tt:Int} {dv:Value} (hf:Am gp hv first sw tt dv l) (h:Ps B w0 c gp wr p v ts fs ds) (hK:∀l' r,Am gp hv first sw tt dv l' →l'.getD 250 default= .bool r→K ⟨l'.toArray,[]⟩ wr):
  Code.wp Tryz.prog (bI [0,1,1,1,0,1,1,0] da) (Exit.then K Q) ⟨l.toArray,[]⟩ wr:=by
 obtain⟨hf,g8,g9⟩:=hf
 obtain⟨hl,g0,g5,g6,g7⟩:=hf
 obtain⟨f,hf,rfl⟩:=gS l hl
 rw [hf] at g0 g5 g6 g7 g8 g9
 rw [g0,g5,g6,g7,g8,g9]
 have c9:=h.c9
 have HK:=am hK
 generalize v.pw=pw at c9
 clear hf hl g0 g5 g6 g7 g8 g9 hK h
 cases h1:(tt==29)
 ·have h2:(tt !=29)=true:=by rw [bne,h1];rfl
  cases pw<;>cases sw
  all_goals
   conv=>arg 2;whnf
   go_wp2_with (fail)
   exact HK.out _ _ ⟨⟨by kernel_rfl,rfl,rfl,rfl,rfl⟩,rfl,rfl⟩ rfl
 ·have h2:(tt !=29)=false:=by rw [bne,h1];rfl
  cases pw<;>cases sw
  all_goals
   conv=>arg 2;whnf
   go_wp2_with (fail)
   exact HK.out _ _ ⟨⟨by kernel_rfl,rfl,rfl,rfl,rfl⟩,rfl,rfl⟩ rfl
theorem afX {first sw:Bool} {tt:Int} {dv:Value} (hf:Am gp hv first sw tt dv l) (hK:∀l',Am gp hv first false tt dv l' →K ⟨l'.toArray,[]⟩ wr):
  Code.wp Tryz.prog (bI [0,1,1,1,0,1,1,1,1] da) (Exit.then K Q) ⟨l.toArray,[]⟩ wr:=by
 obtain⟨hf,g8,g9⟩:=hf
 obtain⟨hl,g0,g5,g6,g7⟩:=hf
 obtain⟨f,hf,rfl⟩:=gS l hl
 rw [hf] at g0 g5 g6 g7 g8 g9
 rw [g0,g5,g6,g7,g8,g9]
 have HK:=am hK
 clear hf hl g0 g5 g6 g7 g8 g9 hK
 conv=>arg 2;whnf
 go_wp2_with (fail)
 exact HK.out _ ⟨⟨by kernel_rfl,rfl,rfl,rfl,rfl⟩,rfl,rfl⟩
theorem afY {first sw:Bool} {tt:Int} {dv:Value} (hf:Am gp hv first sw tt dv l) (h:Ps B w0 c gp wr p v ts fs ds) (h0:0<B) (hn:ts.length≤1000000000)
  (hK:∀l' wx b',Am gp hv first sw tt dv l' →Pk B w0 c gp wr wx p {v with buf:=b' } (ts++ [⟨20,[32]⟩]) fs ds→K ⟨l'.toArray,[]⟩ wx):
  Code.wp Tryz.prog (bI [0,1,1,1,0,1,1,1,0] da) (Exit.then K Q) ⟨l.toArray,[]⟩ wr:=by
 obtain⟨hf,g8,g9⟩:=hf
 obtain⟨hl,g0,g5,g6,g7⟩:=hf
 obtain⟨f,hf,rfl⟩:=gS l hl
 rw [hf] at g0 g5 g6 g7 g8 g9
 rw [g0,g5,g6,g7,g8,g9]
 have HK:=am hK
 have HP:=am h
 clear hf hl g0 g5 g6 g7 g8 g9 hK h
 conv=>arg 2;whnf
 go_wp2_with (fail)
 refine(wsb _).mono ?_
 rintro e w1 ⟨dv2,rfl,hd,hb⟩
 have HR:=am (And.intro hd hb)
 obtain⟨A2,n2,Fw,e2,-,-,-⟩:=id hd
 subst e2
 clear hd hb
 go_wp2_with (fail)
 refine(lR (HP.out.below HR.out.2) h0 ⟨20,[32]⟩ _ HR.out.1 hn).mono ?_
 rintro e w2 ⟨rfl,b',hP,hk⟩
 have HS:=am (And.intro hP (((Kt.refl B wr).below HR.out.2 HP.out.hB).trans hk))
 clear hP hk
 go_wp2_with (fail)
 exact HK.out _ _ _ ⟨⟨by kernel_rfl,rfl,rfl,rfl,rfl⟩,rfl,rfl⟩ HS.out
theorem UX:bI [0,1,1,1,0] da= .seq (bI [0,1,1,1,0,0] da) (.cond (.tmp 238) (bI [0,1,1,1,0,1,0] da) (.seq (bI [0,1,1,1,0,1,1,0] da) (.cond (.tmp 250) (bI [0,1,1,1,0,1,1,1,0] da) (bI [0,1,1,1,0,1,1,1,1] da)))):=by kernel_rfl
theorem atC {first sw:Bool} {tt:Int} {dv:Value} (hf:Am gp hv first sw tt dv l) (h:Ps B w0 c gp wr p v ts fs ds) (h0:0<B) (hn:ts.length≤1000000000) (hd:Rd wr dv xs)
  (hK:∀l' wx Pq b' bN,Am gp hv first Pq tt dv l' →bH bN =bH ts→bN.length≤ts.length+1→Rd wx dv xs→Pk B w0 c gp wr wx p {v with buf:=b' } bN fs ds→K ⟨l'.toArray,[]⟩ wx):
  Code.wp Tryz.prog (bI [0,1,1,1,0] da) (Exit.then K Q) ⟨l.toArray,[]⟩ wr:=by
 rw [UX]
 refine wp_seq_k fun K1 gv=> ?_
 refine afU hf hd fun l1 r1 a1 a2=>gv _ _ ?_
 cases r1 with
 | true=>
  refine wp_cond_true (oF a2 a1.1.1 (by decide)) ?_
  refine afV a1 fun l2 b1=> ?_
  exact hK l2 wr true v.buf ts b1 rfl (by omega) hd ⟨h,Kt.refl _ _⟩
 | false=>
  refine wp_cond_false (oF a2 a1.1.1 (by decide)) ?_
  refine wp_seq_k fun K2 ik=> ?_
  refine afW a1 h fun l2 r2 b1 b2=>ik _ _ ?_
  cases r2 with
  | true=>
   refine wp_cond_true (oF b2 b1.1.1 (by decide)) ?_
   refine afY b1 h h0 hn fun l3 wx b' c1 c2=> ?_
   refine hK l3 wx sw b' _ c1 ?_ (by simp) (hd.kt c2.2) c2
   unfold bH
   rw [List.filter_append]
   simp
  | false=>
   refine wp_cond_false (oF b2 b1.1.1 (by decide)) ?_
   refine afX b1 fun l3 c1=> ?_
   exact hK l3 wr false v.buf ts c1 rfl (by omega) hd ⟨h,Kt.refl _ _⟩
theorem atD {first sw:Bool} {tt:Int} {dv:Value} (hf:Am gp hv first sw tt dv l) (hK:∀l' Pq,Am gp hv first Pq tt dv l' →K ⟨l'.toArray,[]⟩ wr):
  Code.wp Tryz.prog (bI [0,1,1,1,1,0] da) (Exit.then K Q) ⟨l.toArray,[]⟩ wr:=by
 obtain⟨hf,g8,g9⟩:=hf
 obtain⟨hl,g0,g5,g6,g7⟩:=hf
 obtain⟨f,hf,rfl⟩:=gS l hl
 rw [hf] at g0 g5 g6 g7 g8 g9
 rw [g0,g5,g6,g7,g8,g9]
 have HK:=am hK
 clear hf hl g0 g5 g6 g7 g8 g9 hK
 cases h1:(tt==28)
 all_goals
  conv=>arg 2;whnf
  go_wp2_with (fail)
  exact HK.out _ _ ⟨⟨by kernel_rfl,rfl,rfl,rfl,rfl⟩,rfl,rfl⟩
theorem atE {first sw:Bool} {t:Tk} {dv:Value} (hf:Am gp hv first sw t.tt dv l) (h:Ps B w0 c gp wr p v ts fs ds) (h0:0<B) (hn:ts.length≤1000000000) (hd:Rd wr dv t.bs)
  (hK:∀l' wx b',Af gp hv first sw l' →Pk B w0 c gp wr wx p {v with buf:=b' } (ts++ [t]) fs ds→K ⟨l'.toArray,[]⟩ wx):
  Code.wp Tryz.prog (bI [0,1,1,1,1,1] da) (Exit.then K Q) ⟨l.toArray,[]⟩ wr:=by
 obtain⟨hf,g8,g9⟩:=hf
 obtain⟨hl,g0,g5,g6,g7⟩:=hf
 obtain⟨f,hf,rfl⟩:=gS l hl
 rw [hf] at g0 g5 g6 g7 g8 g9
 rw [g0,g5,g6,g7,g8,g9]
 obtain⟨A2,n2,Fw,e2,-,-,-⟩:=id hd
 subst e2
 have HK:=am hK
 have HP:=am (And.intro h hd)
 clear hf hl g0 g5 g6 g7 g8 g9 hK h hd
 conv=>arg 2;whnf
 go_wp2_with (fail)
 refine(lR HP.out.1 h0 t _ HP.out.2 hn).mono ?_
 rintro e w2 ⟨rfl,b',hP,hk⟩
 have HS:=am (And.intro hP hk)
 clear hP hk
 go_wp2_with (fail)
 exact HK.out _ _ _ ⟨by kernel_rfl,rfl,rfl,rfl,rfl⟩ HS.out
def Pt (hv:Int):Prop:=hv=8∨hv=9733∨hv=6408
theorem UY {first sw:Bool} {tt:Int} {dv:Value} (hf:Am gp hv first sw tt dv l) (hh:Pt hv) (h:Ps B w0 c gp wr p v ts fs ds) (h0:0<B) (jE:fs.length≤1000)
  (hQ:∀(l' :List Value) wx jD,l'.length=260→l'.getD 2 default= .int .u32 3→Pk B w0 c gp wr wx p {v with st:=jD } ts (fs++ [75]) ds→Q .ret ⟨l'.toArray,[]⟩ wx):
  Code.wp Tryz.prog (bI [0,1,0,1,0] da) (Exit.then K Q) ⟨l.toArray,[]⟩ wr:=by
 obtain⟨hf,g8,g9⟩:=hf
 obtain⟨hl,g0,g5,g6,g7⟩:=hf
 obtain⟨f,hf,rfl⟩:=gS l hl
 rw [hf] at g0 g5 g6 g7 g8 g9
 rw [g0,g5,g6,g7,g8,g9]
 have c1:=h.c1
 obtain⟨A,cap,fT⟩:=Bs h
 have HST:=am h.rS
 have HP:=am h
 have HB:=am h.hB
 rw [fT] at c1
 have HE:=am fT
 have HQ:=am hQ
 have uo:∀u∈ [Value.func (.func 75) #[] #[]],u.oneCell' =true:=by intro u hu;simp at hu;subst hu;rfl
 clear hf hl g0 g5 g6 g7 g8 g9 h fT hQ
 rcases hh with rfl|rfl|rfl
 all_goals
  conv=>arg 2;whnf
  go_wp2_with (at_builtin;refine di (w0:=wr) B rfl (.tmp 97) (.tmp 98) 78 88 _ 1 8 (by rfl) Tryz.underlying78 F0 rfl (by decide) (by decide) (.slice A fs.length cap) fs.length (fs.map fv) [.func (.func 75) #[] #[]] (by rfl) (by simp [Act.eval]) rfl uo (HE.out▸HST.out) ((Below.refl _ _).mono HB.out) HB.out (by omega) ?_;intro v1 w1 dW mv jm mq;obtain⟨A1,afS,e1⟩:=dP dW;subst e1;have P1:=am (HP.out.yh h0 (yJ.iz HP.out.rS (HE.out.symm▸jm) HB.out) (fs':=fs++ [75]) (by rw [List.length_append,List.map_append];exact dW));have d1:w1.cell? ⟨gp,1,none⟩=some (.slice A fs.length cap):=(by rw [ao ((yJ.iz HP.out.rS (HE.out.symm▸jm) HB.out).eC _ _ _ _ HP.out.par (by decide)),←HE.out];rfl);have d1f:w1.frozen? ⟨gp,1,none⟩=false:=ai ((yJ.iz HP.out.rS (HE.out.symm▸jm) HB.out).eC _ _ _ _ HP.out.par (by decide)) 1;clear dW mv jm mq)
  exact HQ.out _ _ _ (by kernel_rfl) rfl P1.out
theorem UZ {first sw:Bool} {dv:Value} (hf:Am gp hv first sw 24 dv l) (h:Ps B w0 c gp wr p v ts fs ds) (h0:0<B)
  (hQ:∀(l' :List Value) wx,l'.length=260→l'.getD 2 default= .int .u32 2→Pk B w0 c gp wr wx p {v with pe:=false} ts fs ds→Q .ret ⟨l'.toArray,[]⟩ wx):
  Code.wp Tryz.prog (bI [0,1,0,1,1,1,0] da) (Exit.then K Q) ⟨l.toArray,[]⟩ wr:=by
 obtain⟨hf,g8,g9⟩:=hf
 obtain⟨hl,g0,g5,g6,g7⟩:=hf
 obtain⟨f,hf,rfl⟩:=gS l hl
 rw [hf] at g0 g5 g6 g7 g8 g9
 rw [g0,g5,g6,g7,g8,g9]
 have eZ:=h.eZ
 have f10:=h.f 10
 have dL:Pk B w0 c gp wr (wr.setCell ⟨gp,10,none⟩ (.bool false)) p {v with pe:=false} ts fs ds:=⟨h.ez h0 10 _ {v with pe:=false} rfl rfl rfl rfl,h.eY 10 _⟩
 have HF:=am dL
 have HQ:=am hQ
 clear hf hl g0 g5 g6 g7 g8 g9 h hQ dL
 conv=>arg 2;whnf
 go_wp2_with (fail)
 exact HQ.out _ _ (by kernel_rfl) rfl HF.out
theorem Pu {lvl lvl' :Nat} {tt:Int} (h:step lvl tt lvl'):(tt==24)=false∧(tt==31)=false:=by
 rcases h with ⟨h,_⟩|⟨h,_⟩|⟨h,_⟩
 ·unfold Ih at h;rcases h with rfl|rfl|rfl<;>exact⟨rfl,rfl⟩
 ·unfold NX at h;rcases h with rfl|rfl<;>exact⟨rfl,rfl⟩
 ·obtain⟨h1,h2,h3,h4,h5,h6,h7,h8,h9⟩:=h
  exact⟨h8,h7⟩
noncomputable def Pv:Code:=.seq (.seq (bI [0,1,0,0] da) (.cond (.tmp 59) (bI [0,1,0,1,0] da) (.seq (bI [0,1,0,1,1,0] da) (.cond (.tmp 127) (bI [0,1,0,1,1,1,0] da) (bI [0,1,0,1,1,1,1] da))))) (.seq (bI [0,1,1,0] da) (.seq (bI [0,1,1,1,0] da) (.seq (bI [0,1,1,1,1,0] da) (bI [0,1,1,1,1,1] da))))
theorem U0 {first sw:Bool} {t:Tk} {dv:Value} {lvl lvl' :Nat} (hf:Am gp hv first sw t.tt dv l) (h:Ps B w0 c gp wr p v ts fs ds) (h0:0<B) (hd:Rd wr dv t.bs) (hn:ts.length≤100000000) (iW:v.lvl=lvl) (oz:lvl≤100000000) (fT:step lvl t.tt lvl')
  (hK:∀l' wx Pq pw' b' bN,Af gp hv false Pq l' →bH bN =bH ts++bH [t]→bN.length≤ts.length+2→Pk B w0 c gp wr wx p {v with lvl:=lvl',pw:=pw',buf:=b' } bN fs ds→K ⟨l'.toArray,[]⟩ wx):
  Code.wp Tryz.prog Pv (Exit.then K Q) ⟨l.toArray,[]⟩ wr:=by
 obtain⟨h30,ui⟩:=F1 fT
 obtain⟨h24,h31⟩:=Pu fT
 refine wp_seq_k fun K1 gv=>wp_seq_k fun K2 ik=> ?_
 refine UW (r:=false) hf h (.inr ⟨h30,rfl⟩) fun l1 a1 a2=>ik _ _ ?_
 refine wp_cond_false (oF a2 a1.1.1 (by decide)) (wp_seq_k fun K3 jK=> ?_)
 refine aaO (r:=false) a1 h (.inr ⟨h24,h31,ui,rfl⟩) fun l2 b1 b2=>jK _ _ ?_
 refine wp_cond_false (oF b2 b1.1.1 (by decide)) ?_
 refine afT b1 h h0 iW oz fT fun l3 w3 c1 c2=>gv _ _ ?_
 refine wp_seq_k fun K4 lW=> ?_
 refine atS c1 c2.1 h0 fun l4 w4 pw4 d1 d2=>lW _ _ ?_
 refine wp_seq_k fun K5 oU=> ?_
 refine atC d1 d2.1 h0 (by omega) ((hd.kt c2.2).kt d2.2) fun l5 w5 sw5 b5 ts5 e1 e2 e3 e4 e5=>oU _ _ ?_
 refine wp_seq_k fun K6 Hj=> ?_
 refine atD e1 fun l6 sw6 f1=>Hj _ _ ?_
 refine atE f1 e5.1 h0 (by omega) e4 fun l7 w7 b7 g1 g2=> ?_
 exact hK l7 w7 sw6 pw4 b7 (ts5++ [t]) g1 (by rw [gE,e2]) (by simp;omega) ⟨g2.1,((c2.2.trans d2.2).trans e5.2).trans g2.2⟩
def AV (v v' :PV):Prop:=v'.st=v.st∧v'.err=v.err∧v'.ep=v.ep∧v'.tt=v.tt∧v'.kw=false∧v'.pe=v.pe∧v'.sh=v.sh∧v'.data=v.data
def AI (B:Nat) (w0:World) (c:lQ) (gp:Nat) (hv:Int) (w:World) (v:PV) (fs:List Nat) (ds:List Int) (r:List (Tk×Bool)) (q:Int) (g:Nat) (l:List Value) (wr:World):Prop:=
 ∃(first sw:Bool) (lvl:Nat) (p' :Int) (v' :PV) (bN :List Tk) (dn rs:List (Tk×Bool)),g=rs.length+1∧Af gp hv first sw l∧r=dn++rs∧v'.lvl=(lvl:Int)∧lvl≤dn.length∧AV v v' ∧bH bN =bH (flat dn)∧bN.length≤2*dn.length∧Pk B w0 c gp w wr p' v' bN fs ds∧eJ c.bs q lvl p' rs
def RC (k hv gt:Int) (fs fs' :List Nat):Prop:=(k=24∧gt=2∧fs' =fs)∨(k=30∧gt=3∧Pt hv∧fs' =fs++ [75])
theorem Pw {r:List (Tk×Bool)} {q2 kE gt:Int} {fs' :List Nat} {uj:List Int} {tF:Bool} {g:Nat} {J:Act→World→Prop} (hI:AI B w0 c gp hv w v fs ds r q g l wr) (h0:0<B) (mB:v.pe=false) (jE:fs.length≤1000) (oD:r.length<10000000) (cW:eo c.bs q kE q2 uj tF) (oh:RC kE hv gt fs fs')
  (hJ:∀(k:Nat) (l' :List Value) (w' :World),k<g→l'.length=260→AI B w0 c gp hv w v fs ds r q k l' w' →J ⟨l'.toArray,[]⟩ w')
  (hQ:∀(l' :List Value) wx v' bN,l'.length=260→l'.getD 2 default= .int .u32 gt→bH bN =bH (flat r)→bN.length≤100000000→(v'.err=v.err∧v'.tt=v.tt∧v'.kw=false∧v'.pe=false∧v'.lvl=0∧v'.data=v.data)→Pk B w0 c gp w wx q2 v' bN fs' ds→Exit.inBlock 1 (Exit.then J Q) .ret ⟨l'.toArray,[]⟩ wx):
  Code.wp Tryz.prog da (Exit.then J Q) ⟨l.toArray,[]⟩ wr:=by
 rw [aaN]
 refine wp_block ?_
 obtain⟨first,sw,lvl,p',v',bN,dn,rs,hg,hf,hr,yj,hld,oq,DN,hlen,hP,hs⟩:=hI
 have Yq:dn.length+rs.length=r.length:=by rw [hr,List.length_append]
 refine wp_seq_k fun K1 gv=> ?_
 cases rs with
 | nil=>
  obtain⟨rfl,rfl⟩:=hs.GG
  rw [List.append_nil] at hr
  subst hr
  refine atA (t:=⟨kE,uj⟩) hf hP.1 h0 oq.2.2.2.2.1 cW fun l2 w2 dv b1 b4 b5=>gv _ _ ?_
  refine wp_seq_k fun K3 jK=>wp_seq_k fun K4 lW=> ?_
  rcases oh with ⟨rfl,rfl,rfl⟩|⟨rfl,rfl,lX,rfl⟩
  ·refine UW (r:=false) b1 b5.1 (.inr ⟨rfl,rfl⟩) fun l3 c1 c2=>lW _ _ ?_
   refine wp_cond_false (oF c2 c1.1.1 (by decide)) (wp_seq_k fun K5 oU=> ?_)
   refine aaO (r:=true) c1 b5.1 (.inl ⟨rfl,yj,rfl⟩) fun l4 d1 d2=>oU _ _ ?_
   refine wp_cond_true (oF d2 d1.1.1 (by decide)) ?_
   refine UZ d1 b5.1 h0 fun l5 wx hl5 e2 hp=> ?_
   obtain⟨v3,k1,k2⟩:∃v3:PV,Pk B w0 c gp w wx q2 v3 bN _ ds∧(v3.err=v.err∧v3.tt=v.tt∧v3.kw=false∧v3.pe=false∧v3.lvl=0∧v3.data=v.data):=⟨_,⟨hp.1,(hP.2.trans b5.2).trans hp.2⟩,oq.2.1,oq.2.2.2.1,oq.2.2.2.2.1,rfl,yj,oq.2.2.2.2.2.2.2⟩
   exact hQ l5 wx v3 bN hl5 e2 DN (by omega) k2 k1
  ·refine UW (r:=true) b1 b5.1 (.inl ⟨rfl,yj,rfl⟩) fun l3 c1 c2=>lW _ _ ?_
   refine wp_cond_true (oF c2 c1.1.1 (by decide)) ?_
   refine UY c1 lX b5.1 h0 jE fun l4 wx jD We e2 hp=> ?_
   obtain⟨v3,k1,k2⟩:∃v3:PV,Pk B w0 c gp w wx q2 v3 bN (fs++ [75]) ds∧(v3.err=v.err∧v3.tt=v.tt∧v3.kw=false∧v3.pe=false∧v3.lvl=0∧v3.data=v.data):=⟨_,⟨hp.1,(hP.2.trans b5.2).trans hp.2⟩,oq.2.1,oq.2.2.2.1,oq.2.2.2.2.1,oq.2.2.2.2.2.1.trans mB,yj,oq.2.2.2.2.2.2.2⟩
   exact hQ l4 wx v3 bN We e2 DN (by omega) k2 k1
 | cons x rs=>
  obtain⟨t,ws⟩:=x
  obtain⟨q1,lvl',cW,fT,Pr⟩:=hs.cons
  simp only [List.length_cons] at Yq
  refine atA (t:=t) hf hP.1 h0 oq.2.2.2.2.1 cW fun l2 w2 dv b1 b4 b5=>gv _ _ ?_
  refine wp_mono (U0 (K:=J) (Q:=Exit.inBlock 1 (Exit.then J Q)) (t:=t) (lvl:=lvl) (lvl':=lvl') b1 b5.1 h0 b4 (by omega) yj (by omega) fT fun l3 w3 sw3 pw3 b3 MK c1 c2 c3 c4=> ?_) (fun e a w' hq=>by cases e<;>exact hq)
  obtain⟨v3,k1,k2,k3⟩:∃v3:PV,Pk B w0 c gp w w3 q1 v3 MK fs ds∧v3.lvl=(lvl' :Int)∧AV v v3:=⟨_,⟨c4.1,(hP.2.trans b5.2).trans c4.2⟩,rfl,⟨oq.1,oq.2.1,oq.2.2.1,oq.2.2.2.1,oq.2.2.2.2.1,oq.2.2.2.2.2.1,oq.2.2.2.2.2.2.1,oq.2.2.2.2.2.2.2⟩⟩
  refine hJ (rs.length+1) l3 w3 (by simp at hg;omega) c1.1 ⟨false,sw3,lvl',q1,v3,MK,dn++ [(t,ws)],rs,rfl,c1,by rw [hr];simp,k2,by have:=yi fT;simp;omega,k3,?_,by simp;omega,k1,Pr⟩
  rw [c2,DN,mo]
end Go.Proofs.YtlglijnaeaonpaaGreatDoor.Lx
end
section
set_option maxHeartbeats 8000000
set_option maxRecDepth 100000
set_option linter.unusedVariables false
set_option linter.unusedSimpArgs false
namespace Go.Proofs.YtlglijnaeaonpaaGreatDoor.Lx
open Go.RowKit Go.Proofs.YtlglijnaeaonpaaGreatDoorW.aC
def ld (w:World):Prop:=w.cell? ⟨1,0,none⟩=some (.int .u32 4361)∧w.cell? ⟨1,1,none⟩=some (.int .u32 11012)∧w.cell? ⟨1,2,none⟩=some (.int .u32 9733)∧w.cell? ⟨1,3,none⟩=some (.int .u32 2057)∧w.cell? ⟨1,4,none⟩=some (.int .u32 8)∧w.cell? ⟨1,5,none⟩=some (.int .u32 0)∧w.cell? ⟨1,6,none⟩=some (.int .u32 6408)∧w.cell? ⟨1,7,none⟩=some (.int .u32 8453)
theorem ld.below {w w' :World} (h:ld w) (hb:Below w.heap.size w w'):ld w':=by
 obtain⟨h0,h1,h2,h3,h4,h5,h6,h7⟩:=h
 exact⟨al hb h0,al hb h1,al hb h2,al hb h3,al hb h4,al hb h5,al hb h6,al hb h7⟩
def eu:List Int:=[100,111,99,117,109,101,110,116,102,111,110,116,45,102,97,99,101,107,101,121,102,114,97,109,101,115,117,112,112,111,114,116,115,108,97,121,101,114,109,101,100,105,97,112,97,103,101]
theorem tM (w:World):Calls Tryz.prog 117 #[] w fun e w' =>e= .returned (.slice (some ⟨w.heap.size,0,none⟩) 47 47)∧w.alloc (.cells (bp .u8 eu).toArray 5 (47,48))=w':=by
 have kc:=fun (w:World) (C:Array Value) (n c:Nat)=>Lib.run_convert_bytes_const (P:=Tryz.prog) w 24 5 C n c Tryz.underlying24 Tryz.underlying5
 go_enter Tryz.func117,Tryz.ntmps117
 go_wp2
 go_ret
 exact⟨rfl,rfl⟩
theorem DU {w:World} {g cap:Nat} (hT:ld w) (hB:qe w g [64,109,101,100,105,97]) (lS:cap≤maxLen) (hc:5≤cap):
  Calls Tryz.prog 73 #[.slice (some ⟨g,1,none⟩) 5 cap] w fun e w' =>e= .returned (.int .u32 9733)∧Below w.heap.size w w':=by
 have b0:w.cell? ⟨g,1,none⟩=some (.int .u8 109):=by rw [ao hB];rfl
 have b1:w.cell? ⟨g,2,none⟩=some (.int .u8 101):=by rw [ao hB];rfl
 have b2:w.cell? ⟨g,3,none⟩=some (.int .u8 100):=by rw [ao hB];rfl
 have b3:w.cell? ⟨g,4,none⟩=some (.int .u8 105):=by rw [ao hB];rfl
 have b4:w.cell? ⟨g,5,none⟩=some (.int .u8 97):=by rw [ao hB];rfl
 obtain⟨t0,t1,t2,t3,t4,t5,t6,t7⟩:=hT
 have d0:(w.alloc (.cells (bp .u8 eu).toArray 5 (47,48))).cell? ⟨w.heap.size,38,none⟩=some (.int .u8 109):=by rw [cell_of_row _ _ _ _ _ _ (heap_alloc_new w _)];rfl
 have d1:(w.alloc (.cells (bp .u8 eu).toArray 5 (47,48))).cell? ⟨w.heap.size,39,none⟩=some (.int .u8 101):=by rw [cell_of_row _ _ _ _ _ _ (heap_alloc_new w _)];rfl
 have d2:(w.alloc (.cells (bp .u8 eu).toArray 5 (47,48))).cell? ⟨w.heap.size,40,none⟩=some (.int .u8 100):=by rw [cell_of_row _ _ _ _ _ _ (heap_alloc_new w _)];rfl
 have d3:(w.alloc (.cells (bp .u8 eu).toArray 5 (47,48))).cell? ⟨w.heap.size,41,none⟩=some (.int .u8 105):=by rw [cell_of_row _ _ _ _ _ _ (heap_alloc_new w _)];rfl
 have d4:(w.alloc (.cells (bp .u8 eu).toArray 5 (47,48))).cell? ⟨w.heap.size,42,none⟩=some (.int .u8 97):=by rw [cell_of_row _ _ _ _ _ _ (heap_alloc_new w _)];rfl
 have e0:(w.alloc (.cells (bp .u8 eu).toArray 5 (47,48))).cell? ⟨g,1,none⟩=some (.int .u8 109):=al (au (Below.refl _ _) _) b0
 have e1:(w.alloc (.cells (bp .u8 eu).toArray 5 (47,48))).cell? ⟨g,2,none⟩=some (.int .u8 101):=al (au (Below.refl _ _) _) b1
 have e2:(w.alloc (.cells (bp .u8 eu).toArray 5 (47,48))).cell? ⟨g,3,none⟩=some (.int .u8 100):=al (au (Below.refl _ _) _) b2
 have e3:(w.alloc (.cells (bp .u8 eu).toArray 5 (47,48))).cell? ⟨g,4,none⟩=some (.int .u8 105):=al (au (Below.refl _ _) _) b3
 have e4:(w.alloc (.cells (bp .u8 eu).toArray 5 (47,48))).cell? ⟨g,5,none⟩=some (.int .u8 97):=al (au (Below.refl _ _) _) b4
 clear hB
 have k0:bits .and .u32 2947687578 7=2:=by kernel_rfl
 have k1:bits .and .u32 9733 255=5:=by kernel_rfl
 go_enter Tryz.func73,Tryz.ntmps73
 go_wp2_with (fail)
 refine wp_scope_straight ?_
 go_wp2_with (fail)
 go_loopg [3,4] 5 (fun gk v3 v4 wr=>∃i:Nat,i≤5∧v3= .int .u32 (([1525402570,3358693349,2786164352,1368047852,3798798687,2947687578]:List Int).getD i 0)∧v4= .int .i64 i∧gk=5 - i∧wr=w)
 case atStart=>exact⟨0,by omega,rfl,rfl,rfl,rfl⟩
 case round=>
  obtain⟨i,hi,rfl,rfl,hg,rfl⟩:=hrel
  have jX:i=0∨i=1∨i=2∨i=3∨i=4∨i=5:=by omega
  rcases jX with rfl|rfl|rfl|rfl|rfl|rfl
  ·go_wp2_with (fail)
   go_roundg 4
   case measure=>omega
   case rel=>exact⟨1,by omega,rfl,rfl,rfl,rfl⟩
  ·go_wp2_with (fail)
   go_roundg 3
   case measure=>omega
   case rel=>exact⟨2,by omega,rfl,rfl,rfl,rfl⟩
  ·go_wp2_with (fail)
   go_roundg 2
   case measure=>omega
   case rel=>exact⟨3,by omega,rfl,rfl,rfl,rfl⟩
  ·go_wp2_with (fail)
   go_roundg 1
   case measure=>omega
   case rel=>exact⟨4,by omega,rfl,rfl,rfl,rfl⟩
  ·go_wp2_with (fail)
   go_roundg 0
   case measure=>omega
   case rel=>exact⟨5,by omega,rfl,rfl,rfl,rfl⟩
  ·go_wp2_with (first|(go_at_call 117;(with_reducible refine(tM _).mono ?_);rintro e w1 ⟨rfl,rfl⟩))
   go_loopg [7] 5 (fun gk v7 wq=>∃i m:Nat,i≤5∧v7= .int .i64 i∧gk=5 - i∧wq=(wr.alloc (.cells (bp .u8 eu).toArray 5 (47,48))).drewN m)
   case atStart=>exact⟨0,0,by omega,rfl,rfl,rfl⟩
   case round=>
    obtain⟨i,m,hi,rfl,hg,rfl⟩:=hrel
    have jX:i=0∨i=1∨i=2∨i=3∨i=4∨i=5:=by omega
    rcases jX with rfl|rfl|rfl|rfl|rfl|rfl
    ·go_wp2_with (fail)
     go_quiet (fail)
     rename_i nq
     go_wp2_with (fail)
     go_roundg 4
     case measure=>omega
     case rel=>exact⟨1,m+nq,by omega,rfl,rfl,rfl⟩
    ·go_wp2_with (fail)
     go_quiet (fail)
     rename_i nq
     go_wp2_with (fail)
     go_roundg 3
     case measure=>omega
     case rel=>exact⟨2,m+nq,by omega,rfl,rfl,rfl⟩
    ·go_wp2_with (fail)
     go_quiet (fail)
     rename_i nq
     go_wp2_with (fail)
     go_roundg 2
     case measure=>omega
     case rel=>exact⟨3,m+nq,by omega,rfl,rfl,rfl⟩
    ·go_wp2_with (fail)
     go_quiet (fail)
     rename_i nq
     go_wp2_with (fail)
     go_roundg 1
     case measure=>omega
     case rel=>exact⟨4,m+nq,by omega,rfl,rfl,rfl⟩
    ·go_wp2_with (fail)
     go_quiet (fail)
     rename_i nq
     go_wp2_with (fail)
     go_roundg 0
     case measure=>omega
     case rel=>exact⟨5,m+nq,by omega,rfl,rfl,rfl⟩
    ·go_wp2_with (fail)
     simp only [Exit.noGoto]
     go_ret
     exact⟨rfl,bn (au (Below.refl _ _) _) m⟩
theorem uX {w:World} {g cap:Nat} (hT:ld w) (hB:qe w g [64,115,117,112,112,111,114,116,115]) (lS:cap≤maxLen) (hc:8≤cap):
  Calls Tryz.prog 73 #[.slice (some ⟨g,1,none⟩) 8 cap] w fun e w' =>e= .returned (.int .u32 6408)∧Below w.heap.size w w':=by
 have b0:w.cell? ⟨g,1,none⟩=some (.int .u8 115):=by rw [ao hB];rfl
 have b1:w.cell? ⟨g,2,none⟩=some (.int .u8 117):=by rw [ao hB];rfl
 have b2:w.cell? ⟨g,3,none⟩=some (.int .u8 112):=by rw [ao hB];rfl
 have b3:w.cell? ⟨g,4,none⟩=some (.int .u8 112):=by rw [ao hB];rfl
 have b4:w.cell? ⟨g,5,none⟩=some (.int .u8 111):=by rw [ao hB];rfl
 have b5:w.cell? ⟨g,6,none⟩=some (.int .u8 114):=by rw [ao hB];rfl
 have b6:w.cell? ⟨g,7,none⟩=some (.int .u8 116):=by rw [ao hB];rfl
 have b7:w.cell? ⟨g,8,none⟩=some (.int .u8 115):=by rw [ao hB];rfl
 obtain⟨t0,t1,t2,t3,t4,t5,t6,t7⟩:=hT
 have d0:(w.alloc (.cells (bp .u8 eu).toArray 5 (47,48))).cell? ⟨w.heap.size,25,none⟩=some (.int .u8 115):=by rw [cell_of_row _ _ _ _ _ _ (heap_alloc_new w _)];rfl
 have d1:(w.alloc (.cells (bp .u8 eu).toArray 5 (47,48))).cell? ⟨w.heap.size,26,none⟩=some (.int .u8 117):=by rw [cell_of_row _ _ _ _ _ _ (heap_alloc_new w _)];rfl
 have d2:(w.alloc (.cells (bp .u8 eu).toArray 5 (47,48))).cell? ⟨w.heap.size,27,none⟩=some (.int .u8 112):=by rw [cell_of_row _ _ _ _ _ _ (heap_alloc_new w _)];rfl
 have d3:(w.alloc (.cells (bp .u8 eu).toArray 5 (47,48))).cell? ⟨w.heap.size,28,none⟩=some (.int .u8 112):=by rw [cell_of_row _ _ _ _ _ _ (heap_alloc_new w _)];rfl
 have d4:(w.alloc (.cells (bp .u8 eu).toArray 5 (47,48))).cell? ⟨w.heap.size,29,none⟩=some (.int .u8 111):=by rw [cell_of_row _ _ _ _ _ _ (heap_alloc_new w _)];rfl
 have d5:(w.alloc (.cells (bp .u8 eu).toArray 5 (47,48))).cell? ⟨w.heap.size,30,none⟩=some (.int .u8 114):=by rw [cell_of_row _ _ _ _ _ _ (heap_alloc_new w _)];rfl
 have d6:(w.alloc (.cells (bp .u8 eu).toArray 5 (47,48))).cell? ⟨w.heap.size,31,none⟩=some (.int .u8 116):=by rw [cell_of_row _ _ _ _ _ _ (heap_alloc_new w _)];rfl
 have d7:(w.alloc (.cells (bp .u8 eu).toArray 5 (47,48))).cell? ⟨w.heap.size,32,none⟩=some (.int .u8 115):=by rw [cell_of_row _ _ _ _ _ _ (heap_alloc_new w _)];rfl
 have e0:(w.alloc (.cells (bp .u8 eu).toArray 5 (47,48))).cell? ⟨g,1,none⟩=some (.int .u8 115):=al (au (Below.refl _ _) _) b0
 have e1:(w.alloc (.cells (bp .u8 eu).toArray 5 (47,48))).cell? ⟨g,2,none⟩=some (.int .u8 117):=al (au (Below.refl _ _) _) b1
 have e2:(w.alloc (.cells (bp .u8 eu).toArray 5 (47,48))).cell? ⟨g,3,none⟩=some (.int .u8 112):=al (au (Below.refl _ _) _) b2
 have e3:(w.alloc (.cells (bp .u8 eu).toArray 5 (47,48))).cell? ⟨g,4,none⟩=some (.int .u8 112):=al (au (Below.refl _ _) _) b3
 have e4:(w.alloc (.cells (bp .u8 eu).toArray 5 (47,48))).cell? ⟨g,5,none⟩=some (.int .u8 111):=al (au (Below.refl _ _) _) b4
 have e5:(w.alloc (.cells (bp .u8 eu).toArray 5 (47,48))).cell? ⟨g,6,none⟩=some (.int .u8 114):=al (au (Below.refl _ _) _) b5
 have e6:(w.alloc (.cells (bp .u8 eu).toArray 5 (47,48))).cell? ⟨g,7,none⟩=some (.int .u8 116):=al (au (Below.refl _ _) _) b6
 have e7:(w.alloc (.cells (bp .u8 eu).toArray 5 (47,48))).cell? ⟨g,8,none⟩=some (.int .u8 115):=al (au (Below.refl _ _) _) b7
 clear hB
 have k0:bits .and .u32 1459081326 7=6:=by kernel_rfl
 have k1:bits .and .u32 6408 255=8:=by kernel_rfl
 go_enter Tryz.func73,Tryz.ntmps73
 go_wp2_with (fail)
 refine wp_scope_straight ?_
 go_wp2_with (fail)
 go_loopg [3,4] 8 (fun gk v3 v4 wr=>∃i:Nat,i≤8∧v3= .int .u32 (([1525402570,3660690491,3393115850,451675854,529440026,578936623,2943524711,1148218089,1459081326]:List Int).getD i 0)∧v4= .int .i64 i∧gk=8 - i∧wr=w)
 case atStart=>exact⟨0,by omega,rfl,rfl,rfl,rfl⟩
 case round=>
  obtain⟨i,hi,rfl,rfl,hg,rfl⟩:=hrel
  have jX:i=0∨i=1∨i=2∨i=3∨i=4∨i=5∨i=6∨i=7∨i=8:=by omega
  rcases jX with rfl|rfl|rfl|rfl|rfl|rfl|rfl|rfl|rfl
  ·go_wp2_with (fail)
   go_roundg 7
   case measure=>omega
   case rel=>exact⟨1,by omega,rfl,rfl,rfl,rfl⟩
  ·go_wp2_with (fail)
   go_roundg 6
   case measure=>omega
   case rel=>exact⟨2,by omega,rfl,rfl,rfl,rfl⟩
  ·go_wp2_with (fail)
   go_roundg 5
   case measure=>omega
   case rel=>exact⟨3,by omega,rfl,rfl,rfl,rfl⟩
  ·go_wp2_with (fail)
   go_roundg 4
   case measure=>omega
   case rel=>exact⟨4,by omega,rfl,rfl,rfl,rfl⟩
  ·go_wp2_with (fail)
   go_roundg 3
   case measure=>omega
   case rel=>exact⟨5,by omega,rfl,rfl,rfl,rfl⟩
  ·go_wp2_with (fail)
   go_roundg 2
   case measure=>omega
   case rel=>exact⟨6,by omega,rfl,rfl,rfl,rfl⟩
  ·go_wp2_with (fail)
   go_roundg 1
   case measure=>omega
   case rel=>exact⟨7,by omega,rfl,rfl,rfl,rfl⟩
  ·go_wp2_with (fail)
   go_roundg 0
   case measure=>omega
   case rel=>exact⟨8,by omega,rfl,rfl,rfl,rfl⟩
  ·go_wp2_with (first|(go_at_call 117;(with_reducible refine(tM _).mono ?_);rintro e w1 ⟨rfl,rfl⟩))
   go_loopg [7] 8 (fun gk v7 wq=>∃i m:Nat,i≤8∧v7= .int .i64 i∧gk=8 - i∧wq=(wr.alloc (.cells (bp .u8 eu).toArray 5 (47,48))).drewN m)
   case atStart=>exact⟨0,0,by omega,rfl,rfl,rfl⟩
   case round=>
    obtain⟨i,m,hi,rfl,hg,rfl⟩:=hrel
    have jX:i=0∨i=1∨i=2∨i=3∨i=4∨i=5∨i=6∨i=7∨i=8:=by omega
    rcases jX with rfl|rfl|rfl|rfl|rfl|rfl|rfl|rfl|rfl
    ·go_wp2_with (fail)
     go_quiet (fail)
     rename_i nq
     go_wp2_with (fail)
     go_roundg 7
     case measure=>omega
     case rel=>exact⟨1,m+nq,by omega,rfl,rfl,rfl⟩
    ·go_wp2_with (fail)
     go_quiet (fail)
     rename_i nq
     go_wp2_with (fail)
     go_roundg 6
     case measure=>omega
     case rel=>exact⟨2,m+nq,by omega,rfl,rfl,rfl⟩
    ·go_wp2_with (fail)
     go_quiet (fail)
     rename_i nq
     go_wp2_with (fail)
     go_roundg 5
     case measure=>omega
     case rel=>exact⟨3,m+nq,by omega,rfl,rfl,rfl⟩
    ·go_wp2_with (fail)
     go_quiet (fail)
     rename_i nq
     go_wp2_with (fail)
     go_roundg 4
     case measure=>omega
     case rel=>exact⟨4,m+nq,by omega,rfl,rfl,rfl⟩
    ·go_wp2_with (fail)
     go_quiet (fail)
     rename_i nq
     go_wp2_with (fail)
     go_roundg 3
     case measure=>omega
     case rel=>exact⟨5,m+nq,by omega,rfl,rfl,rfl⟩
    ·go_wp2_with (fail)
     go_quiet (fail)
     rename_i nq
     go_wp2_with (fail)
     go_roundg 2
     case measure=>omega
     case rel=>exact⟨6,m+nq,by omega,rfl,rfl,rfl⟩
    ·go_wp2_with (fail)
     go_quiet (fail)
     rename_i nq
     go_wp2_with (fail)
     go_roundg 1
     case measure=>omega
     case rel=>exact⟨7,m+nq,by omega,rfl,rfl,rfl⟩
    ·go_wp2_with (fail)
     go_quiet (fail)
     rename_i nq
     go_wp2_with (fail)
     go_roundg 0
     case measure=>omega
     case rel=>exact⟨8,m+nq,by omega,rfl,rfl,rfl⟩
    ·go_wp2_with (fail)
     simp only [Exit.noGoto]
     go_ret
     exact⟨rfl,bn (au (Below.refl _ _) _) m⟩
theorem uY {w:World} {g cap:Nat} (hT:ld w) (hB:qe w g [64,100,111,99,117,109,101,110,116]) (lS:cap≤maxLen) (hc:8≤cap):
  Calls Tryz.prog 73 #[.slice (some ⟨g,1,none⟩) 8 cap] w fun e w' =>e= .returned (.int .u32 8)∧Below w.heap.size w w':=by
 have b0:w.cell? ⟨g,1,none⟩=some (.int .u8 100):=by rw [ao hB];rfl
 have b1:w.cell? ⟨g,2,none⟩=some (.int .u8 111):=by rw [ao hB];rfl
 have b2:w.cell? ⟨g,3,none⟩=some (.int .u8 99):=by rw [ao hB];rfl
 have b3:w.cell? ⟨g,4,none⟩=some (.int .u8 117):=by rw [ao hB];rfl
 have b4:w.cell? ⟨g,5,none⟩=some (.int .u8 109):=by rw [ao hB];rfl
 have b5:w.cell? ⟨g,6,none⟩=some (.int .u8 101):=by rw [ao hB];rfl
 have b6:w.cell? ⟨g,7,none⟩=some (.int .u8 110):=by rw [ao hB];rfl
 have b7:w.cell? ⟨g,8,none⟩=some (.int .u8 116):=by rw [ao hB];rfl
 obtain⟨t0,t1,t2,t3,t4,t5,t6,t7⟩:=hT
 have d0:(w.alloc (.cells (bp .u8 eu).toArray 5 (47,48))).cell? ⟨w.heap.size,0,none⟩=some (.int .u8 100):=by rw [cell_of_row _ _ _ _ _ _ (heap_alloc_new w _)];rfl
 have d1:(w.alloc (.cells (bp .u8 eu).toArray 5 (47,48))).cell? ⟨w.heap.size,1,none⟩=some (.int .u8 111):=by rw [cell_of_row _ _ _ _ _ _ (heap_alloc_new w _)];rfl
 have d2:(w.alloc (.cells (bp .u8 eu).toArray 5 (47,48))).cell? ⟨w.heap.size,2,none⟩=some (.int .u8 99):=by rw [cell_of_row _ _ _ _ _ _ (heap_alloc_new w _)];rfl
 have d3:(w.alloc (.cells (bp .u8 eu).toArray 5 (47,48))).cell? ⟨w.heap.size,3,none⟩=some (.int .u8 117):=by rw [cell_of_row _ _ _ _ _ _ (heap_alloc_new w _)];rfl
 have d4:(w.alloc (.cells (bp .u8 eu).toArray 5 (47,48))).cell? ⟨w.heap.size,4,none⟩=some (.int .u8 109):=by rw [cell_of_row _ _ _ _ _ _ (heap_alloc_new w _)];rfl
 have d5:(w.alloc (.cells (bp .u8 eu).toArray 5 (47,48))).cell? ⟨w.heap.size,5,none⟩=some (.int .u8 101):=by rw [cell_of_row _ _ _ _ _ _ (heap_alloc_new w _)];rfl
 have d6:(w.alloc (.cells (bp .u8 eu).toArray 5 (47,48))).cell? ⟨w.heap.size,6,none⟩=some (.int .u8 110):=by rw [cell_of_row _ _ _ _ _ _ (heap_alloc_new w _)];rfl
 have d7:(w.alloc (.cells (bp .u8 eu).toArray 5 (47,48))).cell? ⟨w.heap.size,7,none⟩=some (.int .u8 116):=by rw [cell_of_row _ _ _ _ _ _ (heap_alloc_new w _)];rfl
 have e0:(w.alloc (.cells (bp .u8 eu).toArray 5 (47,48))).cell? ⟨g,1,none⟩=some (.int .u8 100):=al (au (Below.refl _ _) _) b0
 have e1:(w.alloc (.cells (bp .u8 eu).toArray 5 (47,48))).cell? ⟨g,2,none⟩=some (.int .u8 111):=al (au (Below.refl _ _) _) b1
 have e2:(w.alloc (.cells (bp .u8 eu).toArray 5 (47,48))).cell? ⟨g,3,none⟩=some (.int .u8 99):=al (au (Below.refl _ _) _) b2
 have e3:(w.alloc (.cells (bp .u8 eu).toArray 5 (47,48))).cell? ⟨g,4,none⟩=some (.int .u8 117):=al (au (Below.refl _ _) _) b3
 have e4:(w.alloc (.cells (bp .u8 eu).toArray 5 (47,48))).cell? ⟨g,5,none⟩=some (.int .u8 109):=al (au (Below.refl _ _) _) b4
 have e5:(w.alloc (.cells (bp .u8 eu).toArray 5 (47,48))).cell? ⟨g,6,none⟩=some (.int .u8 101):=al (au (Below.refl _ _) _) b5
 have e6:(w.alloc (.cells (bp .u8 eu).toArray 5 (47,48))).cell? ⟨g,7,none⟩=some (.int .u8 110):=al (au (Below.refl _ _) _) b6
 have e7:(w.alloc (.cells (bp .u8 eu).toArray 5 (47,48))).cell? ⟨g,8,none⟩=some (.int .u8 116):=al (au (Below.refl _ _) _) b7
 clear hB
 have k0:bits .and .u32 1907642103 7=7:=by kernel_rfl
 have k1:bits .and .u32 8453 255=5:=by kernel_rfl
 have k2:bits .and .u32 29108 7=4:=by kernel_rfl
 have k3:bits .and .u32 8 255=8:=by kernel_rfl
 go_enter Tryz.func73,Tryz.ntmps73
 go_wp2_with (fail)
 refine wp_scope_straight ?_
 go_wp2_with (fail)
 go_loopg [3,4] 8 (fun gk v3 v4 wr=>∃i:Nat,i≤8∧v3= .int .u32 (([1525402570,3476136682,2955073375,2195247988,4233374355,914337242,2315158445,4272516089,1907642103]:List Int).getD i 0)∧v4= .int .i64 i∧gk=8 - i∧wr=w)
 case atStart=>exact⟨0,by omega,rfl,rfl,rfl,rfl⟩
 case round=>
  obtain⟨i,hi,rfl,rfl,hg,rfl⟩:=hrel
  have jX:i=0∨i=1∨i=2∨i=3∨i=4∨i=5∨i=6∨i=7∨i=8:=by omega
  rcases jX with rfl|rfl|rfl|rfl|rfl|rfl|rfl|rfl|rfl
  ·go_wp2_with (fail)
   go_roundg 7
   case measure=>omega
   case rel=>exact⟨1,by omega,rfl,rfl,rfl,rfl⟩
  ·go_wp2_with (fail)
   go_roundg 6
   case measure=>omega
   case rel=>exact⟨2,by omega,rfl,rfl,rfl,rfl⟩
  ·go_wp2_with (fail)
   go_roundg 5
   case measure=>omega
   case rel=>exact⟨3,by omega,rfl,rfl,rfl,rfl⟩
  ·go_wp2_with (fail)
   go_roundg 4
   case measure=>omega
   case rel=>exact⟨4,by omega,rfl,rfl,rfl,rfl⟩
  ·go_wp2_with (fail)
   go_roundg 3
   case measure=>omega
   case rel=>exact⟨5,by omega,rfl,rfl,rfl,rfl⟩
  ·go_wp2_with (fail)
   go_roundg 2
   case measure=>omega
   case rel=>exact⟨6,by omega,rfl,rfl,rfl,rfl⟩
  ·go_wp2_with (fail)
   go_roundg 1
   case measure=>omega
   case rel=>exact⟨7,by omega,rfl,rfl,rfl,rfl⟩
  ·go_wp2_with (fail)
   go_roundg 0
   case measure=>omega
   case rel=>exact⟨8,by omega,rfl,rfl,rfl,rfl⟩
  ·go_wp2_with (fail)
   go_step3
   go_wp2_with (first|(go_at_call 117;(with_reducible refine(tM _).mono ?_);rintro e w1 ⟨rfl,rfl⟩))
   go_loopg [10] 8 (fun gk v7 wq=>∃i m:Nat,i≤8∧v7= .int .i64 i∧gk=8 - i∧wq=(wr.alloc (.cells (bp .u8 eu).toArray 5 (47,48))).drewN m)
   case atStart=>exact⟨0,0,by omega,rfl,rfl,rfl⟩
   case round=>
    obtain⟨i,m,hi,rfl,hg,rfl⟩:=hrel
    have jX:i=0∨i=1∨i=2∨i=3∨i=4∨i=5∨i=6∨i=7∨i=8:=by omega
    rcases jX with rfl|rfl|rfl|rfl|rfl|rfl|rfl|rfl|rfl
    ·go_wp2_with (fail)
     go_quiet (fail)
     rename_i nq
     go_wp2_with (fail)
     go_roundg 7
     case measure=>omega
     case rel=>exact⟨1,m+nq,by omega,rfl,rfl,rfl⟩
    ·go_wp2_with (fail)
     go_quiet (fail)
     rename_i nq
     go_wp2_with (fail)
     go_roundg 6
     case measure=>omega
     case rel=>exact⟨2,m+nq,by omega,rfl,rfl,rfl⟩
    ·go_wp2_with (fail)
     go_quiet (fail)
     rename_i nq
     go_wp2_with (fail)
     go_roundg 5
     case measure=>omega
     case rel=>exact⟨3,m+nq,by omega,rfl,rfl,rfl⟩
    ·go_wp2_with (fail)
     go_quiet (fail)
     rename_i nq
     go_wp2_with (fail)
     go_roundg 4
     case measure=>omega
     case rel=>exact⟨4,m+nq,by omega,rfl,rfl,rfl⟩
    ·go_wp2_with (fail)
     go_quiet (fail)
     rename_i nq
     go_wp2_with (fail)
     go_roundg 3
     case measure=>omega
     case rel=>exact⟨5,m+nq,by omega,rfl,rfl,rfl⟩
    ·go_wp2_with (fail)
     go_quiet (fail)
     rename_i nq
     go_wp2_with (fail)
     go_roundg 2
     case measure=>omega
     case rel=>exact⟨6,m+nq,by omega,rfl,rfl,rfl⟩
    ·go_wp2_with (fail)
     go_quiet (fail)
     rename_i nq
     go_wp2_with (fail)
     go_roundg 1
     case measure=>omega
     case rel=>exact⟨7,m+nq,by omega,rfl,rfl,rfl⟩
    ·go_wp2_with (fail)
     go_quiet (fail)
     rename_i nq
     go_wp2_with (fail)
     go_roundg 0
     case measure=>omega
     case rel=>exact⟨8,m+nq,by omega,rfl,rfl,rfl⟩
    ·go_wp2_with (fail)
     simp only [Exit.noGoto]
     go_ret
     exact⟨rfl,bn (au (Below.refl _ _) _) m⟩
theorem Bt {w:World} {g cap:Nat} (hT:ld w) (hB:qe w g [64,105,109,112,111,114,116]) (lS:cap≤maxLen) (hc:6≤cap):
  Calls Tryz.prog 73 #[.slice (some ⟨g,1,none⟩) 6 cap] w fun e w' =>e= .returned (.int .u32 0)∧Below w.heap.size w w':=by
 have b0:w.cell? ⟨g,1,none⟩=some (.int .u8 105):=by rw [ao hB];rfl
 have b1:w.cell? ⟨g,2,none⟩=some (.int .u8 109):=by rw [ao hB];rfl
 have b2:w.cell? ⟨g,3,none⟩=some (.int .u8 112):=by rw [ao hB];rfl
 have b3:w.cell? ⟨g,4,none⟩=some (.int .u8 111):=by rw [ao hB];rfl
 have b4:w.cell? ⟨g,5,none⟩=some (.int .u8 114):=by rw [ao hB];rfl
 have b5:w.cell? ⟨g,6,none⟩=some (.int .u8 116):=by rw [ao hB];rfl
 obtain⟨t0,t1,t2,t3,t4,t5,t6,t7⟩:=hT
 clear hB
 have k0:bits .and .u32 989738935 7=7:=by kernel_rfl
 have k1:bits .and .u32 8453 255=5:=by kernel_rfl
 have k2:bits .and .u32 15102 7=6:=by kernel_rfl
 have k3:bits .and .u32 6408 255=8:=by kernel_rfl
 go_enter Tryz.func73,Tryz.ntmps73
 go_wp2_with (fail)
 refine wp_scope_straight ?_
 go_wp2_with (fail)
 go_loopg [3,4] 6 (fun gk v3 v4 wr=>∃i:Nat,i≤6∧v3= .int .u32 (([1525402570,3291582873,3456680732,3284902660,2761048433,356276153,989738935]:List Int).getD i 0)∧v4= .int .i64 i∧gk=6 - i∧wr=w)
 case atStart=>exact⟨0,by omega,rfl,rfl,rfl,rfl⟩
 case round=>
  obtain⟨i,hi,rfl,rfl,hg,rfl⟩:=hrel
  have jX:i=0∨i=1∨i=2∨i=3∨i=4∨i=5∨i=6:=by omega
  rcases jX with rfl|rfl|rfl|rfl|rfl|rfl|rfl
  ·go_wp2_with (fail)
   go_roundg 5
   case measure=>omega
   case rel=>exact⟨1,by omega,rfl,rfl,rfl,rfl⟩
  ·go_wp2_with (fail)
   go_roundg 4
   case measure=>omega
   case rel=>exact⟨2,by omega,rfl,rfl,rfl,rfl⟩
  ·go_wp2_with (fail)
   go_roundg 3
   case measure=>omega
   case rel=>exact⟨3,by omega,rfl,rfl,rfl,rfl⟩
  ·go_wp2_with (fail)
   go_roundg 2
   case measure=>omega
   case rel=>exact⟨4,by omega,rfl,rfl,rfl,rfl⟩
  ·go_wp2_with (fail)
   go_roundg 1
   case measure=>omega
   case rel=>exact⟨5,by omega,rfl,rfl,rfl,rfl⟩
  ·go_wp2_with (fail)
   go_roundg 0
   case measure=>omega
   case rel=>exact⟨6,by omega,rfl,rfl,rfl,rfl⟩
  ·go_wp2_with (fail)
   go_step3
   go_wp2_with (fail)
   simp only [Exit.noGoto]
   go_ret
   exact⟨rfl,Below.refl _ _⟩
theorem yk {w:World} {g cap:Nat} (hT:ld w) (hB:qe w g [64,99,104,97,114,115,101,116]) (lS:cap≤maxLen) (hc:7≤cap):
  Calls Tryz.prog 73 #[.slice (some ⟨g,1,none⟩) 7 cap] w fun e w' =>e= .returned (.int .u32 0)∧Below w.heap.size w w':=by
 have b0:w.cell? ⟨g,1,none⟩=some (.int .u8 99):=by rw [ao hB];rfl
 have b1:w.cell? ⟨g,2,none⟩=some (.int .u8 104):=by rw [ao hB];rfl
 have b2:w.cell? ⟨g,3,none⟩=some (.int .u8 97):=by rw [ao hB];rfl
 have b3:w.cell? ⟨g,4,none⟩=some (.int .u8 114):=by rw [ao hB];rfl
 have b4:w.cell? ⟨g,5,none⟩=some (.int .u8 115):=by rw [ao hB];rfl
 have b5:w.cell? ⟨g,6,none⟩=some (.int .u8 101):=by rw [ao hB];rfl
 have b6:w.cell? ⟨g,7,none⟩=some (.int .u8 116):=by rw [ao hB];rfl
 obtain⟨t0,t1,t2,t3,t4,t5,t6,t7⟩:=hT
 clear hB
 have k0:bits .and .u32 3649084950 7=6:=by kernel_rfl
 have k1:bits .and .u32 6408 255=8:=by kernel_rfl
 have k2:bits .and .u32 55680 7=0:=by kernel_rfl
 have k3:bits .and .u32 4361 255=9:=by kernel_rfl
 go_enter Tryz.func73,Tryz.ntmps73
 go_wp2_with (fail)
 refine wp_scope_straight ?_
 go_wp2_with (fail)
 go_loopg [3,4] 7 (fun gk v3 v4 wr=>∃i:Nat,i≤7∧v3= .int .u32 (([1525402570,3392248587,2937560281,1512813992,3436135982,3343631463,3192229670,3649084950]:List Int).getD i 0)∧v4= .int .i64 i∧gk=7 - i∧wr=w)
 case atStart=>exact⟨0,by omega,rfl,rfl,rfl,rfl⟩
 case round=>
  obtain⟨i,hi,rfl,rfl,hg,rfl⟩:=hrel
  have jX:i=0∨i=1∨i=2∨i=3∨i=4∨i=5∨i=6∨i=7:=by omega
  rcases jX with rfl|rfl|rfl|rfl|rfl|rfl|rfl|rfl
  ·go_wp2_with (fail)
   go_roundg 6
   case measure=>omega
   case rel=>exact⟨1,by omega,rfl,rfl,rfl,rfl⟩
  ·go_wp2_with (fail)
   go_roundg 5
   case measure=>omega
   case rel=>exact⟨2,by omega,rfl,rfl,rfl,rfl⟩
  ·go_wp2_with (fail)
   go_roundg 4
   case measure=>omega
   case rel=>exact⟨3,by omega,rfl,rfl,rfl,rfl⟩
  ·go_wp2_with (fail)
   go_roundg 3
   case measure=>omega
   case rel=>exact⟨4,by omega,rfl,rfl,rfl,rfl⟩
  ·go_wp2_with (fail)
   go_roundg 2
   case measure=>omega
   case rel=>exact⟨5,by omega,rfl,rfl,rfl,rfl⟩
  ·go_wp2_with (fail)
   go_roundg 1
   case measure=>omega
   case rel=>exact⟨6,by omega,rfl,rfl,rfl,rfl⟩
  ·go_wp2_with (fail)
   go_roundg 0
   case measure=>omega
   case rel=>exact⟨7,by omega,rfl,rfl,rfl,rfl⟩
  ·go_wp2_with (fail)
   go_step3
   go_wp2_with (fail)
   simp only [Exit.noGoto]
   go_ret
   exact⟨rfl,Below.refl _ _⟩
theorem tN {w:World} {g cap:Nat} (hT:ld w) (hB:qe w g [64,110,97,109,101,115,112,97,99,101]) (lS:cap≤maxLen) (hc:9≤cap):
  Calls Tryz.prog 73 #[.slice (some ⟨g,1,none⟩) 9 cap] w fun e w' =>e= .returned (.int .u32 0)∧Below w.heap.size w w':=by
 have b0:w.cell? ⟨g,1,none⟩=some (.int .u8 110):=by rw [ao hB];rfl
 have b1:w.cell? ⟨g,2,none⟩=some (.int .u8 97):=by rw [ao hB];rfl
 have b2:w.cell? ⟨g,3,none⟩=some (.int .u8 109):=by rw [ao hB];rfl
 have b3:w.cell? ⟨g,4,none⟩=some (.int .u8 101):=by rw [ao hB];rfl
 have b4:w.cell? ⟨g,5,none⟩=some (.int .u8 115):=by rw [ao hB];rfl
 have b5:w.cell? ⟨g,6,none⟩=some (.int .u8 112):=by rw [ao hB];rfl
 have b6:w.cell? ⟨g,7,none⟩=some (.int .u8 97):=by rw [ao hB];rfl
 have b7:w.cell? ⟨g,8,none⟩=some (.int .u8 99):=by rw [ao hB];rfl
 have b8:w.cell? ⟨g,9,none⟩=some (.int .u8 101):=by rw [ao hB];rfl
 obtain⟨t0,t1,t2,t3,t4,t5,t6,t7⟩:=hT
 clear hB
 have k0:bits .and .u32 3354003121 7=1:=by kernel_rfl
 have k1:bits .and .u32 11012 255=4:=by kernel_rfl
 have k2:bits .and .u32 51178 7=2:=by kernel_rfl
 have k3:bits .and .u32 9733 255=5:=by kernel_rfl
 go_enter Tryz.func73,Tryz.ntmps73
 go_wp2_with (fail)
 refine wp_scope_straight ?_
 go_wp2_with (fail)
 go_loopg [3,4] 9 (fun gk v3 v4 wr=>∃i:Nat,i≤9∧v3= .int .u32 (([1525402570,3308360492,3121275447,958550958,3154765969,3852049350,651173762,4238488153,3981775182,3354003121]:List Int).getD i 0)∧v4= .int .i64 i∧gk=9 - i∧wr=w)
 case atStart=>exact⟨0,by omega,rfl,rfl,rfl,rfl⟩
 case round=>
  obtain⟨i,hi,rfl,rfl,hg,rfl⟩:=hrel
  have jX:i=0∨i=1∨i=2∨i=3∨i=4∨i=5∨i=6∨i=7∨i=8∨i=9:=by omega
  rcases jX with rfl|rfl|rfl|rfl|rfl|rfl|rfl|rfl|rfl|rfl
  ·go_wp2_with (fail)
   go_roundg 8
   case measure=>omega
   case rel=>exact⟨1,by omega,rfl,rfl,rfl,rfl⟩
  ·go_wp2_with (fail)
   go_roundg 7
   case measure=>omega
   case rel=>exact⟨2,by omega,rfl,rfl,rfl,rfl⟩
  ·go_wp2_with (fail)
   go_roundg 6
   case measure=>omega
   case rel=>exact⟨3,by omega,rfl,rfl,rfl,rfl⟩
  ·go_wp2_with (fail)
   go_roundg 5
   case measure=>omega
   case rel=>exact⟨4,by omega,rfl,rfl,rfl,rfl⟩
  ·go_wp2_with (fail)
   go_roundg 4
   case measure=>omega
   case rel=>exact⟨5,by omega,rfl,rfl,rfl,rfl⟩
  ·go_wp2_with (fail)
   go_roundg 3
   case measure=>omega
   case rel=>exact⟨6,by omega,rfl,rfl,rfl,rfl⟩
  ·go_wp2_with (fail)
   go_roundg 2
   case measure=>omega
   case rel=>exact⟨7,by omega,rfl,rfl,rfl,rfl⟩
  ·go_wp2_with (fail)
   go_roundg 1
   case measure=>omega
   case rel=>exact⟨8,by omega,rfl,rfl,rfl,rfl⟩
  ·go_wp2_with (fail)
   go_roundg 0
   case measure=>omega
   case rel=>exact⟨9,by omega,rfl,rfl,rfl,rfl⟩
  ·go_wp2_with (fail)
   go_step3
   go_wp2_with (fail)
   simp only [Exit.noGoto]
   go_ret
   exact⟨rfl,Below.refl _ _⟩
end Go.Proofs.YtlglijnaeaonpaaGreatDoor.Lx
end
section
set_option maxHeartbeats 8000000
set_option maxRecDepth 100000
set_option linter.unusedVariables false
set_option linter.unusedSimpArgs false
namespace Go.Proofs.YtlglijnaeaonpaaGreatDoor.Lx
open Go.RowKit Go.Proofs.YtlglijnaeaonpaaGreatDoorW.aC
variable {w0 w wr:World} {c:lQ} {p:Int} {B:Nat} {gp:Nat} {v:PV} {ts:List Tk} {fs:List Nat} {ds:List Int} {k q:Int} {xs:List Int} {hv:Int}
theorem ld.kt {w' :World} (h:ld w) (k:Kt B w w') (hB:1<B):ld w':=by
 have e:∀j:Nat,w'.cell? ⟨1,j,none⟩=w.cell? ⟨1,j,none⟩:=fun j=>by
  unfold World.cell?
  rw [show w'.heap[(⟨1,j,none⟩:Addr).block]? =w.heap[(⟨1,j,none⟩:Addr).block]? from k.low 1 hB]
 unfold ld
 simp only [e]
 exact h
def Wr (nm:List Int) (hv:Int):Prop:=nm.length≤20∧0<nm.length∧(∀x∈nm,97≤x∧x≤122)∧
 ∀(W:World) (g:Nat),ld W→qe W g (64::nm)→Calls Tryz.prog 73 #[.slice (some ⟨g,1,none⟩) nm.length nm.length] W fun e w' =>e= .returned (.int .u32 hv)∧Below W.heap.size W w'
theorem qe.rd {g:Nat} (h:qe w g xs) (hl:xs.length≤1099511627776):Rd w (.slice (some ⟨g,0,none⟩) xs.length xs.length) xs:=
 ⟨_,_,_,rfl,rfl,hl,fun _=>⟨g,0,_,_,rfl,h,fun j hj=>by
  simp [bp,List.getD_eq_getElem?_getD,List.getElem?_eq_getElem hj]⟩⟩
theorem U1 {l:List Int} (h:∀x∈l,97≤x∧x≤122):l.map low=l:=by
 have e:∀x∈l,low x=id x:=fun x hx=>by
  have:=h x hx
  unfold low
  rw [if_neg (by omega)]
  rfl
 rw [List.map_congr_left e,List.map_id]
theorem F3 {nm:List Int} {r:List (Tk×Bool)} {q2 kE gt:Int} {fs' :List Nat} {uj:List Int} {tF:Bool} (h:Ps B w0 c gp w p v ts fs (64::nm)) (hT:ld w0) (mv:1<B) (hn:Wr nm hv) (ij:v.kw=false) (iW:v.lvl=0) (mB:v.pe=false) (jE:fs.length≤1000) (oD:r.length<10000000)
  (hs:eJ c.bs q 0 p r) (cW:eo c.bs q kE q2 uj tF) (oh:RC kE hv gt fs fs'):
  Calls Tryz.prog 54 #[.pointer (some ⟨gp,0,none⟩)] w fun e w' =>e= .returned (.int .u32 gt)∧∃v' bN,bH bN =bH (flat r)∧bN.length≤100000000∧
   (v'.err=v.err∧v'.tt=v.tt∧v'.kw=false∧v'.pe=false∧v'.lvl=0)∧Pk B w0 c gp w w' q2 v' bN fs' (64::nm):=by
 have h0:0<B:=by omega
 have HH:=am (And.intro h (And.intro hT hn))
 have HX:=am (And.intro ij (And.intro iW (And.intro mB (And.intro hs (And.intro cW oh)))))
 have hnl:=hn.1
 have hnp:=hn.2.1
 clear h hT hn ij iW mB hs cW oh
 go_enter Tryz.func54,Tryz.ntmps54
 go_wp2_with (fail)
 refine(xN HH.out.1 h0).mono ?_
 rintro e w1 ⟨rfl,b1,mz⟩
 have c6:=mz.1.c6
 obtain⟨A,n,cp,yd,oz,wi,oT⟩:=mz.1.Dy.reads
 have hvd:v.data= .slice A n cp:=yd
 simp only at c6
 rw [hvd] at c6
 have BY:n=nm.length+1:=by rw [←oz];rfl
 have qh:=am (And.intro mz (And.intro oT (And.intro BY oz)))
 have aht:n≤21:=by omega
 have ahu:2≤n:=by omega
 clear mz oT yd BY oz hvd
 go_wp2_with (fail)
 refine(copy A n cp (64::nm) _ qh.out.2.1 (by omega)).mono ?_
 rintro e w2 ⟨g,rfl,dc,rT,Hi⟩
 have aaP:∀x∈(64::nm:List Int),0≤x∧x≤255:=by
  intro x hx
  rcases List.mem_cons.1 hx with rfl|hx
  ·omega
  ·have:=HH.out.2.2.2.2.1 x hx
   omega
 have rD:(64::nm:List Int).map low=64::nm:=by
  rw [List.map_cons,U1 HH.out.2.2.2.2.1]
  rfl
 have kY:=am (And.intro dc (And.intro rT (And.intro Hi (And.intro aaP rD))))
 clear dc rT Hi aaP rD
 go_wp2_with (fail)
 refine(lower g n (64::nm) kY.out.1 qh.out.2.2.2 (by omega) kY.out.2.2.2.1 kY.out.2.2.1 kY.out.2.1).mono ?_
 rintro e w3 ⟨rfl,kX,Bu⟩
 rw [kY.out.2.2.2.2] at kX
 have gm:=qh.out.1.1.below Bu
 have U2:=kX.rd (by rw [qh.out.2.2.2];omega)
 rw [qh.out.2.2.2] at U2
 have tK:=gm.store h0 6 (.slice (some ⟨g,0,none⟩) n n) {v with buf:=b1,data:=.slice (some ⟨g,0,none⟩) n n} [] fs (64::nm) rfl gm.tb gm.rS U2
 have lW:Kt B w (w3.setCell ⟨gp,6,none⟩ (.slice (some ⟨g,0,none⟩) n n)):=(qh.out.1.2.below Bu qh.out.1.1.hB).trans (gm.eY 6 _)
 have F4:qe (w3.setCell ⟨gp,6,none⟩ (.slice (some ⟨g,0,none⟩) n n)) g (64::nm):=(gm.eY 6 _).QL _ _ kX rfl
 have f6:=gm.f 6
 have d6:=gm.c6
 have e6:=tK.c6
 have e1:(w3.setCell ⟨gp,6,none⟩ (.slice (some ⟨g,0,none⟩) n n)).cell? ⟨g,1,none⟩=some (.int .u8 (nm.getD 0 0)):=by
  rw [ao F4]
  cases nm with
  | nil=>simp at hnp
  | cons a r=>rfl
 have jJ:(nm.getD 0 0==45)=false:=by
  cases nm with
  | nil=>simp at hnp
  | cons a r=>
   have:=HH.out.2.2.2.2.1 a (List.mem_cons_self ..)
   simp
   omega
 have kp:=am (And.intro tK (And.intro lW F4))
 have TN:decide ((n:Int)>0)=true:=decide_eq_true (by omega)
 have oP:(1:Int)<(n:Int):=by omega
 have hm3:(1:Int)≤(n:Int):=by omega
 have T2:n - 1=nm.length:=by have:=qh.out.2.2.1;omega
 have HM4:=am T2
 simp only at e6 d6
 generalize nm.getD 0 0=b0 at e1 jJ
 clear kX gm tK lW F4 U2 Bu T2 hnl hnp
 go_wp2_with (fail)
 have hh:=HH.out.2.2.2.2.2 _ g (HH.out.2.1.kt kp.out.1.kt mv) kp.out.2.2
 rw [←HM4.out] at hh
 refine hh.mono ?_
 rintro e w5 ⟨rfl,jT⟩
 have pd:Pk B w0 c gp w w5 p {v with buf:=b1,data:=.slice (some ⟨g,0,none⟩) n n} [] fs (64::nm):=⟨kp.out.1.below jT,kp.out.2.1.below jT kp.out.1.hB⟩
 have nn:=am pd
 clear pd jT hh
 go_wp2_with (fail)
 refine cZ 260 (fun gk l wr=>AI B w0 c gp hv w {v with buf:=b1,data:=.slice (some ⟨g,0,none⟩) n n} fs (64::nm) r q gk l wr) (r.length+1) _ (by kernel_rfl) ⟨true,false,0,p,{v with buf:=b1,data:=.slice (some ⟨g,0,none⟩) n n},[],[],r,rfl,⟨by kernel_rfl,rfl,rfl,rfl,rfl⟩,rfl,HX.out.2.1,Nat.zero_le _,⟨rfl,rfl,rfl,rfl,HX.out.1,rfl,rfl,rfl⟩,rfl,Nat.zero_le _,nn.out,HX.out.2.2.2.1⟩ ?_
 rintro k l wr hl hI J hJ
 show Code.wp Tryz.prog da _ _ _
 refine Pw hI h0 HX.out.2.2.1 jE oD HX.out.2.2.2.2.1 HX.out.2.2.2.2.2 hJ ?_
 rintro l' wx v' bN Ir e2 DN hlen ⟨q1,q2',q3,q4,q5,q6⟩ hp
 simp only [Exit.inBlock,Exit.then]
 refine bodyPost_ret (results_tmp rfl _ _ _) rfl ⟨?_,v',bN,DN,hlen,⟨q1,q2',q3,q4,q5⟩,hp⟩
 exact congrArg Ending.returned (oF e2 Ir (by decide))
end Go.Proofs.YtlglijnaeaonpaaGreatDoor.Lx
end
