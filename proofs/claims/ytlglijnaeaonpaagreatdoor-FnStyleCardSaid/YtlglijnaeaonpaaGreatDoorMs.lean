/- FnStyle: a part of the proof (Ms). -/
import Derived.Test.YtlglijnaeaonpaaGreatDoorMn
import Derived.StillTailTactics
import Derived.Lib.SlBytesConst
import Derived.Deep.LoopGhost
import Derived.Deep.DeepCutAuto
import Derived.ArgAppend
import Derived.Test.YtlglijnaeaonpaaGreatDoorMr
section
set_option maxHeartbeats 8000000
set_option maxRecDepth 100000
set_option linter.unusedVariables false
set_option linter.unusedSimpArgs false
namespace Go.Proofs.YtlglijnaeaonpaaGreatDoor.Lx
open Go.RowKit Go.Proofs.YtlglijnaeaonpaaGreatDoorW.PrintWords
variable {w0 w wr : World} {c : Cfg} {p : Int} {B : Nat} {gp : Nat} {v : PV} {ts : List Tk} {fs : List Nat} {ds : List Int} {k q : Int} {xs : List Int} {K : Act → World → Prop} {Q : Exit → Act → World → Prop} {l : List Value} {off : Int}
theorem dec5n {x : Tk} {dv : Value} {lvl lvl' : Nat} (h : Mid B w0 c gp w off x dv p v ts fs ds l wr) (hlv : v.lvl = lvl) (hlb : lvl ≤ 100000000) (hs : step lvl x.tt lvl')
  (hK : ∀ l',l'.getD 44 default = .bool false → Mid B w0 c gp w off x dv p v ts fs ds l' wr → K ⟨l'.toArray,[]⟩ wr) : Code.wp Tryz.prog (nav [0,1,0,0] db) (Exit.then K Q) ⟨l.toArray,[]⟩ wr:=by
 have HM:=Aside0.mk h
 obtain ⟨⟨hl,hl0⟩,h3,h4,h5,hP,hd⟩:=h
 obtain ⟨f,hf,rfl⟩:=lit453 l hl
 rw [hf] at hl0 h3 h4 h5
 rw [hl0,h3,h4,h5]
 clear hf hl hl0 h3 h4 h5 hd
 have hlvc:=hP.1.c5
 rw [hlv] at hlvc
 have HS:=Aside0.mk hs
 clear hP hs hlv
 conv => arg 2;whnf
 have hM : ∀ l' : List Value,l'.length = 453 → l'.getD 0 default = .pointer (some ⟨gp,0,none⟩) → l'.getD 3 default = .int .i64 off → l'.getD 4 default = .int .u32 x.tt → l'.getD 5 default = dv → Mid B w0 c gp w off x dv p v ts fs ds l' wr :=
  fun l' a b d e g => ⟨⟨a,b⟩,d,e,g,HM.out.2.2.2.2⟩
 have HMM:=Aside0.mk hM
 clear hM
 have hK2 : ∀ l',Aside0 (l'.getD 44 default = .bool false ∧ Mid B w0 c gp w off x dv p v ts fs ds l' wr) → K ⟨l'.toArray,[]⟩ wr:=fun l' hh => hK l' hh.out.1 hh.out.2
 clear hK
 rcases HS.out with ⟨hk|hk|hk,-⟩|⟨hk|hk,-⟩|⟨⟨y0,y1,y2,y3,y4,y5,y6,y7,y8⟩,-⟩
 ·go_wp2_with (fail)
  exact Aside0.mk ⟨rfl,HMM.out _ (by kernel_rfl) rfl rfl rfl rfl⟩
 all_goals
  go_wp2_with (fail)
  exact Aside0.mk ⟨rfl,HMM.out _ (by kernel_rfl) rfl rfl rfl rfl⟩
theorem dec4 (h : Pk B w0 c gp w wr p v ts fs ds) (h0 : 0 < B) (hkw : v.kw = false) {x : Tk} {ws : Bool} (hp : PopR c.bs p x.tt q x.bs ws) (hl : Fr gp l) (h3 : l.getD 3 default = .int .i64 off)
  (hK : ∀ l' wx dv,Mid B w0 c gp w off x dv q { v with pw:=ws,pc:=false } ts fs ds l' wx → K ⟨l'.toArray,[]⟩ wx) : Code.wp Tryz.prog (nav [0,0] db) (Exit.then K Q) ⟨l.toArray,[]⟩ wr:=by
 obtain ⟨hl,hl0⟩:=hl
 obtain ⟨f,hf,rfl⟩:=lit453 l hl
 rw [hf] at hl0 h3
 rw [hl0,h3]
 clear hf hl hl0 h3
 conv => arg 2;whnf
 have HH:=Aside0.mk h
 have HKW:=Aside0.mk hkw
 have HP:=Aside0.mk hp
 clear h hkw hp
 go_wp2_with (fail)
 refine (pop HH.out.1 h0 HKW.out false HP.out).mono ?_
 rintro e w3 ⟨dv,rfl,hd,hP3,hK3⟩
 have HD:=Aside0.mk hd
 have HP3:=Aside0.mk hP3
 have HK3:=Aside0.mk (HH.out.2.trans hK3)
 clear hd hP3 hK3
 go_wp2_with (fail)
 exact hK _ _ dv ⟨⟨by kernel_rfl,rfl⟩,rfl,rfl,rfl,⟨HP3.out,HK3.out⟩,HD.out⟩
theorem dec41 {x : Tk} {dv : Value} {lvl lvl' : Nat} (h : Mid B w0 c gp w off x dv p v ts fs ds l wr) (h0 : 0 < B) (hlv : v.lvl = lvl) (hlb : lvl ≤ 100000000) (hs : step lvl x.tt lvl')
  (hK : ∀ l' wx,Mid B w0 c gp w off x dv p { v with lvl:=lvl' } ts fs ds l' wx → K ⟨l'.toArray,[]⟩ wx) : Code.wp Tryz.prog (nav [0,1,0,1,1] db) (Exit.then K Q) ⟨l.toArray,[]⟩ wr:=by
 obtain ⟨⟨hl,hl0⟩,h3,h4,h5,hP,hd⟩:=h
 obtain ⟨f,hf,rfl⟩:=lit453 l hl
 rw [hf] at hl0 h3 h4 h5
 rw [hl0,h3,h4,h5]
 clear hf hl hl0 h3 h4 h5
 have HD:=Aside0.mk hd
 have HP:=Aside0.mk hP
 have hlvc:=hP.1.c5
 have hlvf:=hP.1.f 5
 rw [hlv] at hlvc
 have HS:=Aside0.mk hs
 have HLV:=Aside0.mk hlv
 clear hs hd hP hlv
 have hM : ∀ l' : List Value,l'.length = 453 → l'.getD 0 default = .pointer (some ⟨gp,0,none⟩) → l'.getD 3 default = .int .i64 off → l'.getD 4 default = .int .u32 x.tt → l'.getD 5 default = dv → K ⟨l'.toArray,[]⟩ (wr.setCell ⟨gp,5,none⟩ (.int .i64 lvl')) :=
  fun l' a b d e g => hK l' _ ⟨⟨a,b⟩,d,e,g,⟨HP.out.1.store' h0 5 _ _ rfl rfl rfl rfl,HP.out.2.trans (HP.out.1.kset 5 _)⟩,HD.out.kt (HP.out.1.kset 5 _)⟩
 have hM2 : lvl' = lvl → ∀ l' : List Value,l'.length = 453 → l'.getD 0 default = .pointer (some ⟨gp,0,none⟩) → l'.getD 3 default = .int .i64 off → l'.getD 4 default = .int .u32 x.tt → l'.getD 5 default = dv → K ⟨l'.toArray,[]⟩ wr :=
  fun he l' a b d e g => hK l' _ ⟨⟨a,b⟩,d,e,g,by rw [he,← HLV.out];exact HP.out,HD.out⟩
 have HM:=Aside0.mk hM
 have HM2:=Aside0.mk hM2
 clear hM hM2 hK
 conv => arg 2;whnf
 rcases HS.out with ⟨hk|hk|hk,hl⟩|⟨hk|hk,hl⟩|⟨⟨y0,y1,y2,y3,y4,y5,y6,y7,y8⟩,hl⟩
 ·have HL:=Aside0.mk hl
  clear hl
  have e : ((lvl' : Nat) : Int) = (lvl : Int) + 1:=by have:=HL.out;omega
  have hK:=HM.out
  rw [e] at hK
  have HK:=Aside0.mk hK
  clear hK e
  go_wp2_with (fail)
  exact HK.out _ (by kernel_rfl) rfl rfl rfl rfl
 ·have HL:=Aside0.mk hl
  clear hl
  have e : ((lvl' : Nat) : Int) = (lvl : Int) + 1:=by have:=HL.out;omega
  have hK:=HM.out
  rw [e] at hK
  have HK:=Aside0.mk hK
  clear hK e
  go_wp2_with (fail)
  exact HK.out _ (by kernel_rfl) rfl rfl rfl rfl
 ·have HL:=Aside0.mk hl
  clear hl
  have e : ((lvl' : Nat) : Int) = (lvl : Int) + 1:=by have:=HL.out;omega
  have hK:=HM.out
  rw [e] at hK
  have HK:=Aside0.mk hK
  clear hK e
  go_wp2_with (fail)
  exact HK.out _ (by kernel_rfl) rfl rfl rfl rfl
 ·have HL:=Aside0.mk hl
  clear hl
  have e : ((lvl' : Nat) : Int) = (lvl : Int) - 1:=by have:=HL.out;omega
  have hz : ((lvl : Int) == 0) = false:=by have:=HL.out;simp;omega
  have hK:=HM.out
  rw [e] at hK
  have HK:=Aside0.mk hK
  clear hK e
  go_wp2_with (fail)
  exact HK.out _ (by kernel_rfl) rfl rfl rfl rfl
 ·have HL:=Aside0.mk hl
  clear hl
  have e : ((lvl' : Nat) : Int) = (lvl : Int) - 1:=by have:=HL.out;omega
  have hz : ((lvl : Int) == 0) = false:=by have:=HL.out;simp;omega
  have hK:=HM.out
  rw [e] at hK
  have HK:=Aside0.mk hK
  clear hK e
  go_wp2_with (fail)
  exact HK.out _ (by kernel_rfl) rfl rfl rfl rfl
 ·have HL:=Aside0.mk hl
  clear hl
  go_wp2_with (fail)
  exact HM2.out HL.out _ (by kernel_rfl) rfl rfl rfl rfl
theorem dec55 {x : Tk} {dv : Value} (h : Mid B w0 c gp w off x dv p v ts fs ds l wr) (h0 : 0 < B) (hn : ts.length ≤ 1000000000)
  (hK : ∀ l' wx b',Mid B w0 c gp w off x dv p { v with buf:=b' } (ts ++ [x]) fs ds l' wx → K ⟨l'.toArray,[]⟩ wx) : Code.wp Tryz.prog (nav [0,1,1,1,0] db) (Exit.then K Q) ⟨l.toArray,[]⟩ wr:=by
 obtain ⟨⟨hl,hl0⟩,h3,h4,h5,hP,hd⟩:=h
 obtain ⟨f,hf,rfl⟩:=lit453 l hl
 rw [hf] at hl0 h3 h4 h5
 rw [hl0,h3,h4,h5]
 clear hf hl hl0 h3 h4 h5
 have HD:=Aside0.mk hd
 have HP:=Aside0.mk hP
 clear hd hP
 conv => arg 2;whnf
 go_wp2_with (fail)
 refine (pushBuf HP.out.1 h0 x dv HD.out hn).mono ?_
 rintro e w3 ⟨rfl,b',hP3,hK3⟩
 have HP3:=Aside0.mk hP3
 have HK3:=Aside0.mk hK3
 clear hP3 hK3
 go_wp2_with (fail)
 exact hK _ _ b' ⟨⟨by kernel_rfl,rfl⟩,rfl,rfl,rfl,⟨HP3.out,HP.out.2.trans HK3.out⟩,HD.out.kt HK3.out⟩
theorem dec56 {x : Tk} {dv : Value} (h : Mid B w0 c gp w off x dv p v ts fs ds l wr)
  (hK : ∀ l' wx off',Mid B w0 c gp w off' x dv p v ts fs ds l' wx → K ⟨l'.toArray,[]⟩ wx) : Code.wp Tryz.prog (nav [0,1,1,1,1] db) (Exit.then K Q) ⟨l.toArray,[]⟩ wr:=by
 obtain ⟨⟨hl,hl0⟩,h3,h4,h5,hP,hd⟩:=h
 obtain ⟨f,hf,rfl⟩:=lit453 l hl
 rw [hf] at hl0 h3 h4 h5
 rw [hl0,h3,h4,h5]
 clear hf hl hl0 h3 h4 h5
 have HD:=Aside0.mk hd
 have HP:=Aside0.mk hP
 have c0:=hP.1.c0
 have hr:=hP.1.lx.r
 obtain ⟨A,n,cp,rfl,hd1,hd2,hd3⟩:=hd
 clear hP hd3
 conv => arg 2;whnf
 by_cases hoff : off = 0
 ·subst hoff
  go_wp2_with (fail)
  refine (offset HP.out.1.lx).mono ?_
  rintro e w3 ⟨rfl,hS⟩
  have HS:=Aside0.mk hS
  clear hS
  have hk3 : Kt B wr w3:=Kt.of_kp HS.out.kept HP.out.1.Bi HP.out.1.hB HP.out.1.lx.inp
  go_wp2_with (fail)
  exact hK _ _ _ ⟨⟨by kernel_rfl,rfl⟩,rfl,rfl,rfl,⟨HP.out.1.lexed HS.out,HP.out.2.trans hk3⟩,HD.out.kt hk3⟩
 ·have hoff2 : (off == 0) = false:=by simpa using hoff
  go_wp2_with (fail)
  exact hK _ _ _ ⟨⟨by kernel_rfl,rfl⟩,rfl,rfl,rfl,⟨HP.out.1,HP.out.2⟩,HD.out⟩
theorem dec53 {x : Tk} {dv : Value} (h : Mid B w0 c gp w off x dv p v ts fs ds l wr) (h0 : 0 < B) (hn : ts.length ≤ 1000000000) {t0 : Tk} {pr : List Tk} (ht : ts = pr ++ [t0]) (hk : t0.tt ≠ 20) (hpc : v.pc = false)
  (hK : ∀ l' wx b',Mid B w0 c gp w off x dv p { v with buf:=b' } (if v.pw then ts ++ [⟨20,[32]⟩] else ts) fs ds l' wx → K ⟨l'.toArray,[]⟩ wx) : Code.wp Tryz.prog (nav [0,1,1,0] db) (Exit.then K Q) ⟨l.toArray,[]⟩ wr:=by
 obtain ⟨⟨hl,hl0⟩,h3,h4,h5,hP,hd⟩:=h
 obtain ⟨f,hf,rfl⟩:=lit453 l hl
 rw [hf] at hl0 h3 h4 h5
 rw [hl0,h3,h4,h5]
 clear hf hl hl0 h3 h4 h5
 have HD:=Aside0.mk hd
 have HP:=Aside0.mk hP
 have c4:=hP.1.c4
 have c9:=hP.1.c9
 have c11:=hP.1.c11
 rw [hpc] at c11
 clear hd
 cases hw : v.pw with
 | false =>
  rw [hw] at c9
  have HW:=Aside0.mk hw
  clear hP hw
  conv => arg 2;whnf
  go_wp2_with (fail)
  go_quiet (fail)
  rename_i nq
  go_wp2_with (fail)
  refine hK _ _ v.buf ⟨⟨by kernel_rfl,rfl⟩,rfl,rfl,rfl,⟨?_,HP.out.2.drewN nq⟩,HD.out.below (pw_below_drewN (Below.refl _ _) nq)⟩
  rw [show (if v.pw = true then ts ++ [⟨20,[32]⟩] else ts) = ts by rw [HW.out];rfl]
  exact HP.out.1.drewN nq
 | true =>
  rw [hw] at c9
  obtain ⟨A,n,cap,hbv,h1,h2,h3,h4⟩:=hP.1.tb
  obtain ⟨g,o,cs,rfl,hBg,hg,hs,hc⟩:=h4 (by rw [ht] at h1;simp at h1;omega)
  obtain ⟨dv0,e1,e2,e3⟩:=hc pr.length t0 (by rw [ht];simp)
  have hn1 : n = pr.length + 1:=by rw [← h1,ht];simp
  have hpr : pr.length ≤ 1000000000:=by omega
  have hwr : IntKind.i64.wrap (pr.length : Int) = (pr.length : Int):=IntWalk.i64_in _ (by omega)
  have hlt : (pr.length : Int) < (pr.length : Int) + 1:=by omega
  subst hn1
  have hcell : wr.cell? ⟨g,o + pr.length * 2,none⟩ = some (.int .u32 t0.tt):=by rw [blk_cell hg];exact e1
  have hk2 : (t0.tt == 20) = false:=by simpa using hk
  have HW:=Aside0.mk hw
  rw [hbv] at c4
  clear hP hw e1 e2 e3 hc h4 hg hbv h1 ht hk
  conv => arg 2;whnf
  go_wp2_with (fail)
  go_quiet (fail)
  rename_i nq
  go_wp2_with (fail)
  refine (wsb _).mono ?_
  rintro e w2 ⟨wv,rfl,hwv,hbl⟩
  have HP2:=Aside0.mk ((HP.out.1.drewN nq).below hbl)
  have HK2:=Aside0.mk ((HP.out.2.drewN nq).below hbl (HP.out.1.drewN nq).hB)
  have HD2:=Aside0.mk ((HD.out.below (pw_below_drewN (Below.refl _ _) nq)).below hbl)
  have HWV:=Aside0.mk hwv
  clear hwv hbl c4 c9 c11 hcell
  go_wp2_with (fail)
  refine (pushBuf HP2.out h0 ⟨20,[32]⟩ wv HWV.out hn).mono ?_
  rintro e w3 ⟨rfl,b',hP3,hK3⟩
  have HP3:=Aside0.mk hP3
  have HK3:=Aside0.mk hK3
  clear hP3 hK3
  go_wp2_with (fail)
  refine hK _ _ b' ⟨⟨by kernel_rfl,rfl⟩,rfl,rfl,rfl,⟨?_,HK2.out.trans HK3.out⟩,HD2.out.kt HK3.out⟩
  rw [show (if v.pw = true then ts ++ [⟨20,[32]⟩] else ts) = ts ++ [⟨20,[32]⟩] by rw [HW.out];rfl]
  exact HP3.out
theorem dec5s {x : Tk} {dv : Value} (h : Mid B w0 c gp w off x dv p v ts fs ds l wr) (hlv : v.lvl = 0) (hk : x.tt = 24 ∨ x.tt = 31 ∨ x.tt = 0)
  (hK : ∀ l',l'.getD 44 default = .bool true → Mid B w0 c gp w off x dv p v ts fs ds l' wr → K ⟨l'.toArray,[]⟩ wr) : Code.wp Tryz.prog (nav [0,1,0,0] db) (Exit.then K Q) ⟨l.toArray,[]⟩ wr:=by
 obtain ⟨⟨hl,hl0⟩,h3,h4,h5,hP,hd⟩:=h
 obtain ⟨f,hf,rfl⟩:=lit453 l hl
 rw [hf] at hl0 h3 h4 h5
 rw [hl0,h3,h4,h5]
 clear hf hl hl0 h3 h4 h5
 have HD:=Aside0.mk hd
 have HP:=Aside0.mk hP
 have HK:=Aside0.mk hK
 have hlvc:=hP.1.c5
 rw [hlv] at hlvc
 clear hP hd hlv hK
 conv => arg 2;whnf
 rcases hk with hk|hk|hk
 ·go_wp2_with (fail)
  exact HK.out _ rfl ⟨⟨by kernel_rfl,rfl⟩,rfl,by rw [hk];rfl,rfl,HP.out,HD.out⟩
 ·go_wp2_with (fail)
  exact HK.out _ rfl ⟨⟨by kernel_rfl,rfl⟩,rfl,by rw [hk];rfl,rfl,HP.out,HD.out⟩
 ·go_wp2_with (fail)
  exact HK.out _ rfl ⟨⟨by kernel_rfl,rfl⟩,rfl,by rw [hk];rfl,rfl,HP.out,HD.out⟩
theorem dec6 {x : Tk} {dv : Value} (h : Mid B w0 c gp w off x dv p v ts fs ds l wr)
  (hK : ∀ l',l'.getD 6 default = .int .i64 1 → Stp B w0 c gp w x.tt p v ts fs ds l' wr → K ⟨l'.toArray,[]⟩ wr) : Code.wp Tryz.prog (nav [0,1,0,1,0,0] db) (Exit.then K Q) ⟨l.toArray,[]⟩ wr:=by
 obtain ⟨⟨hl,hl0⟩,h3,h4,h5,hP,hd⟩:=h
 obtain ⟨f,hf,rfl⟩:=lit453 l hl
 rw [hf] at hl0 h3 h4 h5
 rw [hl0,h3,h4,h5]
 clear hf hl hl0 h3 h4 h5
 have HD:=Aside0.mk hd
 have HP:=Aside0.mk hP
 have HK:=Aside0.mk hK
 clear hP hd hK
 conv => arg 2;whnf
 go_wp2_with (fail)
 exact HK.out _ rfl ⟨⟨by kernel_rfl,rfl⟩,rfl,HP.out⟩
theorem stop_eq : nav [0,1,0,1,0] db = .seq (nav [0,1,0,1,0,0] db) (.seq (nav [0,1,0,1,0,1,0] db) (.seq (nav [0,1,0,1,0,1,1,0] db) (.seq (nav [0,1,0,1,0,1,1,1,0] db) (.seq (nav [0,1,0,1,0,1,1,1,1,0] db) (.seq (nav [0,1,0,1,0,1,1,1,1,1,0] db) (.seq (nav [0,1,0,1,0,1,1,1,1,1,1,0] db) (.seq (nav [0,1,0,1,0,1,1,1,1,1,1,1,0] db) (.seq (nav [0,1,0,1,0,1,1,1,1,1,1,1,1,0] db) (.seq (nav [0,1,0,1,0,1,1,1,1,1,1,1,1,1,0] db) (.seq (nav [0,1,0,1,0,1,1,1,1,1,1,1,1,1,1,0] db) .ret)))))))))):=by kernel_rfl
theorem decStop {x : Tk} {dv : Value} {nm cl : Tk} {b : Bool} {rest : List (Tk × Bool)} (h : Mid B w0 c gp w off x dv p v (nm :: flat ((cl,b) :: rest)) fs ds l wr) (h0 : 0 < B) (hcl : cl.tt = 23) (hn : (flat rest).length ≤ 50000000) (hx : ∀ x ∈ ds,0 ≤ x ∧ x ≤ 255)
  (hQ : ∀ l' wx b' dv' ts',l'.getD 2 default = .int .u32 8 → nonws ts' = nonws (flat rest) → ts'.length ≤ 100000000 → Stp B w0 c gp w x.tt p { v with buf:=b',data:=dv',pe:=x.tt == 31 } ts' fs (ds.map low) l' wx → Q .ret ⟨l'.toArray,[]⟩ wx) :
  Code.wp Tryz.prog (nav [0,1,0,1,0] db) (Exit.then K Q) ⟨l.toArray,[]⟩ wr:=by
 rw [stop_eq]
 refine wp_seq_k fun K1 hK1 => ?_
 refine dec6 h fun l1 e1 h1 => hK1 _ _ ?_
 obtain ⟨m,hm1,hm,hbl,hdr⟩ : ∃ m,1 ≤ m ∧ (nm :: flat ((cl,b) :: rest))[m]? = some cl ∧ (∀ i,1 ≤ i → i < m → ∃ t,(nm :: flat ((cl,b) :: rest))[i]? = some t ∧ t.tt = 20) ∧ (nm :: flat ((cl,b) :: rest)).drop (m + 1) = flat rest:=by
  cases b with
  | false => exact ⟨1,Nat.le_refl _,rfl,fun i _ _ => by omega,rfl⟩
  | true => exact ⟨2,by omega,rfl,fun i h1 h2 => by
    have : i = 1:=by omega
    subst this
    exact ⟨_,rfl,rfl⟩,rfl⟩
 have hlen : (nm :: flat ((cl,b) :: rest)).length ≤ 100000000:=by
  cases b <;> simp [flat] <;> omega
 refine wp_seq_k fun K2 hK2 => ?_
 refine dec7 h1 e1 hm1 hm hcl hbl hlen fun l2 e2 h2 => hK2 _ _ ?_
 refine wp_seq_k fun K3 hK3 => ?_
 refine dec9 h2 e2 hm hcl hlen fun l3 e3 h3 => hK3 _ _ ?_
 refine wp_seq_k fun K4 hK4 => ?_
 refine dec14 h3 h0 e3 hm hlen fun l4 w4 b4 h4 => hK4 _ _ ?_
 rw [hdr] at h4
 refine wp_seq_k fun K5 hK5 => ?_
 refine dec15 (N0:=nonws (flat rest)) h4 h0 (by omega) rfl fun l5 w5 b5 ts5 n5 len5 h5 => hK5 _ _ ?_
 refine wp_seq_k fun K6 hK6 => ?_
 refine dec17 h5 fun l6 e6 h6 => hK6 _ _ ?_
 refine wp_seq_k fun K7 hK7 => ?_
 refine decB6 h6 e6 h0 len5 n5 fun l7 w7 ts7 j7 h7 e7 hj7 len7 n7 => hK7 _ _ ?_
 refine wp_seq_k fun K8 hK8 => ?_
 refine dec37 h7 h0 e7 hj7 len7 fun l8 w8 b8 h8 => hK8 _ _ ?_
 refine wp_seq_k fun K9 hK9 => ?_
 refine dec38 h8 h0 hx fun l9 w9 dv9 h9 => hK9 _ _ ?_
 refine wp_seq_k fun K10 hK10 => ?_
 refine dec39 h9 h0 fun l10 w10 h10 => hK10 _ _ ?_
 refine wp_seq_k fun K11 hK11 => ?_
 refine dec40 h10 fun l11 e11 h11 => hK11 _ _ ?_
 exact wp_ret (hQ _ _ _ _ _ e11 n7 (by rw [List.length_take];omega) h11)
theorem tail_eq : nav [0,1,1] db = .seq (nav [0,1,1,0] db) (.seq (nav [0,1,1,1,0] db) (nav [0,1,1,1,1] db)):=by kernel_rfl
theorem flat_len (l : List (Tk × Bool)) : (flat l).length ≤ 2 * l.length:=by
 induction l with
 | nil => simp [flat]
 | cons x l ih =>
  obtain ⟨t,b⟩:=x
  cases b <;> simp [flat] <;> omega
theorem flat_last {nm : Tk} (hnm : nm.tt ≠ 20) {dn : List (Tk × Bool)} (hd : ∀ x ∈ dn,x.1.tt ≠ 20) : ∃ pr t0,nm :: flat dn = pr ++ [t0] ∧ t0.tt ≠ 20:=by
 rcases List.eq_nil_or_concat dn with rfl|⟨d,⟨t,b⟩,rfl⟩
 ·exact ⟨[],nm,rfl,hnm⟩
 ·have hk:=hd (t,b) (by simp)
  cases b with
  | false => exact ⟨nm :: flat d,t,by rw [List.concat_eq_append,(flat_snoc d t).1];rfl,hk⟩
  | true => exact ⟨nm :: flat d ++ [⟨20,[32]⟩],t,by rw [List.concat_eq_append,(flat_snoc d t).2];simp,hk⟩
def DcI (B : Nat) (w0 : World) (c : Cfg) (gp : Nat) (w : World) (v : PV) (nm : Tk) (all : List (Tk × Bool)) (fs : List Nat) (ds : List Int) (q : Int) (g : Nat) (l : List Value) (wr : World) : Prop :=
 ∃ (off : Int) (lvl : Nat) (p' : Int) (v' : PV) (dn rest : List (Tk × Bool)),Fr gp l ∧ l.getD 3 default = .int .i64 off ∧ all = dn ++ rest ∧ g = rest.length + 1 ∧ Same v v' ∧ v'.lvl = lvl ∧ lvl ≤ dn.length ∧ (∀ x ∈ dn,x.1.tt ≠ 20) ∧
  Pk B w0 c gp w wr p' v' (nm :: flat dn) fs ds ∧ Strm c.bs q lvl p' rest
theorem decStep {nm : Tk} {all : List (Tk × Bool)} {lvl : Nat} {v' : PV} {dn r : List (Tk × Bool)} {x : Tk × Bool} {p' : Int} (h0 : 0 < B) (hnm : nm.tt ≠ 20) (hkw : v.kw = false) (hal : all.length ≤ 10000000)
  (hl : Fr gp l) (h3 : l.getD 3 default = .int .i64 off) (hall : all = dn ++ x :: r) (hsm : Same v v') (hlv : v'.lvl = lvl) (hld : lvl ≤ dn.length) (hdn : ∀ x ∈ dn,x.1.tt ≠ 20)
  (hP : Pk B w0 c gp w wr p' v' (nm :: flat dn) fs ds) (hst : Strm c.bs q lvl p' (x :: r))
  (hK : ∀ l' wx,DcI B w0 c gp w v nm all fs ds q (r.length + 1) l' wx → K ⟨l'.toArray,[]⟩ wx) : Code.wp Tryz.prog db (Exit.then K Q) ⟨l.toArray,[]⟩ wr:=by
 obtain ⟨q1,lvl',hpop,hstep,hr⟩:=hst.cons
 have hkw' : v'.kw = false:=by rw [hsm.2.2.2.2.2.1];exact hkw
 have hdl : dn.length ≤ 10000000:=by rw [hall] at hal;simp at hal;omega
 have hfl:=flat_len dn
 have hxk : x.1.tt ≠ 20:=hpop.1
 have hdn2 : ∀ y ∈ dn ++ [x],y.1.tt ≠ 20:=by
  intro y hy
  rcases List.mem_append.1 hy with hy|hy
  ·exact hdn y hy
  ·simp at hy;subst hy;exact hxk
 obtain ⟨pr,t0,hpr,ht0⟩:=flat_last hnm hdn
 have hlv2 : lvl' ≤ (dn ++ [x]).length:=by
  rw [List.length_append]
  simp only [List.length_cons,List.length_nil]
  rcases hstep with ⟨_,h⟩|⟨_,h⟩|⟨_,h⟩ <;> omega
 rw [db_eq]
 refine wp_block ?_
 refine wp_seq_k fun K1 hK1 => ?_
 refine dec4 hP h0 hkw' hpop hl h3 fun l1 w1 dv1 h1 => hK1 _ _ ?_
 refine wp_seq_k fun K2 hK2 => wp_seq_k fun K3 hK3 => ?_
 refine dec5n (lvl:=lvl) h1 hlv (by omega) hstep fun l2 e2 h2 => hK3 _ _ ?_
 refine wp_cond_false (ev453 e2 h2.1.1 (by decide)) ?_
 refine dec41 h2 h0 hlv (by omega) hstep fun l3 w3 h3 => hK2 _ _ ?_
 rw [tail_eq]
 refine wp_seq_k fun K4 hK4 => ?_
 refine dec53 h3 h0 (by simp;omega) hpr ht0 rfl fun l4 w4 b4 h4 => hK4 _ _ ?_
 refine wp_seq_k fun K5 hK5 => ?_
 refine dec55 h4 h0 (by simp only;split <;> simp <;> omega) fun l5 w5 b5 h5 => hK5 _ _ ?_
 refine wp_mono (dec56 (K:=K) (Q:=Exit.inBlock 1 (Exit.then K Q)) h5 fun l6 w6 off6 h6 => ?_) ?_
 ·obtain ⟨a1,a2,a3,a4,a5,a6⟩:=h6
  refine hK l6 w6 ⟨off6,lvl',q1,{ v' with pw:=x.2,pc:=false,lvl:=(lvl' : Int),buf:=b5 },dn ++ [x],r,a1,a2,by rw [hall];simp,rfl,?_,?_,hlv2,hdn2,?_,hr⟩
  rotate_left 2
  ·have e : nm :: flat (dn ++ [x]) = (if x.2 = true then (nm :: flat dn) ++ [⟨20,[32]⟩] else (nm :: flat dn)) ++ [x.1]:=by
    obtain ⟨t,b⟩:=x
    cases b
    ·rw [(flat_snoc dn t).1];rfl
    ·rw [(flat_snoc dn t).2];simp
   rw [e]
   exact a5
  ·exact hsm
  ·rfl
 ·intro e a w' hq
  cases e <;> exact hq
theorem decEnd {nm cl : Tk} {b : Bool} {rest : List (Tk × Bool)} {v' : PV} {k2 q2 : Int} {xs2 : List Int} {ws2 : Bool} (h0 : 0 < B) (hkw : v.kw = false) (hal : rest.length ≤ 10000000) (hcl : cl.tt = 23) (hx : ∀ x ∈ ds,0 ≤ x ∧ x ≤ 255)
  (hl : Fr gp l) (h3 : l.getD 3 default = .int .i64 off) (hsm : Same v v') (hlv : v'.lvl = 0)
  (hP : Pk B w0 c gp w wr q v' (nm :: flat ((cl,b) :: rest)) fs ds) (hpop : PopR c.bs q k2 q2 xs2 ws2) (hk2 : k2 = 24 ∨ k2 = 31 ∨ k2 = 0)
  (hQ : ∀ (l' : List Value) (wx : World) (v2 : PV) (ts' : List Tk),l'.length = 453 → l'.getD 2 default = .int .u32 8 → nonws ts' = nonws (flat rest) ∧ ts'.length ≤ 100000000 → v2.st = v.st ∧ v2.err = v.err ∧ v2.ep = v.ep ∧ v2.tt = v.tt ∧ v2.kw = false ∧ v2.sh = v.sh ∧ v2.lvl = 0 ∧ v2.pc = false ∧ v2.pe = (k2 == 31) → Pk B w0 c gp w wx q2 v2 ts' fs (ds.map low) → Q .ret ⟨l'.toArray,[]⟩ wx) :
  Code.wp Tryz.prog db (Exit.then K Q) ⟨l.toArray,[]⟩ wr:=by
 have hkw' : v'.kw = false:=by rw [hsm.2.2.2.2.2.1];exact hkw
 have hfl:=flat_len rest
 rw [db_eq]
 refine wp_block ?_
 refine wp_seq_k fun K1 hK1 => ?_
 refine dec4 (x:=⟨k2,xs2⟩) hP h0 hkw' hpop hl h3 fun l1 w1 dv1 h1 => hK1 _ _ ?_
 refine wp_seq_k fun K2 hK2 => wp_seq_k fun K3 hK3 => ?_
 refine dec5s h1 hlv hk2 fun l2 e2 h2 => hK3 _ _ ?_
 refine wp_cond_true (ev453 e2 h2.1.1 (by decide)) ?_
 refine decStop h2 h0 hcl (by omega) hx fun l3 w3 b3 dv3 ts3 e3 n3 len3 h3 => ?_
 refine hQ l3 w3 { v' with pw:=ws2,pc:=false,buf:=b3,data:=dv3,pe:=(k2 == 31) } ts3 h3.1.1 e3 ⟨n3,len3⟩ ⟨hsm.1,hsm.2.1,hsm.2.2.1,hsm.2.2.2.2.1,hkw',hsm.2.2.2.2.2.2.2,hlv,rfl,rfl⟩ h3.2.2
def DeclR (B : Nat) (w0 : World) (c : Cfg) (gp : Nat) (w : World) (v : PV) (rest : List (Tk × Bool)) (fs : List Nat) (ds : List Int) (k2 q2 : Int) (w' : World) : Prop :=
 ∃ v2 ts',(nonws ts' = nonws (flat rest) ∧ ts'.length ≤ 100000000) ∧ (v2.st = v.st ∧ v2.err = v.err ∧ v2.ep = v.ep ∧ v2.tt = v.tt ∧ v2.kw = false ∧ v2.sh = v.sh ∧ v2.lvl = 0 ∧ v2.pc = false ∧ v2.pe = (k2 == 31)) ∧ Pk B w0 c gp w w' q2 v2 ts' fs (ds.map low)
theorem parseDecl {cl : Tk} {b : Bool} {rest : List (Tk × Bool)} {k2 q2 : Int} {xs2 : List Int} {ws2 : Bool} (h : Ps B w0 c gp w p v ts fs ds) (h0 : 0 < B) (hkw : v.kw = false) (hlv : v.lvl = 0) (hnm : v.tt ≠ 20) (hal : rest.length < 10000000) (hcl : cl.tt = 23) (hx : ∀ x ∈ ds,0 ≤ x ∧ x ≤ 255)
  (hs : Strm c.bs q 0 p ((cl,b) :: rest)) (hpop : PopR c.bs q k2 q2 xs2 ws2) (hk2 : k2 = 24 ∨ k2 = 31 ∨ k2 = 0) :
  Calls Tryz.prog 55 #[.pointer (some ⟨gp,0,none⟩)] w fun e w' => e = .returned (.int .u32 8) ∧ DeclR B w0 c gp w v rest fs ds k2 q2 w':=by
 have HH:=Aside0.mk h
 have HKW:=Aside0.mk hkw
 have HLV:=Aside0.mk hlv
 have HS:=Aside0.mk hs
 have HPOP:=Aside0.mk hpop
 have HK2:=Aside0.mk hk2
 have HX:=Aside0.mk hx
 have HCL:=Aside0.mk hcl
 have HNM:=Aside0.mk hnm
 clear h hkw hlv hs hpop hk2 hx hcl hnm
 go_enter Tryz.func55,Tryz.ntmps55
 go_wp2_with (fail)
 refine (initBuf HH.out h0).mono ?_
 rintro e w1 ⟨rfl,b1,hP,hK⟩
 have c6:=hP.c6
 have c7:=hP.c7
 have HP:=Aside0.mk hP
 have HK:=Aside0.mk hK
 clear hP hK
 go_wp2_with (fail)
 go_still_tail 9,(by kernel_rfl)
 change wpList _ _ _ _ _ w1.drew
 go_wp2_with (fail)
 refine (pushBuf HP.out.drew h0 ⟨v.tt,ds⟩ v.data HP.out.drew.dat (by simp)).mono ?_
 rintro e w2 ⟨rfl,b2,hP2,hK2⟩
 have HI:=Aside0.mk (And.intro hP2 ((HK.out.drew).trans hK2))
 clear hP2 hK2 c6 c7
 go_wp2_with (fail)
 refine wp_loop_list 453 (fun g l wr => DcI B w0 c gp w v ⟨v.tt,ds⟩ ((cl,b) :: rest) fs ds q g l wr) (rest.length + 2) _ (by kernel_rfl)
  ⟨0,0,p,{ v with buf:=b2 },[],(cl,b) :: rest,⟨by kernel_rfl,rfl⟩,rfl,rfl,by simp,⟨rfl,rfl,rfl,rfl,rfl,rfl,rfl,rfl⟩,HLV.out,Nat.le_refl _,(fun x hx => by cases hx),HI.out,HS.out⟩ ?_
 rintro n l wr hl ⟨off,lvl,p',v',dn,rs,hfr,h3,hall,hg,hsm,hlv,hld,hdn,hP,hst⟩ J hJ
 show Code.wp Tryz.prog db _ _ _
 cases rs with
 | nil =>
  obtain ⟨hl0,rfl⟩:=hst.nil_
  subst hl0
  rw [List.append_nil] at hall
  subst hall
  refine decEnd h0 HKW.out (by omega) HCL.out HX.out hfr h3 hsm hlv hP HPOP.out HK2.out ?_
  intro l' wx v2 ts' hl' e1 n1 hv hp
  simp only [Exit.inBlock,Exit.then]
  refine bodyPost_ret (results_tmp rfl _ _ _) rfl ⟨?_,v2,ts',n1,hv,hp⟩
  exact congrArg Ending.returned (ev453 e1 hl' (by decide))
 | cons x r =>
  exact decStep h0 HNM.out HKW.out (by simp;omega) hfr h3 hall hsm hlv hld hdn hP hst fun l' wx hi => hJ (r.length + 1) l' wx (by rw [hg];simp) hi.choose_spec.choose_spec.choose_spec.choose_spec.choose_spec.choose_spec.1.1 hi
theorem listDecl {cl : Tk} {b : Bool} {rest : List (Tk × Bool)} {k2 q2 : Int} {xs2 : List Int} {ws2 : Bool} (h : Ps B w0 c gp w p v ts fs ds) (h0 : 0 < B) (hkw : v.kw = false) (hlv : v.lvl = 0) (hnm : v.tt = 1) (hal : rest.length < 10000000) (hcl : cl.tt = 23) (hx : ∀ x ∈ ds,0 ≤ x ∧ x ≤ 255)
  (hs : Strm c.bs q 0 p ((cl,b) :: rest)) (hpop : PopR c.bs q k2 q2 xs2 ws2) (hk2 : k2 = 24 ∨ k2 = 31 ∨ k2 = 0) :
  Calls Tryz.prog 38 #[.pointer (some ⟨gp,0,none⟩)] w fun e w' => e = .returned (.int .u32 8) ∧ DeclR B w0 c gp w v rest fs ds k2 q2 w':=by
 have c7:=h.c7
 rw [hnm] at c7
 have HD:=Aside0.mk (parseDecl h h0 hkw hlv (by rw [hnm];decide) hal hcl hx hs hpop hk2)
 clear h hkw hlv hnm hcl hx hs hpop hk2
 go_enter Tryz.func38,Tryz.ntmps38
 go_wp2_with (fail)
 go_loopg [26] 0 (fun k v26 wr => wr = w)
 case atStart => rfl
 case round =>
  subst hrel
  go_wp2_with (fail)
  refine HD.out.mono ?_
  rintro e w' ⟨rfl,hd⟩
  have HD2:=Aside0.mk hd
  clear hd c7
  go_wp2_with (fail)
  go_ret
  exact ⟨rfl,HD2.out⟩
theorem listEnd (h : Ps B w0 c gp w p v ts fs ds) (hnm : v.tt = 0) :
  Calls Tryz.prog 38 #[.pointer (some ⟨gp,0,none⟩)] w fun e w' => e = .returned (.int .u32 0) ∧ w = w':=by
 have c7:=h.c7
 rw [hnm] at c7
 clear h hnm
 go_enter Tryz.func38,Tryz.ntmps38
 go_wp2_with (fail)
 go_loopg [26] 0 (fun k v26 wr => wr = w)
 case atStart => rfl
 case round =>
  subst hrel
  go_wp2_with (fail)
  go_ret
  exact ⟨rfl,rfl⟩
theorem st_last {f : Nat} (h : Ps B w0 c gp w p v ts [f] ds) : ∃ g cap,v.st = .slice (some ⟨g,0,none⟩) 1 cap ∧ w.cell? ⟨g,0,none⟩ = some (fv f):=by
 rcases h.sts.2 with ⟨_,h0⟩|⟨g,cap,cur,e,hb,hh,hn,hm,hsz,htk⟩
 ·simp at h0
 ·refine ⟨g,cap,e,?_⟩
  rw [blk_cell hh]
  have : (cur.toList.take 1)[0]? = some (fv f):=by
   have h2 : cur.toList.take 1 = [fv f]:=by simpa using htk
   rw [h2];rfl
  rw [List.getElem?_take] at this
  simpa using this
theorem nextG {ws : Bool} {gt : Int} {Rel : PV → List Tk → List Int → Int → Prop} (h : Ps B w0 c gp w p v ts [38] ds) (h0 : 0 < B) (hpe : v.pe = false) (hkw : v.kw = false) (hpop : PopR c.bs p k q xs ws)
  (hcall : ∀ dv W,Ps B w0 c gp W q { v with err:=⟨#[]⟩,pw:=ws,pc:=false,tt:=k,data:=dv } ts [38] xs →
   Calls Tryz.prog 38 #[.pointer (some ⟨gp,0,none⟩)] W fun e w' => e = .returned (.int .u32 gt) ∧ ∃ v' ts' ds' p',Rel v' ts' ds' p' ∧ Pk B w0 c gp W w' p' v' ts' [38] ds') :
  Calls Tryz.prog 21 #[.pointer (some ⟨gp,0,none⟩)] w fun e w' => ∃ v' ts' ds' p',e = .returned (.tuple #[.int .u32 gt,.int .u32 v'.tt,v'.data]) ∧ Rel v' ts' ds' p' ∧ Pk B w0 c gp w w' p' v' ts' [38] ds':=by
 have hP1:=h.store' h0 2 (.string ⟨#[]⟩) { v with err:=⟨#[]⟩ } rfl rfl rfl rfl
 have hK1:=h.kset 2 (.string ⟨#[]⟩)
 have f2:=h.f 2
 have c2:=h.c2
 have c10:=hP1.c10
 simp only at c10
 rw [hpe] at c10
 have HP1:=Aside0.mk hP1
 have HK1:=Aside0.mk hK1
 have HPOP:=Aside0.mk hpop
 have HKW:=Aside0.mk hkw
 have HC:=Aside0.mk hcall
 clear h hpe hP1 hK1 hpop hkw hcall
 go_enter Tryz.func21,Tryz.ntmps21
 go_wp2_with (fail)
 refine (pop HP1.out h0 HKW.out true HPOP.out).mono ?_
 rintro e w1 ⟨dv,rfl,hd,hP2,hK2⟩
 have hP3:=hP2.store' h0 7 (.int .u32 k) { v with err:=⟨#[]⟩,pw:=ws,pc:=false,tt:=k } rfl rfl rfl rfl
 have hK3:=hK2.trans (hP2.kset 7 (.int .u32 k))
 have hd3:=hd.kt (hP2.kset 7 (.int .u32 k))
 have hP4:=hP3.store h0 6 dv { v with err:=⟨#[]⟩,pw:=ws,pc:=false,tt:=k,data:=dv } ts [38] xs rfl hP3.tb hP3.sts hd3
 have hK4:=hK3.trans (hP3.kset 6 dv)
 have f7:=hP2.f 7
 have f6:=hP3.f 6
 have c7:=hP2.c7
 have c6:=hP3.c6
 obtain ⟨A,n,cp,rfl,-,-,-⟩:=hd
 obtain ⟨g,cap,hst,hcf⟩:=st_last hP4
 have c1:=hP4.c1
 simp only at c1 hst
 rw [hst] at c1
 have HP4:=Aside0.mk hP4
 have HK4:=Aside0.mk (HK1.out.trans hK4)
 clear hP2 hK2 hP3 hK3 hd3 hP4 hK4 hst
 unfold fv at hcf
 go_wp2_with (fail)
 clear f7 f6 c7 c6
 generalize ((w1.setCell ⟨gp,7,none⟩ (.int .u32 k)).setCell ⟨gp,6,none⟩ (.slice A n cp)) = W at *
 have hwz : IntKind.i64.wrap 0 = 0:=IntWalk.i64_in _ (by omega)
 go_still_tail 13,(by kernel_rfl)
 change wpList _ _ _ _ _ W.drew
 go_wp2_with (fail)
 refine (HC.out _ _ HP4.out.drew).mono ?_
 rintro e w2 ⟨rfl,v',ts',ds',p',hrel,hP5,hK5⟩
 have d7:=hP5.c7
 have d6:=hP5.c6
 have HP5:=Aside0.mk (And.intro hrel (And.intro hP5 ((HK4.out.drew).trans hK5)))
 clear hrel hP5 hK5 hcf c1
 go_wp2_with (fail)
 go_quiet (fail)
 rename_i nq
 go_wp2_with (fail)
 go_ret3
 exact ⟨v',ts',ds',p',rfl,HP5.out.1,HP5.out.2.1.drewN nq,HP5.out.2.2.drewN nq⟩
theorem nextDecl {ws : Bool} {cl : Tk} {b : Bool} {rest : List (Tk × Bool)} {k2 q1 q2 : Int} {xs2 : List Int} {ws2 : Bool} (h : Ps B w0 c gp w p v ts [38] ds) (h0 : 0 < B) (hpe : v.pe = false) (hkw : v.kw = false) (hlv : v.lvl = 0) (hpop : PopR c.bs p 1 q1 xs ws)
  (hal : rest.length < 10000000) (hcl : cl.tt = 23) (hx : ∀ x ∈ xs,0 ≤ x ∧ x ≤ 255) (hs : Strm c.bs q 0 q1 ((cl,b) :: rest)) (hpop2 : PopR c.bs q k2 q2 xs2 ws2) (hk2 : k2 = 24 ∨ k2 = 0) :
  Calls Tryz.prog 21 #[.pointer (some ⟨gp,0,none⟩)] w fun e w' => ∃ v' ts',e = .returned (.tuple #[.int .u32 8,.int .u32 1,v'.data]) ∧ v'.pe = false ∧ v'.kw = false ∧ v'.lvl = 0 ∧ v'.err = ⟨#[]⟩ ∧ (nonws ts' = nonws (flat rest) ∧ ts'.length ≤ 100000000) ∧ Pk B w0 c gp w w' q2 v' ts' [38] (xs.map low):=by
 refine (nextG (gt:=8) (Rel:=fun v' ts' ds' p' => v'.tt = 1 ∧ v'.pe = false ∧ v'.kw = false ∧ v'.lvl = 0 ∧ v'.err = ⟨#[]⟩ ∧ (nonws ts' = nonws (flat rest) ∧ ts'.length ≤ 100000000) ∧ ds' = xs.map low ∧ p' = q2) h h0 hpe hkw hpop ?_).mono ?_
 ·intro dv W hP
  refine (listDecl hP h0 hkw hlv rfl hal hcl hx hs hpop2 (by rcases hk2 with h|h <;> simp [h])).mono ?_
  rintro e w' ⟨rfl,v2,ts',n1,⟨_,b2,_,b4,b5,_,b7,_,b9⟩,hp⟩
  refine ⟨rfl,v2,ts',_,_,⟨b4,?_,b5,b7,b2,n1,rfl,rfl⟩,hp⟩
  rw [b9]
  rcases hk2 with h|h <;> subst h <;> rfl
 ·rintro e w' ⟨v',ts',ds',p',rfl,⟨b1,b2,b3,b4,b5,b6,rfl,rfl⟩,hp⟩
  exact ⟨v',ts',by rw [b1],b2,b3,b4,b5,b6,hp⟩
theorem nextEnd {ws : Bool} (h : Ps B w0 c gp w p v ts [38] ds) (h0 : 0 < B) (hpe : v.pe = false) (hkw : v.kw = false) (hpop : PopR c.bs p 0 q xs ws) :
  Calls Tryz.prog 21 #[.pointer (some ⟨gp,0,none⟩)] w fun e w' => ∃ v',e = .returned (.tuple #[.int .u32 0,.int .u32 0,v'.data]) ∧ v'.err = ⟨#[]⟩ ∧ Pk B w0 c gp w w' q v' ts [38] xs:=by
 refine (nextG (gt:=0) (Rel:=fun v' ts' ds' p' => v'.tt = 0 ∧ v'.err = ⟨#[]⟩ ∧ ts' = ts ∧ ds' = xs ∧ p' = q) h h0 hpe hkw hpop ?_).mono ?_
 ·intro dv W hP
  refine (listEnd hP rfl).mono ?_
  rintro e w' ⟨rfl,rfl⟩
  exact ⟨rfl,_,_,_,_,⟨rfl,rfl,rfl,rfl,rfl⟩,hP,Kt.refl _ _⟩
 ·rintro e w' ⟨v',ts',ds',p',rfl,⟨b1,b2,rfl,rfl,rfl⟩,hp⟩
  exact ⟨v',by rw [b1],b2,hp⟩
theorem pErr (h : Ps B w0 c gp w p v ts fs ds) (he : v.err = ⟨#[]⟩) (hp : p + 1 = c.bs.length) :
  Calls Tryz.prog 24 #[.pointer (some ⟨gp,0,none⟩)] w fun e w' => e = .returned c.eof ∧ Pk B w0 c gp w w' p v ts fs ds:=by
 have c2:=h.c2
 have c0:=h.c0
 rw [he] at c2
 have HH:=Aside0.mk h
 have HE:=Aside0.mk hp
 clear h hp he
 go_enter Tryz.func24,Tryz.ntmps24
 go_wp2_with (fail)
 refine (lerr HH.out.lx HE.out).mono ?_
 rintro e w' ⟨rfl,hs⟩
 have HP:=Aside0.mk (And.intro (HH.out.lexed hs) (Kt.of_kp hs.kept HH.out.Bi HH.out.hB HH.out.lx.inp))
 clear hs c2 c0
 go_wp2_with (fail)
 go_ret
 exact ⟨rfl,HP.out.1,HP.out.2⟩
theorem ruleName8 (w : World) : Calls Tryz.prog 22 #[.int .u32 8] w fun e w' => e = .returned (.string ⟨#[100,101,99,108,97,114,97,116,105,111,110]⟩) ∧ Below w.heap.size w w':=by
 go_enter Tryz.func22,Tryz.ntmps22
 go_wp2_with (fail)
 go_ret
 exact ⟨rfl,below_alloc (Below.refl _ _) _⟩
theorem newLexer (g : Nat) (w : World) : Calls Tryz.prog 37 #[.pointer (some ⟨g,0,none⟩)] w fun e w' => e = .returned (.pointer (some ⟨w.heap.size,0,none⟩)) ∧ w.alloc (.cells #[.pointer (some ⟨g,0,none⟩)] 93) = w':=by
 go_enter Tryz.func37,Tryz.ntmps37
 go_wp2_with (fail)
 go_ret
 exact ⟨rfl,rfl⟩
theorem info88 : (Tryz.prog.info? 88).map (fun i => (i.zero,i.size,i.bytes)) = some (some .nilFunc,1,8):=by kernel_rfl
theorem make88 (W : World) : (Instr.makeSlice 78 (.int .i64 0) (.int .i64 4)).run Tryz.prog W = .ok (.slice (some ⟨W.heap.size,0,none⟩) 0 4) (W.alloc (.cells #[.nilFunc,.nilFunc,.nilFunc,.nilFunc] 88)):=by
 obtain ⟨i0,hi,hzz⟩:=Option.map_eq_some_iff.1 info88
 simp only [Prod.mk.injEq] at hzz
 obtain ⟨hz0,hz1,hz2⟩:=hzz
 have h:=run_make (P:=Tryz.prog) W 78 88 i0 .nilFunc Tryz.underlying78 hi hz0 .i64 .i64 0 4 (by omega) (by omega) (by rw [hz2];decide) (by omega)
 rw [hz1] at h
 have e : madeCells Value.nilFunc.cells (Int.toNat 4 * 1) = #[.nilFunc,.nilFunc,.nilFunc,.nilFunc]:=by kernel_rfl
 rw [h,e]
 rfl
theorem newParser (gi : Nat) (w : World) : Calls Tryz.prog 18 #[.pointer (some ⟨gi,0,none⟩),.bool true] w fun e w' => ∃ cap,e = .returned (.pointer (some ⟨w.heap.size + 1 + 1,0,none⟩)) ∧ Below w.heap.size w w' ∧
  w'.heap[w.heap.size]? = some (.cells #[.pointer (some ⟨gi,0,none⟩)] 93 (0,0)) ∧
  w'.heap[w.heap.size + 1]? = some (.cells #[fv 38,.nilFunc,.nilFunc,.nilFunc] 88 (0,0)) ∧
  w'.heap[w.heap.size + 1 + 1]? = some (.cells #[.pointer (some ⟨w.heap.size,0,none⟩),.slice (some ⟨w.heap.size + 1,0,none⟩) 1 cap,.string ⟨#[]⟩,.int .i64 0,.slice none 0 0,.int .i64 0,.slice none 0 0,.int .u32 0,.bool false,.bool false,.bool false,.bool false,.bool false] 80 (0,0)) ∧ cap = 4:=by
 have km:=make88
 go_enter Tryz.func18,Tryz.ntmps18
 go_wp2_with (fail)
 refine (newLexer gi w).mono ?_
 rintro e w1 ⟨rfl,rfl⟩
 go_upto_region 3 with (fail)
 generalize hW : (World.alloc _ _) = W
 have hsz : W.heap.size = w.heap.size + 1 + 1 + 1:=by rw [← hW];simp
 have hb1 : W.heap[w.heap.size]? = some (.cells #[.pointer (some ⟨gi,0,none⟩)] 93 (0,0)):=by
  rw [← hW]
  exact blk_alloc (blk_alloc (heap_alloc_new w _) _) _
 have hb2 : W.heap[w.heap.size + 1]? = some (.cells #[.nilFunc,.nilFunc,.nilFunc,.nilFunc] 88 (0,0)):=by
  rw [← hW]
  exact blk_alloc (heap_alloc2_new w _ _) _
 have hb3 : W.heap[w.heap.size + 1 + 1]? = some (.cells #[.pointer (some ⟨w.heap.size,0,none⟩),.slice (some ⟨w.heap.size + 1,0,none⟩) 0 4,.string ⟨#[]⟩,.int .i64 0,.slice none 0 0,.int .i64 0,.slice none 0 0,.int .u32 0,.bool false,.bool false,.bool false,.bool false,.bool false] 80 (0,0)):=by
  rw [← hW]
  have:=heap_alloc_new ((w.alloc (.cells #[.pointer (some ⟨gi,0,none⟩)] 93)).alloc (.cells #[.nilFunc,.nilFunc,.nilFunc,.nilFunc] 88)) (.cells #[.pointer (some ⟨w.heap.size,0,none⟩),.slice (some ⟨w.heap.size + 1,0,none⟩) 0 4,.string ⟨#[]⟩,.int .i64 0,.slice none 0 0,.int .i64 0,.slice none 0 0,.int .u32 0,.bool false,.bool false,.bool false,.bool false,.bool false] 80)
  simpa using this
 have hbl : Below w.heap.size w W:=by
  rw [← hW]
  exact below_alloc (below_alloc (below_alloc (Below.refl _ _) _) _) _
 clear hW
 have c1 : W.cell? ⟨w.heap.size + 1 + 1,1,none⟩ = some (.slice (some ⟨w.heap.size + 1,0,none⟩) 0 4):=by rw [blk_cell hb3];rfl
 have hb2':=blk_alloc hb2 (.cells #[.func (.func 38) #[] #[]] 88)
 have hb3':=blk_alloc hb3 (.cells #[.func (.func 38) #[] #[]] 88)
 have hb1':=blk_alloc hb1 (.cells #[.func (.func 38) #[] #[]] 88)
 have f20 : (W.alloc (.cells #[.func (.func 38) #[] #[]] 88)).frozen? ⟨w.heap.size + 1,0,none⟩ = false:=blk_frozen hb2' 0
 have c20 : (W.alloc (.cells #[.func (.func 38) #[] #[]] 88)).cell? ⟨w.heap.size + 1,0,none⟩ = some .nilFunc:=by rw [blk_cell hb2'];rfl
 have hb3'':=blk_far hb3' (p:=⟨w.heap.size + 1,0,none⟩) (by dsimp only;omega) (.func (.func 38) #[] #[])
 have hb1'':=blk_far hb1' (p:=⟨w.heap.size + 1,0,none⟩) (by dsimp only;omega) (.func (.func 38) #[] #[])
 have hb2'':=blk_set hb2' 0 (.func (.func 38) #[] #[])
 have f31:=blk_frozen hb3'' 1
 have F:=Value.func (.func 38) #[] #[]
 have hb3f:=blk_alloc (blk_set (blk_far hb3 (p:=⟨w.heap.size + 1,0,none⟩) (by dsimp only;omega) (.func (.func 38) #[] #[])) 1 (.slice (some ⟨w.heap.size + 1,0,none⟩) 1 4)) (.cells #[.func (.func 38) #[] #[]] 88)
 have hb2f:=blk_alloc (blk_far (blk_set hb2 0 (.func (.func 38) #[] #[])) (p:=⟨w.heap.size + 1 + 1,1,none⟩) (by dsimp only;omega) (.slice (some ⟨w.heap.size + 1,0,none⟩) 1 4)) (.cells #[.func (.func 38) #[] #[]] 88)
 have hb1f:=blk_alloc (blk_far (blk_far hb1 (p:=⟨w.heap.size + 1,0,none⟩) (by dsimp only;omega) (.func (.func 38) #[] #[])) (p:=⟨w.heap.size + 1 + 1,1,none⟩) (by dsimp only;omega) (.slice (some ⟨w.heap.size + 1,0,none⟩) 1 4)) (.cells #[.func (.func 38) #[] #[]] 88)
 have hbl3:=below_alloc ((hbl.setCell (p:=⟨w.heap.size + 1,0,none⟩) (by dsimp only;omega) (.func (.func 38) #[] #[])).setCell (p:=⟨w.heap.size + 1 + 1,1,none⟩) (by dsimp only;omega) (.slice (some ⟨w.heap.size + 1,0,none⟩) 1 4)) (.cells #[.func (.func 38) #[] #[]] 88)
 clear F
 have hx3:=blk_far hb3 (p:=⟨w.heap.size + 1,0,none⟩) (by dsimp only;omega) (.func (.func 38) #[] #[])
 have c31 : (W.setCell ⟨w.heap.size + 1,0,none⟩ (.func (.func 38) #[] #[])).cell? ⟨w.heap.size + 1 + 1,1,none⟩ = some (.slice (some ⟨w.heap.size + 1,0,none⟩) 0 4):=by rw [blk_cell hx3];rfl
 have f31' : (W.setCell ⟨w.heap.size + 1,0,none⟩ (.func (.func 38) #[] #[])).frozen? ⟨w.heap.size + 1 + 1,1,none⟩ = false:=blk_frozen hx3 1
 have hx4:=blk_alloc hx3 (.cells #[.func (.func 38) #[] #[]] 88)
 have c32 : ((W.setCell ⟨w.heap.size + 1,0,none⟩ (.func (.func 38) #[] #[])).alloc (.cells #[.func (.func 38) #[] #[]] 88)).cell? ⟨w.heap.size + 1 + 1,1,none⟩ = some (.slice (some ⟨w.heap.size + 1,0,none⟩) 0 4):=by rw [blk_cell hx4];rfl
 have f32 : ((W.setCell ⟨w.heap.size + 1,0,none⟩ (.func (.func 38) #[] #[])).alloc (.cells #[.func (.func 38) #[] #[]] 88)).frozen? ⟨w.heap.size + 1 + 1,1,none⟩ = false:=blk_frozen hx4 1
 clear hx3 hx4
 have kst : (store ⟨w.heap.size + 1,0,none⟩ (.func (.func 38) #[] #[])).run Tryz.prog (W.alloc (.cells #[.func (.func 38) #[] #[]] 88)) = .ok () ((W.alloc (.cells #[.func (.func 38) #[] #[]] 88)).setCell ⟨w.heap.size + 1,0,none⟩ (.func (.func 38) #[] #[])):=by
  rw [run_store _ _ _ _ _ rfl]
  simp [stored,c20,f20]
 have HB:=Aside0.mk (And.intro hb1f (And.intro hb2f (And.intro hb3f hbl3)))
 clear hb1 hb2 hb3 hb1' hb2' hb3' hb1'' hb2'' hb3'' hb1f hb2f hb3f hbl hbl3
 go_wp2_with (fail)
 go_ret
 exact ⟨4,rfl,HB.out.2.2.2,HB.out.1,HB.out.2.1,HB.out.2.2.1,rfl⟩
def pv0 (g cap : Nat) : PV:=⟨.slice (some ⟨g,0,none⟩) 1 cap,⟨#[]⟩,0,.slice none 0 0,0,.slice none 0 0,0,false,false,false,false,false⟩
theorem ps_start {wc w1 w' : World} {gi gb cap eT : Nat} {eA : Addr} {xs : List Int} (hB0 : B = w0.heap.size) (h0 : 0 < B) (hbc : Below B w0 wc) (hi : Inp wc w1 B gi gb cap xs) (hbl : Below w1.heap.size w1 w')
  (hg1 : w'.heap[w1.heap.size]? = some (.cells #[.pointer (some ⟨gi,0,none⟩)] 93 (0,0)))
  (hg2 : w'.heap[w1.heap.size + 1]? = some (.cells #[fv 38,.nilFunc,.nilFunc,.nilFunc] 88 (0,0)))
  (hg3 : w'.heap[w1.heap.size + 1 + 1]? = some (.cells #[.pointer (some ⟨w1.heap.size,0,none⟩),.slice (some ⟨w1.heap.size + 1,0,none⟩) 1 4,.string ⟨#[]⟩,.int .i64 0,.slice none 0 0,.int .i64 0,.slice none 0 0,.int .u32 0,.bool false,.bool false,.bool false,.bool false,.bool false] 80 (0,0)))
  (heof : w0.cell? ⟨0,0,none⟩ = some (.iface eT (.pointer (some eA)))) (hgood : Good (xs ++ [0])) (hlen : (xs ++ [0]).length ≤ 1099511627776) :
  Ps B w0 ⟨w1.heap.size,gi,gb,cap,xs ++ [0],eT,eA⟩ (w1.heap.size + 1 + 1) w' 0 (pv0 (w1.heap.size + 1) 4) [] [38] []:=by
 obtain ⟨hinp,hown,hb1,hBi⟩:=hi
 have hB1 : B ≤ w1.heap.size:=by have:=hbc.size;have:=hb1.size;omega
 have hinp':=blk_below hinp hbl
 have hown':=pw_own_below hown hbl
 have hall : Below B w0 w':=(hbc.trans hb1).trans (hbl.mono hB1)
 rcases hown'.2 with ⟨_,hz⟩|⟨g,cap',cur,e,hBg,hh,hn,hm,hsz,htk⟩
 ·simp at hz
 ·injection e with e e1 e2
  injection e with e
  injection e with e
  subst e;subst e2
  have hbuf : ∀ j : Nat,j < (xs ++ [0]).length → w'.cell? ⟨gb,j,none⟩ = some (.int .u8 ((xs ++ [0]).getD j 0)):=by
   intro j hj
   rw [blk_cell hh,← Array.getElem?_toList]
   have : (cur.toList.take (xs ++ [0]).length)[j]? = (nums .u8 (xs ++ [0]))[j]?:=by
    have htk' : cur.toList.take (xs ++ [0]).length = nums .u8 (xs ++ [0]):=by simpa using htk
    rw [htk']
   rw [List.getElem?_take,if_pos hj] at this
   rw [this]
   simp only [nums,List.getElem?_map,List.getElem?_eq_getElem hj,List.getD_eq_getElem?_getD]
   rfl
  have h00 : w'.cell? ⟨0,0,none⟩ = some (.iface eT (.pointer (some eA))):=by
   rw [← heof]
   exact World.cell?_of_block (hall.block 0 h0)
  refine ⟨⟨hg1,hinp',hbuf,h00,blk_ne hg1 hinp' (by decide),blk_ne hh hinp' (by decide),by show 0 ≠ gi;omega,Kp.refl _ _,Int.le_refl _,Int.le_refl _,?_,hlen,by simpa using hn,hgood⟩,hg3,⟨cur,_,hh⟩,Tb.nil _ _,?_,Rd.nil _,(Kt.refl B w0).below (hB0 ▸ hall) (by omega),by omega,hBi⟩
  ·show (0 : Int) < ((xs ++ [0]).length : Int)
   simp
  ·exact ⟨by simp [fv],.inr ⟨w1.heap.size + 1,4,_,rfl,by omega,hg2,by decide,by simp [maxLen],by simp,by simp⟩⟩
end Go.Proofs.YtlglijnaeaonpaaGreatDoor.Lx
end
