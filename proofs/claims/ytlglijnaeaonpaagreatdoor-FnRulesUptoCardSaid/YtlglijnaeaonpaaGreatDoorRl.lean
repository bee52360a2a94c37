/- FnRules: a part of the proof (Rl). -/
import Derived.Test.YtlglijnaeaonpaaGreatDoorProg
import Derived.WalkKit
import Derived.WalkSpells
import Derived.WalkLawsBesides
import Derived.KernelRfl
import Derived.Deep.QuietTactic
import Derived.BigQuiet
import Derived.Test.YtlglijnaeaonpaaGreatDoorRWords
import Derived.Test.YtlglijnaeaonpaaGreatDoorRi
import Derived.Deep.LoopGhost
import Derived.Deep.DeepCutAuto
section
set_option maxHeartbeats 8000000
set_option maxRecDepth 100000
set_option linter.unusedVariables false
set_option linter.unusedSimpArgs false
namespace Go.Proofs.YtlglijnaeaonpaaGreatDoor.Lx
open Go.RowKit Go.Proofs.YtlglijnaeaonpaaGreatDoorW.aC
structure lQ where
 gl:Nat
 gi:Nat
 gb:Nat
 cap:Nat
 bs:List Int
 eT:Nat
 eA:Addr
abbrev lQ.eof (c:lQ):Value:=.iface c.eT (.pointer (some c.eA))
structure Kp (g:Nat) (w w' :World):Prop where
 os:w'.os=w.os
 tape:w'.tape=w.tape
 output:w'.output=w.output
 size:w.heap.size≤w'.heap.size
 block:∀k,k<w.heap.size→k≠g→w'.heap[k]? =w.heap[k]?
theorem Kp.refl (g:Nat) (w:World):Kp g w w:=⟨rfl,rfl,rfl,Nat.le_refl _,fun _ _ _=>rfl⟩
theorem Kp.drew {g:Nat} {a b:World} (h:Kp g a b):Kp g a b.drew:=⟨h.os,h.tape,h.output,h.size,h.block⟩
theorem Kp.drewN {g:Nat} {a b:World} (h:Kp g a b) (n:Nat):Kp g a (b.drewN n):=⟨h.os,h.tape,h.output,h.size,h.block⟩
theorem Kp.gG {g:Nat} {a b:World} (h:Kp g a b) (j:Nat) (u:Value):Kp g a (b.setCell ⟨g,j,none⟩ u):=
 ⟨h.os,h.tape,h.output,by simpa [World.setCell] using h.size,fun i hi hg=>(Below.heap_setCell b ⟨g,j,none⟩ u i hg).trans (h.block i hi hg)⟩
theorem Kp.below {g:Nat} {a b c:World} (h:Kp g a b) (k:Below b.heap.size b c):Kp g a c:=
 ⟨k.os.trans h.os,k.tape.trans h.tape,k.output.trans h.output,Nat.le_trans h.size k.size,fun i hi hg=>(k.block i (Nat.lt_of_lt_of_le hi h.size)).trans (h.block i hi hg)⟩
structure Good (bs:List Int):Prop where
 mid:∀j:Nat,j+1<bs.length→0<bs.getD j 0∧bs.getD j 0≤255∧bs.getD j 0≠92
 last:bs.getD (bs.length - 1) 0=0
 pos:0<bs.length
theorem Good.range {bs:List Int} (h:Good bs) (i:Int):0≤at_ bs i∧at_ bs i≤255∧at_ bs i≠92:=by
 unfold at_
 rcases Nat.lt_trichotomy (i.toNat+1) bs.length with hl|hl|hl
 ·have:=h.mid i.toNat hl;omega
 ·have:=h.last;rw [show i.toNat=bs.length - 1 by omega,this];omega
 ·rw [List.getD_eq_getElem?_getD,List.getElem?_eq_none (by omega)];simp
theorem Good.lt {bs:List Int} (h:Good bs) (i:Int) (h0:0≤i) (h1:i<bs.length) (hn:at_ bs i≠0):i+1<bs.length:=by
 rcases Nat.lt_or_ge (i.toNat+1) bs.length with hl|hl
 ·omega
 ·exfalso;apply hn;unfold at_;have:=h.last;rw [show i.toNat=bs.length - 1 by omega,this]
structure St (w0:World) (c:lQ) (w:World) (p s:Int):Prop where
 lex:w.heap[c.gl]? =some (.cells #[.pointer (some ⟨c.gi,0,none⟩)] 93 (0,0))
 uT:w.heap[c.gi]? =some (.cells #[.slice (some ⟨c.gb,0,none⟩) c.bs.length c.cap,.int .i64 p,.int .i64 s,.nilIface,.nilFunc] 84 (0,0))
 buf:∀j:Nat,j<c.bs.length→w.cell? ⟨c.gb,j,none⟩=some (.int .u8 (c.bs.getD j 0))
 eof:w.cell? ⟨0,0,none⟩=some c.eof
 nl:c.gl≠c.gi
 nb:c.gb≠c.gi
 ne:0≠c.gi
 kept:Kp c.gi w0 w
 dK:0≤s
 ei:s≤p
 dS:p<c.bs.length
 ej:c.bs.length≤1099511627776
 ME:c.bs.length≤c.cap
 ok:Good c.bs
variable {w0 w:World} {c:lQ} {p s:Int}
theorem St.r (h:St w0 c w p s):w.cell? ⟨c.gl,0,none⟩=some (.pointer (some ⟨c.gi,0,none⟩)):=by rw [ao h.lex];rfl
theorem St.c0 (h:St w0 c w p s):w.cell? ⟨c.gi,0,none⟩=some (.slice (some ⟨c.gb,0,none⟩) c.bs.length c.cap):=by rw [ao h.uT];rfl
theorem St.c1 (h:St w0 c w p s):w.cell? ⟨c.gi,1,none⟩=some (.int .i64 p):=by rw [ao h.uT];rfl
theorem St.c2 (h:St w0 c w p s):w.cell? ⟨c.gi,2,none⟩=some (.int .i64 s):=by rw [ao h.uT];rfl
theorem St.c3 (h:St w0 c w p s):w.cell? ⟨c.gi,3,none⟩=some .nilIface:=by rw [ao h.uT];rfl
theorem St.f (h:St w0 c w p s) (j:Nat):w.frozen? ⟨c.gi,j,none⟩=false:=ai h.uT j
theorem St.byte (h:St w0 c w p s) (i:Int) (h0:0≤i) (h1:i<c.bs.length):w.cell? ⟨c.gb,i.toNat,none⟩=some (.int .u8 (at_ c.bs i)):=h.buf i.toNat (by omega)
theorem St.drew (h:St w0 c w p s):St w0 c w.drew p s:=⟨h.lex,h.uT,h.buf,h.eof,h.nl,h.nb,h.ne,h.kept.drew,h.dK,h.ei,h.dS,h.ej,h.ME,h.ok⟩
theorem St.drewN (h:St w0 c w p s) (n:Nat):St w0 c (w.drewN n) p s:=⟨h.lex,h.uT,h.buf,h.eof,h.nl,h.nb,h.ne,h.kept.drewN n,h.dK,h.ei,h.dS,h.ej,h.ME,h.ok⟩
theorem St.below (h:St w0 c w p s) {w1:World} (k:Below w.heap.size w w1):St w0 c w1 p s:=
 ⟨gX h.lex k,gX h.uT k,fun j hj=>al k (h.buf j hj),al k h.eof,h.nl,h.nb,h.ne,h.kept.below k,h.dK,h.ei,h.dS,h.ej,h.ME,h.ok⟩
theorem St.alloc (h:St w0 c w p s) (o:Obj):St w0 c (w.alloc o) p s:=h.below (au (Below.refl _ _) o)
theorem cell_far {w:World} {a q:Addr} {u:Value} (h:a.block≠q.block):(w.setCell q u).cell? a=w.cell? a:=World.cell?_of_block (w:=w) (Below.heap_setCell w q u a.block h)
theorem St.YH (h:St w0 c w p s) (q:Int) (h1:s≤q) (h2:q<c.bs.length):St w0 c (w.setCell ⟨c.gi,1,none⟩ (.int .i64 q)) q s:=
 ⟨ee h.lex h.nl _,by have:=cj h.uT 1 (.int .i64 q);simpa using this,fun j hj=>by rw [cell_far h.nb];exact h.buf j hj,by rw [cell_far h.ne];exact h.eof,h.nl,h.nb,h.ne,h.kept.gG _ _,h.dK,h1,h2,h.ej,h.ME,h.ok⟩
theorem St.TW (h:St w0 c w p s):St w0 c (w.setCell ⟨c.gi,2,none⟩ (.int .i64 p)) p p:=
 ⟨ee h.lex h.nl _,by have:=cj h.uT 2 (.int .i64 p);simpa using this,fun j hj=>by rw [cell_far h.nb];exact h.buf j hj,by rw [cell_far h.ne];exact h.eof,h.nl,h.nb,h.ne,h.kept.gG _ _,by have:=h.dK;have:=h.ei;omega,Int.le_refl _,h.dS,h.ej,h.ME,h.ok⟩
theorem St.th (h:St w0 c w p s):St w c w p s:={h with kept:=Kp.refl _ _}
theorem Db (k:Int) (h:St w0 c w p s) (h0:0≤p+k) (h1:p+k<c.bs.length):
  Calls Tryz.prog 80 #[.pointer (some ⟨c.gi,0,none⟩),.int .i64 k] w fun e w' =>e= .returned (.int .u8 (at_ c.bs (p+k)))∧St w0 c w' (p) (s):=by
 have a0:=h.c0
 have a1:=h.c1
 have a2:=h.byte (p+k) h0 h1
 have:=h.dK
 have:=h.ei
 have:=h.dS
 have:=h.ej
 have h0' :0≤k+p:=by omega
 have QH :k+p<c.bs.length:=by omega
 rw [Int.add_comm p k] at a2
 go_enter Tryz.func80,Tryz.ntmps80
 go_wp2
 go_ret
 rw [Int.add_comm p k]
 exact⟨rfl,h⟩
theorem bE (h:St w0 c w p s):
  Calls Tryz.prog 80 #[.pointer (some ⟨c.gi,0,none⟩),.int .i64 0] w fun e w' =>e= .returned (.int .u8 (at_ c.bs p))∧St w0 c w' (p) (s):=by
 have hp:=Db 0 h (by have:=h.dK;have:=h.ei;omega) (by have:=h.dS;omega)
 rwa [Int.add_zero] at hp
theorem move (k:Int) (h:St w0 c w p s) (h0:s≤p+k) (h1:p+k<c.bs.length):
  Calls Tryz.prog 58 #[.pointer (some ⟨c.gi,0,none⟩),.int .i64 k] w fun e w' =>e= .returned (.tuple #[])∧St w0 c w' (p+k) s:=by
 have a1:=h.c1
 have f1:=h.f 1
 have:=h.dK
 have:=h.ei
 have:=h.dS
 have:=h.ej
 have h0' :0≤p+k:=by omega
 go_enter Tryz.func58,Tryz.ntmps58
 go_wp2
 go_end0
 exact⟨rfl,h.YH _ h0 h1⟩
theorem pos (h:St w0 c w p s):
  Calls Tryz.prog 97 #[.pointer (some ⟨c.gi,0,none⟩)] w fun e w' =>e= .returned (.int .i64 (p - s))∧St w0 c w' p s:=by
 have a1:=h.c1
 have a2:=h.c2
 have:=h.dK
 have:=h.ei
 have:=h.dS
 have:=h.ej
 go_enter Tryz.func97,Tryz.ntmps97
 go_wp2
 go_quiet (fail)
 go_wp2
 go_ret
 exact⟨rfl,h.drewN _⟩
theorem offset (h:St w0 c w p s):
  Calls Tryz.prog 59 #[.pointer (some ⟨c.gi,0,none⟩)] w fun e w' =>e= .returned (.int .i64 p)∧St w0 c w' p s:=by
 have a1:=h.c1
 go_enter Tryz.func59,Tryz.ntmps59
 go_wp2
 go_ret
 exact⟨rfl,h⟩
theorem rewind (k:Int) (h:St w0 c w p s) (h0:0≤k) (h1:s+k<c.bs.length):
  Calls Tryz.prog 119 #[.pointer (some ⟨c.gi,0,none⟩),.int .i64 k] w fun e w' =>e= .returned (.tuple #[])∧St w0 c w' (s+k) s:=by
 have a1:=h.c1
 have a2:=h.c2
 have f1:=h.f 1
 have:=h.dK
 have:=h.ei
 have:=h.dS
 have:=h.ej
 have h0' :0≤s+k:=by omega
 go_enter Tryz.func119,Tryz.ntmps119
 go_wp2
 go_end0
 exact⟨rfl,h.YH _ (by omega) h1⟩
def cut (c:lQ) (s p:Int):Value:=.slice (some ⟨c.gb,s.toNat,none⟩) (p - s).toNat (p - s).toNat
theorem aeK (g n:Nat):(⟨g,0,none⟩:Addr).add n=⟨g,n,none⟩:=add_plain g n
theorem TX (c:lQ) (s p:Int) (h0:0≤s) (h1:s<p):sliced (some ⟨c.gb,0,none⟩) s.toNat p.toNat p.toNat 1=cut c s p:=by
 unfold sliced cut
 rw [if_neg (by omega)]
 simp only [Option.map_some,Nat.mul_one,aeK]
 rw [show p.toNat - s.toNat=(p - s).toNat by omega]
theorem Fp (h:St w0 c w p s) (h1:s<p) (W:World):
  (Instr.slice 24 (.slice (some ⟨c.gb,0,none⟩) c.bs.length c.cap) (some (.int .i64 s)) (some (.int .i64 p)) (some (.int .i64 p))).run Tryz.prog W= .ok (cut c s p) W:=by
 have:=h.dK
 have:=h.dS
 have:=h.ME
 rw [run_slice_lhm W 24 _ _ _ Tryz.underlying24 .i64 .i64 .i64 s p p (by omega) (by omega) (by omega) (by omega)]
 rw [show (sizeOf (Tryz.prog.elem 24)).run Tryz.prog W= .ok 1 W by kernel_rfl]
 simp only [Result.andThen_ok]
 rw [TX c s p h.dK h1]
theorem shift (h:St w0 c w p s) (h1:s<p):
  Calls Tryz.prog 82 #[.pointer (some ⟨c.gi,0,none⟩)] w fun e w' =>e= .returned (cut c s p)∧St w0 c w' p p:=by
 have a0:=h.c0
 have a1:=h.c1
 have a2:=h.c2
 have f1:=h.f 2
 have hc:=Fp h h1
 go_enter Tryz.func82,Tryz.ntmps82
 go_wp2
 go_quiet (fail)
 go_wp2
 go_ret
 exact⟨rfl,h.TW.drewN _⟩
theorem Ka (h:St w0 c w p s) (h1:s<p):
  Calls Tryz.prog 100 #[.pointer (some ⟨c.gi,0,none⟩)] w fun e w' =>e= .returned (cut c s p)∧St w0 c w' p s:=by
 have a0:=h.c0
 have a1:=h.c1
 have a2:=h.c2
 have hc:=Fp h h1
 go_enter Tryz.func100,Tryz.ntmps100
 go_wp2
 go_quiet (fail)
 go_wp2
 go_ret
 exact⟨rfl,h.drewN _⟩
end Go.Proofs.YtlglijnaeaonpaaGreatDoor.Lx
end
section
set_option maxHeartbeats 8000000
set_option maxRecDepth 100000
set_option linter.unusedVariables false
set_option linter.unusedSimpArgs false
namespace Go.Proofs.YtlglijnaeaonpaaGreatDoor.Lx
open Go.RowKit Go.Proofs.YtlglijnaeaonpaaGreatDoorW.aC
variable {w0 w:World} {c:lQ} {p s:Int}
theorem St.more (h:St w0 c w p s) (hn:at_ c.bs p≠0):p+1<c.bs.length:=h.ok.lt p (by have:=h.dK;have:=h.ei;omega) h.dS hn
theorem St.Kb (h:St w0 c w p s) (i:Int):(at_ c.bs i !=92)=true:=by have:=(h.ok.range i).2.2;simpa using this
theorem Good.tj {f:Int→Prop} [DecidablePred f] {bs:List Int} (h:Good bs) (hf:¬f 0) {p:Int} (h0:0≤p) (h1:p<bs.length):run f bs p<bs.length:=by
 have h2:=ib (f:=f) (bs:=bs) (p:=p) h0 (by omega)
 by_cases he:run f bs p=bs.length
 ·have h4:=pC (f:=f) (bs:=bs) (p:=p) h0 (bs.length - 1) (by omega) (by omega)
  have h5:=h.last
  unfold at_ at h4
  rw [show ((bs.length:Int) - 1).toNat=bs.length - 1 by omega,h5] at h4
  exact absurd h4 hf
 ·omega
theorem nW (h:St w0 c w p s) (h0:Dg (at_ c.bs p)):
  Calls Tryz.prog 145 #[.pointer (some ⟨c.gl,0,none⟩)] w fun e w' =>e= .returned (.bool true)∧St w0 c w' (p+1) s:=by
 have hr:=h.r;have b0:=h.dK;have b1:=h.ei;have b2:=h.dS;have b3:=h.ej
 unfold Dg at h0
 have l2:=h.more (by omega)
 go_enter Tryz.func145,Tryz.ntmps145
 go_wp2_with (first|(go_at_call 80;(with_reducible refine(bE (by assumption)).mono ?_);rintro e w1 ⟨rfl,hS⟩;have hr:=hS.r)|(go_at_call 58;(with_reducible refine(move _ (by assumption) (by omega) (by omega)).mono ?_);rintro e w1 ⟨rfl,hS⟩;have hr:=hS.r))
 go_ret
 exact⟨rfl,by assumption⟩
theorem jR (h:St w0 c w p s) (h0:¬Dg (at_ c.bs p)):
  Calls Tryz.prog 145 #[.pointer (some ⟨c.gl,0,none⟩)] w fun e w' =>e= .returned (.bool false)∧St w0 c w' p s:=by
 have hr:=h.r;have b0:=h.dK;have b1:=h.ei;have b2:=h.dS;have b3:=h.ej
 unfold Dg at h0
 go_enter Tryz.func145,Tryz.ntmps145
 go_wp2_with (first|(go_at_call 80;(with_reducible refine(bE (by assumption)).mono ?_);rintro e w1 ⟨rfl,hS⟩;have hr:=hS.r))
 all_goals
  go_ret
  exact⟨rfl,by assumption⟩
theorem YI (h:St w0 c w p s) (h0:¬Hx (at_ c.bs p)):
  Calls Tryz.prog 128 #[.pointer (some ⟨c.gl,0,none⟩)] w fun e w' =>e= .returned (.bool false)∧St w0 c w' p s:=by
 have hr:=h.r;have b0:=h.dK;have b1:=h.ei;have b2:=h.dS;have b3:=h.ej
 unfold Hx at h0
 go_enter Tryz.func128,Tryz.ntmps128
 go_wp2_with (first|(go_at_call 80;(with_reducible refine(bE (by assumption)).mono ?_);rintro e w1 ⟨rfl,hS⟩;have hr:=hS.r))
 all_goals
  go_ret
  exact⟨rfl,by assumption⟩
theorem Oc (h:St w0 c w p s) (h0:Ws (at_ c.bs p)):
  Calls Tryz.prog 81 #[.pointer (some ⟨c.gl,0,none⟩)] w fun e w' =>e= .returned (.bool true)∧St w0 c w' (p+1) s:=by
 have hr:=h.r;have b0:=h.dK;have b1:=h.ei;have b2:=h.dS;have b3:=h.ej
 unfold Ws at h0
 have l2:=h.more (by omega)
 rcases h0 with h0|h0|h0|h0|h0
 all_goals
  go_enter Tryz.func81,Tryz.ntmps81
  go_wp2_with (first|(go_at_call 80;(with_reducible refine(bE (by assumption)).mono ?_);rintro e w1 ⟨rfl,hS⟩;have hr:=hS.r)|(go_at_call 58;(with_reducible refine(move _ (by assumption) (by omega) (by omega)).mono ?_);rintro e w1 ⟨rfl,hS⟩;have hr:=hS.r))
  go_ret
  exact⟨rfl,by assumption⟩
theorem TY (h:St w0 c w p s) (h0:¬Ws (at_ c.bs p)):
  Calls Tryz.prog 81 #[.pointer (some ⟨c.gl,0,none⟩)] w fun e w' =>e= .returned (.bool false)∧St w0 c w' p s:=by
 have hr:=h.r;have b0:=h.dK;have b1:=h.ei;have b2:=h.dS;have b3:=h.ej
 unfold Ws at h0
 obtain⟨e1,e2,e3,e4,e5⟩:(at_ c.bs p==32)=false∧(at_ c.bs p==9)=false∧(at_ c.bs p==10)=false∧(at_ c.bs p==13)=false∧(at_ c.bs p==12)=false:=by simp;omega
 go_enter Tryz.func81,Tryz.ntmps81
 go_wp2_with (first|(go_at_call 80;(with_reducible refine(bE (by assumption)).mono ?_);rintro e w1 ⟨rfl,hS⟩;have hr:=hS.r))
 all_goals
  go_ret
  exact⟨rfl,by assumption⟩
theorem Dc (h:St w0 c w p s) (b:Int) (hb:b≠0) (h0:(at_ c.bs p==b)=true):
  Calls Tryz.prog 122 #[.pointer (some ⟨c.gl,0,none⟩),.int .u8 b] w fun e w' =>e= .returned (.bool true)∧St w0 c w' (p+1) s:=by
 have hr:=h.r;have b0:=h.dK;have b1:=h.ei;have b2:=h.dS;have b3:=h.ej
 have l2:=h.more (by simp at h0;omega)
 go_enter Tryz.func122,Tryz.ntmps122
 go_wp2_with (first|(go_at_call 80;(with_reducible refine(bE (by assumption)).mono ?_);rintro e w1 ⟨rfl,hS⟩;have hr:=hS.r)|(go_at_call 58;(with_reducible refine(move _ (by assumption) (by omega) (by omega)).mono ?_);rintro e w1 ⟨rfl,hS⟩;have hr:=hS.r))
 go_ret
 exact⟨rfl,by assumption⟩
theorem Dd (h:St w0 c w p s) (b:Int) (h0:(at_ c.bs p==b)=false):
  Calls Tryz.prog 122 #[.pointer (some ⟨c.gl,0,none⟩),.int .u8 b] w fun e w' =>e= .returned (.bool false)∧St w0 c w' p s:=by
 have hr:=h.r;have b0:=h.dK;have b1:=h.ei;have b2:=h.dS;have b3:=h.ej
 go_enter Tryz.func122,Tryz.ntmps122
 go_wp2_with (first|(go_at_call 80;(with_reducible refine(bE (by assumption)).mono ?_);rintro e w1 ⟨rfl,hS⟩;have hr:=hS.r))
 go_ret
 exact⟨rfl,by assumption⟩
theorem bracket (h:St w0 c w p s) (t:Int) (h0:Bk (at_ c.bs p) t):
  Calls Tryz.prog 83 #[.pointer (some ⟨c.gl,0,none⟩)] w fun e w' =>e= .returned (.int .u32 t)∧St w0 c w' (p+1) s:=by
 have hr:=h.r;have b0:=h.dK;have b1:=h.ei;have b2:=h.dS;have b3:=h.ej
 have l2:=h.more (by unfold Bk at h0;omega)
 unfold Bk at h0
 rcases h0 with ⟨h0,rfl⟩|⟨h0,rfl⟩|⟨h0,rfl⟩|⟨h0,rfl⟩|⟨h0,rfl⟩|⟨h0,rfl⟩
 all_goals
  go_enter Tryz.func83,Tryz.ntmps83
  go_wp2_with (first|(go_at_call 80;(with_reducible refine(bE (by assumption)).mono ?_);rintro e w1 ⟨rfl,hS⟩;have hr:=hS.r)|(go_at_call 58;(with_reducible refine(move _ (by assumption) (by omega) (by omega)).mono ?_);rintro e w1 ⟨rfl,hS⟩;have hr:=hS.r))
  go_ret
  exact⟨rfl,by assumption⟩
theorem Od (h:St w0 c w p s) (t:Int) (h0:Mt (at_ c.bs p) t) (h1:at_ c.bs (p+1)=61):
  Calls Tryz.prog 91 #[.pointer (some ⟨c.gl,0,none⟩)] w fun e w' =>e= .returned (.int .u32 t)∧St w0 c w' (p+2) s:=by
 have hr:=h.r;have b0:=h.dK;have b1:=h.ei;have b2:=h.dS;have b3:=h.ej
 have l2:=h.more (by unfold Mt at h0;omega)
 have l3:=h.ok.lt (p+1) (by omega) l2 (by omega)
 unfold Mt at h0
 rcases h0 with ⟨h0,rfl⟩|⟨h0,rfl⟩|⟨h0,rfl⟩|⟨h0,rfl⟩|⟨h0,rfl⟩
 all_goals
  go_enter Tryz.func91,Tryz.ntmps91
  go_wp2_with (first|(go_at_call 80;(with_reducible refine(bE (by assumption)).mono ?_);rintro e w1 ⟨rfl,hS⟩;have hr:=hS.r)|(go_at_call 80;(with_reducible refine(Db _ (by assumption) (by omega) (by omega)).mono ?_);rintro e w1 ⟨rfl,hS⟩;have hr:=hS.r)|(go_at_call 58;(with_reducible refine(move _ (by assumption) (by omega) (by omega)).mono ?_);rintro e w1 ⟨rfl,hS⟩;have hr:=hS.r))
  go_ret
  exact⟨rfl,by assumption⟩
theorem Oe (h:St w0 c w p s) (h0:at_ c.bs p≠0) (h1:(at_ c.bs (p+1)==61)=false):
  Calls Tryz.prog 91 #[.pointer (some ⟨c.gl,0,none⟩)] w fun e w' =>e= .returned (.int .u32 0)∧St w0 c w' p s:=by
 have hr:=h.r;have b0:=h.dK;have b1:=h.ei;have b2:=h.dS;have b3:=h.ej
 have l2:=h.more h0
 go_enter Tryz.func91,Tryz.ntmps91
 go_wp2_with (first|(go_at_call 80;(with_reducible refine(bE (by assumption)).mono ?_);rintro e w1 ⟨rfl,hS⟩;have hr:=hS.r)|(go_at_call 80;(with_reducible refine(Db _ (by assumption) (by omega) (by omega)).mono ?_);rintro e w1 ⟨rfl,hS⟩;have hr:=hS.r)|(go_at_call 58;(with_reducible refine(move _ (by assumption) (by omega) (by omega)).mono ?_);rintro e w1 ⟨rfl,hS⟩;have hr:=hS.r))
 go_ret
 exact⟨rfl,by assumption⟩
theorem Az (h:St w0 c w p s) (h0:at_ c.bs p=45) (h1:(at_ c.bs (p+1)==45)=false):
  Calls Tryz.prog 87 #[.pointer (some ⟨c.gl,0,none⟩)] w fun e w' =>e= .returned (.bool false)∧St w0 c w' p s:=by
 have hr:=h.r;have b0:=h.dK;have b1:=h.ei;have b2:=h.dS;have b3:=h.ej
 have l2:=h.more (by omega)
 go_enter Tryz.func87,Tryz.ntmps87
 go_wp2_with (first|(go_at_call 80;(with_reducible refine(bE (by assumption)).mono ?_);rintro e w1 ⟨rfl,hS⟩;have hr:=hS.r)|(go_at_call 80;(with_reducible refine(Db _ (by assumption) (by omega) (by omega)).mono ?_);rintro e w1 ⟨rfl,hS⟩;have hr:=hS.r)|(go_at_call 58;(with_reducible refine(move _ (by assumption) (by omega) (by omega)).mono ?_);rintro e w1 ⟨rfl,hS⟩;have hr:=hS.r))
 go_ret
 exact⟨rfl,by assumption⟩
theorem nf (h:St w0 c w p s) (h0:at_ c.bs p=45) (h1:(at_ c.bs (p+1)==45)=false):
  Calls Tryz.prog 88 #[.pointer (some ⟨c.gl,0,none⟩)] w fun e w' =>e= .returned (.bool false)∧St w0 c w' p s:=by
 have hr:=h.r;have b0:=h.dK;have b1:=h.ei;have b2:=h.dS;have b3:=h.ej
 have QH :(at_ c.bs (p+1) !=45)=true:=by simpa using h1
 have l2:=h.more (by omega)
 go_enter Tryz.func88,Tryz.ntmps88
 go_wp2_with (first|(go_at_call 80;(with_reducible refine(bE (by assumption)).mono ?_);rintro e w1 ⟨rfl,hS⟩;have hr:=hS.r)|(go_at_call 80;(with_reducible refine(Db _ (by assumption) (by omega) (by omega)).mono ?_);rintro e w1 ⟨rfl,hS⟩;have hr:=hS.r)|(go_at_call 58;(with_reducible refine(move _ (by assumption) (by omega) (by omega)).mono ?_);rintro e w1 ⟨rfl,hS⟩;have hr:=hS.r))
 go_ret
 exact⟨rfl,by assumption⟩
theorem Of (h:St w0 c w p s) (h0:Sn (at_ c.bs p)):
  Calls Tryz.prog 123 #[.pointer (some ⟨c.gl,0,none⟩)] w fun e w' =>e= .returned (.bool true)∧St w0 c w' (run Nm c.bs p) s:=by
 have hr:=h.r;have b0:=h.dK;have b1:=h.ei;have b2:=h.dS;have b3:=h.ej
 have BY:=h0.nm
 have l2:=h.more (by unfold Sn at h0;omega)
 have rA:Ri Nm c.bs p (p+1) ((c.bs.length:Int) - (p+1)).toNat:=(Ri.start (by omega) (by omega)).step (by omega) BY
 clear BY
 have d0:(at_ c.bs p==45)=false:=by unfold Sn at h0;simp;omega
 go_enter Tryz.func123,Tryz.ntmps123
 go_upto_region 10 with (first|(go_at_call 80;(with_reducible refine(bE (by assumption)).mono ?_);rintro e w1 ⟨rfl,hS⟩;have hr:=hS.r)|(go_at_call 58;(with_reducible refine(move _ (by assumption) (by omega) (by omega)).mono ?_);rintro e w1 ⟨rfl,hS⟩;have hr:=hS.r)|(go_at_call 97;(with_reducible refine(pos (by assumption)).mono ?_);rintro e w1 ⟨rfl,hS⟩;have hr:=hS.r))
 go_cut [63] (fun TZ wx=>TZ= .bool false∧St w0 c wx p s)
 case first=>
  rcases Yo h0 with ⟨x0,x1,x2,x3,x4,x5⟩|⟨x0,x1,x2,x3,x4,x5⟩|⟨x0,x1,x2,x3,x4,x5⟩|⟨x0,x1,x2,x3,x4,x5⟩
  all_goals (go_wp2_with fail;go_meet;exact⟨rfl,by assumption⟩)
 case rest=>
  obtain⟨rfl,hS⟩:=hcut
  have hr:=hS.r
  go_wp2_with (first|(go_at_call 80;(with_reducible refine(bE (by assumption)).mono ?_);rintro e w1 ⟨rfl,hS⟩;have hr:=hS.r)|(go_at_call 58;(with_reducible refine(move _ (by assumption) (by omega) (by omega)).mono ?_);rintro e w1 ⟨rfl,hS⟩;have hr:=hS.r))
  go_loopg [] ((c.bs.length:Int) - (p+1)).toNat (fun k w' =>∃q:Int,Ri Nm c.bs p q k∧St w0 c w' q s)
  case atStart=>exact⟨_,rA,by assumption⟩
  case round=>
   clear hS hr
   obtain⟨q,hR,hS⟩:=hrel
   have hr:=hS.r;have b0:=hS.dK;have b1:=hS.ei;have b2:=hS.dS;have b3:=hS.ej
   have n92:=hS.Kb q
   go_upto_region 16 with (first|(go_at_call 80;(with_reducible refine(bE (by assumption)).mono ?_);rintro e w1 ⟨rfl,hS⟩;have hr:=hS.r))
   by_cases hn:Nm (at_ c.bs q)
   ·have iV:=hR.step (by omega) hn
    have eh:=hR.lt (by omega)
    have hm:=hS.more (by unfold Nm at hn;omega)
    go_cut [121] (fun De wx=>De= .bool false∧St w0 c wx q s)
    case first=>
     rcases NW hn with ⟨x0,x1,x2,x3,x4,x5,x6,x7,x8⟩|⟨x0,x1,x2,x3,x4,x5,x6,x7,x8⟩|⟨x0,x1,x2,x3,x4,x5,x6,x7,x8⟩|⟨x0,x1,x2,x3,x4,x5,x6,x7,x8⟩|⟨x0,x1,x2,x3,x4,x5,x6,x7,x8⟩|⟨x0,x1,x2,x3,x4,x5,x6,x7,x8⟩
     all_goals (go_wp2_with fail;go_meet;exact⟨rfl,by assumption⟩)
    case rest=>
     obtain⟨rfl,hS⟩:=hcut
     have hr:=hS.r
     go_wp2_with (first|(go_at_call 80;(with_reducible refine(bE (by assumption)).mono ?_);rintro e w1 ⟨rfl,hS⟩;have hr:=hS.r)|(go_at_call 58;(with_reducible refine(move _ (by assumption) (by omega) (by omega)).mono ?_);rintro e w1 ⟨rfl,hS⟩;have hr:=hS.r))
     go_roundg (((c.bs.length:Int) - (q+1)).toNat)
     case measure=>exact eh
     case rel=>exact⟨_,iV,by assumption⟩
   ·have hq:=hR.done hn
    have HQ:=am hq
    clear hq
    go_cut [121] (fun De wx=>De= .bool true∧St w0 c wx q s)
    case first=>
     rcases TF hn with ⟨x0,x1,x2,x3,x4,x5,x6,x7,x8⟩|⟨x0,x1,x2,x3,x4,x5,x6,x7,x8⟩|⟨x0,x1,x2,x3,x4,x5,x6,x7,x8⟩|⟨x0,x1,x2,x3,x4,x5,x6,x7,x8⟩
     all_goals (go_wp2_with fail;go_meet;exact⟨rfl,by assumption⟩)
    case rest=>
     obtain⟨rfl,hS⟩:=hcut
     have hr:=hS.r
     go_wp2_with (first|(go_at_call 80;(with_reducible refine(bE (by assumption)).mono ?_);rintro e w1 ⟨rfl,hS⟩;have hr:=hS.r)|(go_at_call 58;(with_reducible refine(move _ (by assumption) (by omega) (by omega)).mono ?_);rintro e w1 ⟨rfl,hS⟩;have hr:=hS.r))
     go_ret
     rw [←HQ.out]
     exact⟨rfl,by assumption⟩
theorem Og (h:St w0 c w p s) (ui:at_ c.bs p=45) (h0:Sn (at_ c.bs (p+1))):
  Calls Tryz.prog 123 #[.pointer (some ⟨c.gl,0,none⟩)] w fun e w' =>e= .returned (.bool true)∧St w0 c w' (run Nm c.bs p) s:=by
 have hr:=h.r;have b0:=h.dK;have b1:=h.ei;have b2:=h.dS;have b3:=h.ej
 have BY:=h0.nm
 have l1:=h.more (by omega)
 have l2:=h.ok.lt (p+1) (by omega) l1 (by unfold Sn at h0;omega)
 have l3:p+1+1<c.bs.length:=l2
 have rA:Ri Nm c.bs p (p+1+1) ((c.bs.length:Int) - (p+1+1)).toNat:=((Ri.start (by omega) (by omega)).step (by omega) (by rw [ui];decide)).step (by omega) BY
 clear BY
 have d0:(at_ c.bs p==45)=true:=by simp;omega
 have d1:(at_ c.bs (p+1)==45)=false:=by unfold Sn at h0;simp;omega
 clear ui
 go_enter Tryz.func123,Tryz.ntmps123
 go_upto_region 10 with (first|(go_at_call 80;(with_reducible refine(bE (by assumption)).mono ?_);rintro e w1 ⟨rfl,hS⟩;have hr:=hS.r)|(go_at_call 58;(with_reducible refine(move _ (by assumption) (by omega) (by omega)).mono ?_);rintro e w1 ⟨rfl,hS⟩;have hr:=hS.r)|(go_at_call 97;(with_reducible refine(pos (by assumption)).mono ?_);rintro e w1 ⟨rfl,hS⟩;have hr:=hS.r))
 go_cut [63] (fun TZ wx=>TZ= .bool false∧St w0 c wx (p+1) s)
 case first=>
  rcases Yo h0 with ⟨x0,x1,x2,x3,x4,x5⟩|⟨x0,x1,x2,x3,x4,x5⟩|⟨x0,x1,x2,x3,x4,x5⟩|⟨x0,x1,x2,x3,x4,x5⟩
  all_goals (go_wp2_with fail;go_meet;exact⟨rfl,by assumption⟩)
 case rest=>
  obtain⟨rfl,hS⟩:=hcut
  have hr:=hS.r
  go_wp2_with (first|(go_at_call 80;(with_reducible refine(bE (by assumption)).mono ?_);rintro e w1 ⟨rfl,hS⟩;have hr:=hS.r)|(go_at_call 58;(with_reducible refine(move _ (by assumption) (by omega) (by omega)).mono ?_);rintro e w1 ⟨rfl,hS⟩;have hr:=hS.r))
  go_loopg [] ((c.bs.length:Int) - (p+1+1)).toNat (fun k w' =>∃q:Int,Ri Nm c.bs p q k∧St w0 c w' q s)
  case atStart=>exact⟨_,rA,by assumption⟩
  case round=>
   clear hS hr
   obtain⟨q,hR,hS⟩:=hrel
   have hr:=hS.r;have b0:=hS.dK;have b1:=hS.ei;have b2:=hS.dS;have b3:=hS.ej
   have n92:=hS.Kb q
   go_upto_region 16 with (first|(go_at_call 80;(with_reducible refine(bE (by assumption)).mono ?_);rintro e w1 ⟨rfl,hS⟩;have hr:=hS.r))
   by_cases hn:Nm (at_ c.bs q)
   ·have iV:=hR.step (by omega) hn
    have eh:=hR.lt (by omega)
    have hm:=hS.more (by unfold Nm at hn;omega)
    go_cut [121] (fun De wx=>De= .bool false∧St w0 c wx q s)
    case first=>
     rcases NW hn with ⟨x0,x1,x2,x3,x4,x5,x6,x7,x8⟩|⟨x0,x1,x2,x3,x4,x5,x6,x7,x8⟩|⟨x0,x1,x2,x3,x4,x5,x6,x7,x8⟩|⟨x0,x1,x2,x3,x4,x5,x6,x7,x8⟩|⟨x0,x1,x2,x3,x4,x5,x6,x7,x8⟩|⟨x0,x1,x2,x3,x4,x5,x6,x7,x8⟩
     all_goals (go_wp2_with fail;go_meet;exact⟨rfl,by assumption⟩)
    case rest=>
     obtain⟨rfl,hS⟩:=hcut
     have hr:=hS.r
     go_wp2_with (first|(go_at_call 80;(with_reducible refine(bE (by assumption)).mono ?_);rintro e w1 ⟨rfl,hS⟩;have hr:=hS.r)|(go_at_call 58;(with_reducible refine(move _ (by assumption) (by omega) (by omega)).mono ?_);rintro e w1 ⟨rfl,hS⟩;have hr:=hS.r))
     go_roundg (((c.bs.length:Int) - (q+1)).toNat)
     case measure=>exact eh
     case rel=>exact⟨_,iV,by assumption⟩
   ·have hq:=hR.done hn
    have HQ:=am hq
    clear hq
    go_cut [121] (fun De wx=>De= .bool true∧St w0 c wx q s)
    case first=>
     rcases TF hn with ⟨x0,x1,x2,x3,x4,x5,x6,x7,x8⟩|⟨x0,x1,x2,x3,x4,x5,x6,x7,x8⟩|⟨x0,x1,x2,x3,x4,x5,x6,x7,x8⟩|⟨x0,x1,x2,x3,x4,x5,x6,x7,x8⟩
     all_goals (go_wp2_with fail;go_meet;exact⟨rfl,by assumption⟩)
    case rest=>
     obtain⟨rfl,hS⟩:=hcut
     have hr:=hS.r
     go_wp2_with (first|(go_at_call 80;(with_reducible refine(bE (by assumption)).mono ?_);rintro e w1 ⟨rfl,hS⟩;have hr:=hS.r)|(go_at_call 58;(with_reducible refine(move _ (by assumption) (by omega) (by omega)).mono ?_);rintro e w1 ⟨rfl,hS⟩;have hr:=hS.r))
     go_ret
     rw [←HQ.out]
     exact⟨rfl,by assumption⟩
theorem Oh (h:St w0 c w p s) (h0:¬Sn (at_ c.bs p)) (h1:at_ c.bs p≠45):
  Calls Tryz.prog 123 #[.pointer (some ⟨c.gl,0,none⟩)] w fun e w' =>e= .returned (.bool false)∧St w0 c w' p s:=by
 have hr:=h.r;have b0:=h.dK;have b1:=h.ei;have b2:=h.dS;have b3:=h.ej
 have n92:=h.Kb p
 have d0:(at_ c.bs p==45)=false:=by simpa using h1
 have iO:s+(p - s)=p:=by omega
 have HB:=am iO
 clear iO h1
 go_enter Tryz.func123,Tryz.ntmps123
 go_upto_region 10 with (first|(go_at_call 80;(with_reducible refine(bE (by assumption)).mono ?_);rintro e w1 ⟨rfl,hS⟩;have hr:=hS.r)|(go_at_call 58;(with_reducible refine(move _ (by assumption) (by omega) (by omega)).mono ?_);rintro e w1 ⟨rfl,hS⟩;have hr:=hS.r)|(go_at_call 97;(with_reducible refine(pos (by assumption)).mono ?_);rintro e w1 ⟨rfl,hS⟩;have hr:=hS.r))
 go_cut [63] (fun TZ wx=>TZ= .bool true∧St w0 c wx p s)
 case first=>
  rcases Yp h0 with ⟨x0,x1,x2,x3,x4,x5⟩|⟨x0,x1,x2,x3,x4,x5⟩|⟨x0,x1,x2,x3,x4,x5⟩
  all_goals (go_wp2_with fail;go_meet;exact⟨rfl,by assumption⟩)
 case rest=>
  obtain⟨rfl,hS⟩:=hcut
  have hr:=hS.r
  go_wp2_with (first|(go_at_call 80;(with_reducible refine(bE (by assumption)).mono ?_);rintro e w1 ⟨rfl,hS⟩;have hr:=hS.r)|(go_at_call 58;(with_reducible refine(move _ (by assumption) (by omega) (by omega)).mono ?_);rintro e w1 ⟨rfl,hS⟩;have hr:=hS.r)|(go_at_call 119;(with_reducible refine(rewind _ (by assumption) (by omega) (by omega)).mono ?_);rintro e w1 ⟨rfl,hS⟩;have hr:=hS.r))
  go_ret
  rw [HB.out] at*
  exact⟨rfl,by assumption⟩
theorem Ke (h:St w0 c w p s) (ui:at_ c.bs p=45) (h0:¬Sn (at_ c.bs (p+1))) (h1:at_ c.bs (p+1)≠45):
  Calls Tryz.prog 123 #[.pointer (some ⟨c.gl,0,none⟩)] w fun e w' =>e= .returned (.bool false)∧St w0 c w' p s:=by
 have hr:=h.r;have b0:=h.dK;have b1:=h.ei;have b2:=h.dS;have b3:=h.ej
 have l1:=h.more (by omega)
 have n92:=h.Kb (p+1)
 have d0:(at_ c.bs p==45)=true:=by simp;omega
 have d1:(at_ c.bs (p+1)==45)=false:=by simpa using h1
 have iO:s+(p - s)=p:=by omega
 have HB:=am iO
 clear iO h1 ui
 go_enter Tryz.func123,Tryz.ntmps123
 go_upto_region 10 with (first|(go_at_call 80;(with_reducible refine(bE (by assumption)).mono ?_);rintro e w1 ⟨rfl,hS⟩;have hr:=hS.r)|(go_at_call 58;(with_reducible refine(move _ (by assumption) (by omega) (by omega)).mono ?_);rintro e w1 ⟨rfl,hS⟩;have hr:=hS.r)|(go_at_call 97;(with_reducible refine(pos (by assumption)).mono ?_);rintro e w1 ⟨rfl,hS⟩;have hr:=hS.r))
 go_cut [63] (fun TZ wx=>TZ= .bool true∧St w0 c wx (p+1) s)
 case first=>
  rcases Yp h0 with ⟨x0,x1,x2,x3,x4,x5⟩|⟨x0,x1,x2,x3,x4,x5⟩|⟨x0,x1,x2,x3,x4,x5⟩
  all_goals (go_wp2_with fail;go_meet;exact⟨rfl,by assumption⟩)
 case rest=>
  obtain⟨rfl,hS⟩:=hcut
  have hr:=hS.r
  go_wp2_with (first|(go_at_call 80;(with_reducible refine(bE (by assumption)).mono ?_);rintro e w1 ⟨rfl,hS⟩;have hr:=hS.r)|(go_at_call 58;(with_reducible refine(move _ (by assumption) (by omega) (by omega)).mono ?_);rintro e w1 ⟨rfl,hS⟩;have hr:=hS.r)|(go_at_call 119;(with_reducible refine(rewind _ (by assumption) (by omega) (by omega)).mono ?_);rintro e w1 ⟨rfl,hS⟩;have hr:=hS.r))
  go_ret
  rw [HB.out] at*
  exact⟨rfl,by assumption⟩
theorem hash (h:St w0 c w p s) (ui:at_ c.bs p=35) (h0:Nm (at_ c.bs (p+1))):
  Calls Tryz.prog 84 #[.pointer (some ⟨c.gl,0,none⟩)] w fun e w' =>e= .returned (.bool true)∧St w0 c w' (run Nm c.bs (p+1)) s:=by
 have hr:=h.r;have b0:=h.dK;have b1:=h.ei;have b2:=h.dS;have b3:=h.ej
 have l1:=h.more (by omega)
 have l2:=h.ok.lt (p+1) (by omega) l1 (by unfold Nm at h0;omega)
 have l3:p+1+1<c.bs.length:=l2
 have rA:Ri Nm c.bs (p+1) (p+1+1) ((c.bs.length:Int) - (p+1+1)).toNat:=(Ri.start (by omega) (by omega)).step (by omega) h0
 clear ui
 go_enter Tryz.func84,Tryz.ntmps84
 go_upto_region 4 with (first|(go_at_call 80;(with_reducible refine(bE (by assumption)).mono ?_);rintro e w1 ⟨rfl,hS⟩;have hr:=hS.r)|(go_at_call 58;(with_reducible refine(move _ (by assumption) (by omega) (by omega)).mono ?_);rintro e w1 ⟨rfl,hS⟩;have hr:=hS.r)|(go_at_call 97;(with_reducible refine(pos (by assumption)).mono ?_);rintro e w1 ⟨rfl,hS⟩;have hr:=hS.r))
 go_cut [55] (fun s55 wx=>s55= .bool false∧St w0 c wx (p+1) s)
 case first=>
  rcases NW h0 with ⟨x0,x1,x2,x3,x4,x5,x6,x7,x8⟩|⟨x0,x1,x2,x3,x4,x5,x6,x7,x8⟩|⟨x0,x1,x2,x3,x4,x5,x6,x7,x8⟩|⟨x0,x1,x2,x3,x4,x5,x6,x7,x8⟩|⟨x0,x1,x2,x3,x4,x5,x6,x7,x8⟩|⟨x0,x1,x2,x3,x4,x5,x6,x7,x8⟩
  all_goals (go_wp2_with fail;go_meet;exact⟨rfl,by assumption⟩)
 case rest=>
  obtain⟨rfl,hS⟩:=hcut
  have hr:=hS.r
  go_wp2_with (first|(go_at_call 80;(with_reducible refine(bE (by assumption)).mono ?_);rintro e w1 ⟨rfl,hS⟩;have hr:=hS.r)|(go_at_call 58;(with_reducible refine(move _ (by assumption) (by omega) (by omega)).mono ?_);rintro e w1 ⟨rfl,hS⟩;have hr:=hS.r))
  go_loopg [] ((c.bs.length:Int) - (p+1+1)).toNat (fun k w' =>∃q:Int,Ri Nm c.bs (p+1) q k∧St w0 c w' q s)
  case atStart=>exact⟨_,rA,by assumption⟩
  case round=>
   clear hS hr
   obtain⟨q,hR,hS⟩:=hrel
   have hr:=hS.r;have b0:=hS.dK;have b1:=hS.ei;have b2:=hS.dS;have b3:=hS.ej
   have n92:=hS.Kb q
   go_upto_region 10 with (first|(go_at_call 80;(with_reducible refine(bE (by assumption)).mono ?_);rintro e w1 ⟨rfl,hS⟩;have hr:=hS.r))
   by_cases hn:Nm (at_ c.bs q)
   ·have iV:=hR.step (by omega) hn
    have eh:=hR.lt (by omega)
    have hm:=hS.more (by unfold Nm at hn;omega)
    go_cut [113] (fun T0 wx=>T0= .bool false∧St w0 c wx q s)
    case first=>
     rcases NW hn with ⟨x0,x1,x2,x3,x4,x5,x6,x7,x8⟩|⟨x0,x1,x2,x3,x4,x5,x6,x7,x8⟩|⟨x0,x1,x2,x3,x4,x5,x6,x7,x8⟩|⟨x0,x1,x2,x3,x4,x5,x6,x7,x8⟩|⟨x0,x1,x2,x3,x4,x5,x6,x7,x8⟩|⟨x0,x1,x2,x3,x4,x5,x6,x7,x8⟩
     all_goals (go_wp2_with fail;go_meet;exact⟨rfl,by assumption⟩)
    case rest=>
     obtain⟨rfl,hS⟩:=hcut
     have hr:=hS.r
     go_wp2_with (first|(go_at_call 80;(with_reducible refine(bE (by assumption)).mono ?_);rintro e w1 ⟨rfl,hS⟩;have hr:=hS.r)|(go_at_call 58;(with_reducible refine(move _ (by assumption) (by omega) (by omega)).mono ?_);rintro e w1 ⟨rfl,hS⟩;have hr:=hS.r))
     go_roundg (((c.bs.length:Int) - (q+1)).toNat)
     case measure=>exact eh
     case rel=>exact⟨_,iV,by assumption⟩
   ·have hq:=hR.done hn
    have HQ:=am hq
    clear hq
    go_cut [113] (fun T0 wx=>T0= .bool true∧St w0 c wx q s)
    case first=>
     rcases TF hn with ⟨x0,x1,x2,x3,x4,x5,x6,x7,x8⟩|⟨x0,x1,x2,x3,x4,x5,x6,x7,x8⟩|⟨x0,x1,x2,x3,x4,x5,x6,x7,x8⟩|⟨x0,x1,x2,x3,x4,x5,x6,x7,x8⟩
     all_goals (go_wp2_with fail;go_meet;exact⟨rfl,by assumption⟩)
    case rest=>
     obtain⟨rfl,hS⟩:=hcut
     have hr:=hS.r
     go_wp2_with (first|(go_at_call 80;(with_reducible refine(bE (by assumption)).mono ?_);rintro e w1 ⟨rfl,hS⟩;have hr:=hS.r)|(go_at_call 58;(with_reducible refine(move _ (by assumption) (by omega) (by omega)).mono ?_);rintro e w1 ⟨rfl,hS⟩;have hr:=hS.r))
     go_ret
     rw [←HQ.out]
     exact⟨rfl,by assumption⟩
theorem tm (h:St w0 c w p s) {q:Int} (hq:pD c.bs p q):
  Calls Tryz.prog 121 #[.pointer (some ⟨c.gl,0,none⟩)] w fun e w' =>e= .returned (.bool true)∧St w0 c w' q s:=by
 obtain⟨q0,q1,q2,b,fd,GX,JS,AA,hex⟩:=hq
 have hr:=h.r;have b0:=h.dK;have b1:=h.ei;have b2:=h.dS;have b3:=h.ej
 have c0:s≤q0∧q0<c.bs.length:=by
  rcases GX with ⟨_,h1,rfl⟩|⟨_,h1,rfl⟩|⟨_,_,_,rfl⟩
  ·have:=h.more (by omega);omega
  ·have:=h.more (by omega);omega
  ·omega
 obtain⟨c00,c01⟩:=c0
 have c1:q0≤q1∧q1<c.bs.length:=by
  rcases JS with ⟨_,h1,rfl⟩|⟨_,h1,rfl⟩
  ·exact⟨bL,h.ok.tj (by decide) (by omega) (by omega)⟩
  ·omega
 obtain⟨eZ,kJ⟩:=c1
 have rA:Dg (at_ c.bs q0)→q0+1<c.bs.length∧Ri Dg c.bs q0 (q0+1) ((c.bs.length:Int) - (q0+1)).toNat:=fun hd=>by
  have:=h.ok.lt q0 (by omega) (by omega) (by unfold Dg at hd;omega)
  exact⟨this,(Ri.start (by omega) (by omega)).step (by omega) hd⟩
 have c2:at_ c.bs q1=46→q1+1<c.bs.length:=fun h1=>h.ok.lt q1 (by omega) (by omega) (by omega)
 have iV:at_ c.bs q1=46→Dg (at_ c.bs (q1+1))→q1+1+1<c.bs.length∧Ri Dg c.bs (q1+1) (q1+1+1) ((c.bs.length:Int) - (q1+1+1)).toNat:=fun h1 hd=>by
  have c2':=c2 h1
  have:=h.ok.lt (q1+1) (by omega) (by omega) (by unfold Dg at hd;omega)
  exact⟨this,(Ri.start (by omega) (by omega)).step (by omega) hd⟩
 have c3:q1≤q2∧q2<c.bs.length:=by
  rcases AA with ⟨h1,hd,rfl⟩|⟨_,_,_,rfl⟩|⟨_,_,rfl⟩
  ·have:=c2 h1
   exact⟨by have:=bL (f:=Dg) (bs:=c.bs) (p:=q1+1);omega,h.ok.tj (by decide) (by omega) (by omega)⟩
  ·omega
  ·omega
 obtain⟨Mz,uh⟩:=c3
 have HX:=am hex
 have YJ:=am GX
 have HFD:=am JS
 have HDT:=am AA
 have C2:=am c2
 have lM:=am rA
 have qu:=am iV
 clear hex GX JS AA c2 rA iV
 go_enter Tryz.func121,Tryz.ntmps121
 go_upto_region 3 with (first|(go_at_call 80;(with_reducible refine(bE (by assumption)).mono ?_);rintro e w1 ⟨rfl,hS⟩;have hr:=hS.r)|(go_at_call 97;(with_reducible refine(pos (by assumption)).mono ?_);rintro e w1 ⟨rfl,hS⟩;have hr:=hS.r))
 go_cut [21] (fun s21 wx=>s21= .bool b∧St w0 c wx p s)
 case first=>
  rcases YJ.out with ⟨rfl,h1,_⟩|⟨rfl,h1,_⟩|⟨rfl,h1,h2,_⟩
  all_goals (go_wp2_with fail;go_meet;exact⟨rfl,by assumption⟩)
 case rest=>
 clear hS hr
 obtain⟨rfl,hS⟩:=hcut
 have hr:=hS.r
 go_upto_if 21 with (fail)
 go_cut [] (fun wx=>St w0 c wx q0 s)
 case first=>
  rcases YJ.out with ⟨rfl,-,h3⟩|⟨rfl,-,h3⟩|⟨rfl,-,-,h3⟩
  all_goals
   have H3:=am h3
   clear h3
   try have eW:p+1<c.bs.length:=by have:=H3.out;omega
   go_wp2_with (first|(go_at_call 58;(with_reducible refine(move _ (by assumption) (by omega) (by omega)).mono ?_);rintro e w1 ⟨rfl,hS⟩;have hr:=hS.r))
   go_meet
   rw [H3.out]
   assumption
 case rest=>
 clear hS hr
 have hS:=hcut
 clear hcut
 have hr:=hS.r
 go_upto_region 5 with (fail)
 go_cut [5] (fun s5 wx=>s5= .bool fd∧St w0 c wx (if fd=true then q0+1 else q0) s)
 case first=>
  rcases HFD.out with ⟨rfl,hd,_⟩|⟨rfl,hd,_⟩
  ·have eW:=(lM.out hd).1
   go_wp2_with (first|(go_at_call 145;(with_reducible refine(nW (by assumption) (by assumption)).mono ?_);rintro e w1 ⟨rfl,hS⟩;have hr:=hS.r))
   go_meet
   exact⟨rfl,by assumption⟩
  ·go_wp2_with (first|(go_at_call 145;(with_reducible refine(jR (by assumption) (by assumption)).mono ?_);rintro e w1 ⟨rfl,hS⟩;have hr:=hS.r))
   go_meet
   exact⟨rfl,by assumption⟩
 case rest=>
 clear hS hr
 obtain⟨rfl,hS⟩:=hcut
 have hr:=hS.r
 go_upto_if 29 with (fail)
 go_cut [] (fun wx=>St w0 c wx q1 s)
 case first=>
  rcases HFD.out with ⟨rfl,hd,h1⟩|⟨rfl,hd,h1⟩
  ·have H1:=am h1
   clear h1
   have hS:St w0 c _ (q0+1) s:=hS
   have rA:=(lM.out hd).2
   go_wp2_with (fail)
   go_loopg [] ((c.bs.length:Int) - (q0+1)).toNat (fun k w' =>∃q:Int,Ri Dg c.bs q0 q k∧St w0 c w' q s)
   case atStart=>exact⟨_,rA,by assumption⟩
   case round=>
    obtain⟨q,hR,hS⟩:=hrel
    have hr:=hS.r;have b0:=hS.dK;have b1:=hS.ei;have b2:=hS.dS;have b3:=hS.ej
    by_cases hn:Dg (at_ c.bs q)
    ·have hm:=hS.more (by unfold Dg at hn;omega)
     have iV:=hR.step (by omega) hn
     have eh:=hR.lt (by omega)
     go_wp2_with (first|(go_at_call 145;(with_reducible refine(nW (by assumption) (by assumption)).mono ?_);rintro e w1 ⟨rfl,hS⟩;have hr:=hS.r))
     go_roundg (((c.bs.length:Int) - (q+1)).toNat)
     case measure=>exact eh
     case rel=>exact⟨_,iV,by assumption⟩
    ·have HQ:=am (hR.done hn)
     go_wp2_with (first|(go_at_call 145;(with_reducible refine(jR (by assumption) (by assumption)).mono ?_);rintro e w1 ⟨rfl,hS⟩;have hr:=hS.r))
     go_meet
     rw [H1.out,←HQ.out]
     assumption
  ·have H1:=am h1
   clear h1
   have hS:St w0 c _ q0 s:=hS
   go_wp2_with (fail)
   go_meet
   rw [H1.out]
   assumption
 case rest=>
 clear hS hr
 have hS:=hcut
 clear hcut
 have hr:=hS.r
 go_upto_if 37 with (first|(go_at_call 80;(with_reducible refine(bE (by assumption)).mono ?_);rintro e w1 ⟨rfl,hS⟩;have hr:=hS.r))
 go_cut [] (fun wx=>St w0 c wx q2 s)
 case first=>
  rcases HDT.out with ⟨h1,hd,h2⟩|⟨h1,hd,hf,h2⟩|⟨h1,hf,h2⟩
  ·have hb:=C2.out h1
   have rA:=(qu.out h1 hd).2
   have dc:=(qu.out h1 hd).1
   have H1:=am h2
   clear h2
   go_wp2_with (first|(go_at_call 58;(with_reducible refine(move _ (by assumption) (by omega) (by omega)).mono ?_);rintro e w1 ⟨rfl,hS⟩;have hr:=hS.r)|(go_at_call 145;(with_reducible refine(nW (by assumption) (by assumption)).mono ?_);rintro e w1 ⟨rfl,hS⟩;have hr:=hS.r))
   go_loopg [] ((c.bs.length:Int) - (q1+1+1)).toNat (fun k w' =>∃q:Int,Ri Dg c.bs (q1+1) q k∧St w0 c w' q s)
   case atStart=>exact⟨_,rA,by assumption⟩
   case round=>
    obtain⟨q,hR,hS⟩:=hrel
    have hr:=hS.r;have b0:=hS.dK;have b1:=hS.ei;have b2:=hS.dS;have b3:=hS.ej
    by_cases hn:Dg (at_ c.bs q)
    ·have hm:=hS.more (by unfold Dg at hn;omega)
     have iV:=hR.step (by omega) hn
     have eh:=hR.lt (by omega)
     go_wp2_with (first|(go_at_call 145;(with_reducible refine(nW (by assumption) (by assumption)).mono ?_);rintro e w1 ⟨rfl,hS⟩;have hr:=hS.r))
     go_roundg (((c.bs.length:Int) - (q+1)).toNat)
     case measure=>exact eh
     case rel=>exact⟨_,iV,by assumption⟩
    ·have HQ:=am (hR.done hn)
     go_wp2_with (first|(go_at_call 145;(with_reducible refine(jR (by assumption) (by assumption)).mono ?_);rintro e w1 ⟨rfl,hS⟩;have hr:=hS.r))
     go_meet
     rw [H1.out,←HQ.out]
     assumption
  ·have hb:=C2.out h1
   subst hf
   have H1:=am h2
   have hq:q=q1:=by
    rcases HX.out with ⟨_,_,e⟩|⟨e,_⟩
    ·rw [e,h2]
    ·rw [h2] at e;omega
   have HQ:=am hq
   have iO:q1+1+ -1=q1:=by omega
   have HB:=am iO
   clear h2 hq iO
   go_wp2_with (first|(go_at_call 58;(with_reducible refine(move _ (by assumption) (by omega) (by omega)).mono ?_);rintro e w1 ⟨rfl,hS⟩;have hr:=hS.r)|(go_at_call 145;(with_reducible refine(jR (by assumption) (by assumption)).mono ?_);rintro e w1 ⟨rfl,hS⟩;have hr:=hS.r))
   go_ret
   rw [HQ.out]
   rw [HB.out] at*
   exact⟨rfl,by assumption⟩
  ·subst hf
   have H1:=am h2
   clear h2
   go_wp2_with (fail)
   go_meet
   rw [H1.out]
   assumption
 case rest=>
 clear hS hr
 have hS:=hcut
 clear hcut
 have hr:=hS.r
 go_upto_region 22 with (first|(go_at_call 80;(with_reducible refine(bE (by assumption)).mono ?_);rintro e w1 ⟨rfl,hS⟩;have hr:=hS.r)|(go_at_call 97;(with_reducible refine(pos (by assumption)).mono ?_);rintro e w1 ⟨rfl,hS⟩;have hr:=hS.r))
 rcases HX.out with ⟨h1,h2,h3⟩|⟨h1,q3,b2,GX,hd⟩
 ·have H3:=am h3
  clear h3
  go_wp2_with (fail)
  go_ret
  rw [H3.out]
  exact⟨rfl,by assumption⟩
 have d1:q2+1<c.bs.length:=h.ok.lt q2 (by omega) (by omega) (by omega)
 have c4:q2+1≤q3∧q3<c.bs.length:=by
  rcases GX with ⟨_,h1,rfl⟩|⟨_,h1,rfl⟩|⟨_,_,_,rfl⟩
  ·have:=h.ok.lt (q2+1) (by omega) (by omega) (by omega);omega
  ·have:=h.ok.lt (q2+1) (by omega) (by omega) (by omega);omega
  ·omega
 obtain⟨NV,Fb⟩:=c4
 have YK:=am GX
 have HD:=am hd
 have H1:=am h1
 clear GX hd h1
 go_cut [82] (fun s82 wx=>s82= .bool true∧St w0 c wx q2 s)
 case first=>
  rcases H1.out with h1|h1
  all_goals (go_wp2_with fail;go_meet;exact⟨rfl,by assumption⟩)
 case rest=>
 clear hS hr
 obtain⟨rfl,hS⟩:=hcut
 have hr:=hS.r
 go_upto_region 25 with (first|(go_at_call 80;(with_reducible refine(bE (by assumption)).mono ?_);rintro e w1 ⟨rfl,hS⟩;have hr:=hS.r)|(go_at_call 58;(with_reducible refine(move _ (by assumption) (by omega) (by omega)).mono ?_);rintro e w1 ⟨rfl,hS⟩;have hr:=hS.r))
 go_cut [98] (fun s98 wx=>s98= .bool b2∧St w0 c wx (q2+1) s)
 case first=>
  rcases YK.out with ⟨rfl,h1,-⟩|⟨rfl,h1,-⟩|⟨rfl,h1,h2,-⟩
  all_goals (go_wp2_with fail;go_meet;exact⟨rfl,by assumption⟩)
 case rest=>
 clear hS hr
 obtain⟨rfl,hS⟩:=hcut
 have hr:=hS.r
 go_upto_if 98 with (fail)
 go_cut [] (fun wx=>St w0 c wx q3 s)
 case first=>
  rcases YK.out with ⟨rfl,-,h3⟩|⟨rfl,-,h3⟩|⟨rfl,-,-,h3⟩
  all_goals
   have H3:=am h3
   clear h3
   try have eW:q2+1+1<c.bs.length:=by have:=H3.out;omega
   go_wp2_with (first|(go_at_call 58;(with_reducible refine(move _ (by assumption) (by omega) (by omega)).mono ?_);rintro e w1 ⟨rfl,hS⟩;have hr:=hS.r))
   go_meet
   rw [H3.out]
   assumption
 case rest=>
 clear hS hr
 have hS:=hcut
 clear hcut
 have hr:=hS.r
 rcases HD.out with ⟨hd,h3⟩|⟨hd,h3⟩
 ·have hb:=h.ok.lt q3 (by omega) (by omega) (by unfold Dg at hd;omega)
  have rA:Ri Dg c.bs q3 (q3+1) ((c.bs.length:Int) - (q3+1)).toNat:=(Ri.start (by omega) (by omega)).step (by omega) hd
  have H3:=am h3
  clear h3
  go_wp2_with (first|(go_at_call 145;(with_reducible refine(nW (by assumption) (by assumption)).mono ?_);rintro e w1 ⟨rfl,hS⟩;have hr:=hS.r))
  go_loopg [] ((c.bs.length:Int) - (q3+1)).toNat (fun k w' =>∃q:Int,Ri Dg c.bs q3 q k∧St w0 c w' q s)
  case atStart=>exact⟨_,rA,by assumption⟩
  case round=>
   obtain⟨q,hR,hS⟩:=hrel
   have hr:=hS.r;have b0:=hS.dK;have b1:=hS.ei;have b2:=hS.dS;have b3:=hS.ej
   by_cases hn:Dg (at_ c.bs q)
   ·have hm:=hS.more (by unfold Dg at hn;omega)
    have iV:=hR.step (by omega) hn
    have eh:=hR.lt (by omega)
    go_wp2_with (first|(go_at_call 145;(with_reducible refine(nW (by assumption) (by assumption)).mono ?_);rintro e w1 ⟨rfl,hS⟩;have hr:=hS.r))
    go_roundg (((c.bs.length:Int) - (q+1)).toNat)
    case measure=>exact eh
    case rel=>exact⟨_,iV,by assumption⟩
   ·have HQ:=am (hR.done hn)
    go_wp2_with (first|(go_at_call 145;(with_reducible refine(jR (by assumption) (by assumption)).mono ?_);rintro e w1 ⟨rfl,hS⟩;have hr:=hS.r))
    go_ret
    rw [H3.out,←HQ.out]
    exact⟨rfl,by assumption⟩
 ·have H3:=am h3
  have iO:s+(q2 - s)=q2:=by omega
  have HB:=am iO
  clear h3 iO
  go_wp2_with (first|(go_at_call 145;(with_reducible refine(jR (by assumption) (by assumption)).mono ?_);rintro e w1 ⟨rfl,hS⟩;have hr:=hS.r)|(go_at_call 119;(with_reducible refine(rewind _ (by assumption) (by omega) (by omega)).mono ?_);rintro e w1 ⟨rfl,hS⟩;have hr:=hS.r))
  go_ret
  rw [H3.out]
  rw [HB.out] at*
  exact⟨rfl,by assumption⟩
theorem Kf (h:St w0 c w p s) (hq:mm c.bs p):
  Calls Tryz.prog 121 #[.pointer (some ⟨c.gl,0,none⟩)] w fun e w' =>e= .returned (.bool false)∧St w0 c w' p s:=by
 obtain⟨q0,b,GX,hnd,AA⟩:=hq
 have hr:=h.r;have b0:=h.dK;have b1:=h.ei;have b2:=h.dS;have b3:=h.ej
 have c0:s≤q0∧q0<c.bs.length:=by
  rcases GX with ⟨_,h1,rfl⟩|⟨_,h1,rfl⟩|⟨_,_,_,rfl⟩
  ·have:=h.more (by omega);omega
  ·have:=h.more (by omega);omega
  ·omega
 obtain⟨c00,c01⟩:=c0
 have iO:s+(p - s)=p:=by omega
 have HB:=am iO
 have YJ:=am GX
 have HDT:=am AA
 clear GX AA iO
 go_enter Tryz.func121,Tryz.ntmps121
 go_upto_region 3 with (first|(go_at_call 80;(with_reducible refine(bE (by assumption)).mono ?_);rintro e w1 ⟨rfl,hS⟩;have hr:=hS.r)|(go_at_call 97;(with_reducible refine(pos (by assumption)).mono ?_);rintro e w1 ⟨rfl,hS⟩;have hr:=hS.r))
 go_cut [21] (fun s21 wx=>s21= .bool b∧St w0 c wx p s)
 case first=>
  rcases YJ.out with ⟨rfl,h1,_⟩|⟨rfl,h1,_⟩|⟨rfl,h1,h2,_⟩
  all_goals (go_wp2_with fail;go_meet;exact⟨rfl,by assumption⟩)
 case rest=>
 clear hS hr
 obtain⟨rfl,hS⟩:=hcut
 have hr:=hS.r
 go_upto_if 21 with (fail)
 go_cut [] (fun wx=>St w0 c wx q0 s)
 case first=>
  rcases YJ.out with ⟨rfl,-,h3⟩|⟨rfl,-,h3⟩|⟨rfl,-,-,h3⟩
  all_goals
   have H3:=am h3
   clear h3
   try have eW:p+1<c.bs.length:=by have:=H3.out;omega
   go_wp2_with (first|(go_at_call 58;(with_reducible refine(move _ (by assumption) (by omega) (by omega)).mono ?_);rintro e w1 ⟨rfl,hS⟩;have hr:=hS.r))
   go_meet
   rw [H3.out]
   assumption
 case rest=>
 clear hS hr
 have hS:=hcut
 clear hcut
 have hr:=hS.r
 rcases HDT.out with h1|⟨h1,h2⟩
 ·go_wp2_with (first|(go_at_call 80;(with_reducible refine(bE (by assumption)).mono ?_);rintro e w1 ⟨rfl,hS⟩;have hr:=hS.r)|(go_at_call 145;(with_reducible refine(jR (by assumption) (by assumption)).mono ?_);rintro e w1 ⟨rfl,hS⟩;have hr:=hS.r)|(go_at_call 119;(with_reducible refine(rewind _ (by assumption) (by omega) (by omega)).mono ?_);rintro e w1 ⟨rfl,hS⟩;have hr:=hS.r))
  go_ret
  rw [HB.out] at*
  exact⟨rfl,by assumption⟩
 ·have hb:=h.ok.lt q0 (by omega) (by omega) (by omega)
  go_wp2_with (first|(go_at_call 80;(with_reducible refine(bE (by assumption)).mono ?_);rintro e w1 ⟨rfl,hS⟩;have hr:=hS.r)|(go_at_call 58;(with_reducible refine(move _ (by assumption) (by omega) (by omega)).mono ?_);rintro e w1 ⟨rfl,hS⟩;have hr:=hS.r)|(go_at_call 145;(with_reducible refine(jR (by assumption) (by assumption)).mono ?_);rintro e w1 ⟨rfl,hS⟩;have hr:=hS.r)|(go_at_call 119;(with_reducible refine(rewind _ (by assumption) (by omega) (by omega)).mono ?_);rintro e w1 ⟨rfl,hS⟩;have hr:=hS.r))
  go_ret
  rw [HB.out] at*
  exact⟨rfl,by assumption⟩
theorem pN (h:St w0 c w p s) (h0:lr c.bs p):
  Calls Tryz.prog 123 #[.pointer (some ⟨c.gl,0,none⟩)] w fun e w' =>e= .returned (.bool true)∧St w0 c w' (run Nm c.bs p) s:=by
 rcases h0 with h0|⟨h0,h1⟩
 ·exact Of h h0
 ·exact Og h h0 h1
theorem AB (h:St w0 c w p s) (h0:fu c.bs p):
  Calls Tryz.prog 123 #[.pointer (some ⟨c.gl,0,none⟩)] w fun e w' =>e= .returned (.bool false)∧St w0 c w' p s:=by
 rcases h0 with ⟨h0,h1⟩|⟨h0,h1,h2⟩
 ·exact Oh h h0 h1
 ·exact Ke h h0 h1 h2
theorem T1 (h:St w0 c w p s) (ui:at_ c.bs p=64) (h0:lr c.bs (p+1)):
  Calls Tryz.prog 90 #[.pointer (some ⟨c.gl,0,none⟩)] w fun e w' =>e= .returned (.bool true)∧St w0 c w' (run Nm c.bs (p+1)) s:=by
 have hr:=h.r;have b0:=h.dK;have b1:=h.ei;have b2:=h.dS;have b3:=h.ej
 have l1:=h.more (by omega)
 clear ui
 go_enter Tryz.func90,Tryz.ntmps90
 go_wp2_with (first|(go_at_call 58;(with_reducible refine(move _ (by assumption) (by omega) (by omega)).mono ?_);rintro e w1 ⟨rfl,hS⟩;have hr:=hS.r)|(go_at_call 123;(with_reducible refine(pN (by assumption) (by assumption)).mono ?_);rintro e w1 ⟨rfl,hS⟩;have hr:=hS.r))
 go_ret
 exact⟨rfl,by assumption⟩
theorem kW (h:St w0 c w p s) (h0:mm c.bs p):
  Calls Tryz.prog 86 #[.pointer (some ⟨c.gl,0,none⟩)] w fun e w' =>e= .returned (.int .u32 0)∧St w0 c w' p s:=by
 have hr:=h.r;have b0:=h.dK;have b1:=h.ei;have b2:=h.dS;have b3:=h.ej
 go_enter Tryz.func86,Tryz.ntmps86
 go_wp2_with (first|(go_at_call 121;(with_reducible refine(Kf (by assumption) (by assumption)).mono ?_);rintro e w1 ⟨rfl,hS⟩;have hr:=hS.r))
 go_ret
 exact⟨rfl,by assumption⟩
theorem nX (h:St w0 c w p s) {q:Int} (h0:pD c.bs p q) (h1:(at_ c.bs q==37)=true):
  Calls Tryz.prog 86 #[.pointer (some ⟨c.gl,0,none⟩)] w fun e w' =>e= .returned (.int .u32 11)∧St w0 c w' (q+1) s:=by
 have hr:=h.r;have b0:=h.dK;have b1:=h.ei;have b2:=h.dS;have b3:=h.ej
 go_enter Tryz.func86,Tryz.ntmps86
 go_wp2_with (first|(go_at_call 121;(with_reducible refine(tm (by assumption) (by assumption)).mono ?_);rintro e w1 ⟨rfl,hS⟩;have hr:=hS.r)|(go_at_call 122;(with_reducible refine(Dc (by assumption) 37 (by decide) (by assumption)).mono ?_);rintro e w1 ⟨rfl,hS⟩;have hr:=hS.r))
 go_ret
 exact⟨rfl,by assumption⟩
theorem nY (h:St w0 c w p s) {q:Int} (h0:pD c.bs p q) (h1:(at_ c.bs q==37)=false) (h2:lr c.bs q):
  Calls Tryz.prog 86 #[.pointer (some ⟨c.gl,0,none⟩)] w fun e w' =>e= .returned (.int .u32 12)∧St w0 c w' (run Nm c.bs q) s:=by
 have hr:=h.r;have b0:=h.dK;have b1:=h.ei;have b2:=h.dS;have b3:=h.ej
 go_enter Tryz.func86,Tryz.ntmps86
 go_wp2_with (first|(go_at_call 121;(with_reducible refine(tm (by assumption) (by assumption)).mono ?_);rintro e w1 ⟨rfl,hS⟩;have hr:=hS.r)|(go_at_call 122;(with_reducible refine(Dd (by assumption) 37 (by assumption)).mono ?_);rintro e w1 ⟨rfl,hS⟩;have hr:=hS.r)|(go_at_call 123;(with_reducible refine(pN (by assumption) (by assumption)).mono ?_);rintro e w1 ⟨rfl,hS⟩;have hr:=hS.r))
 go_ret
 exact⟨rfl,by assumption⟩
theorem nZ (h:St w0 c w p s) {q:Int} (h0:pD c.bs p q) (h1:(at_ c.bs q==37)=false) (h2:fu c.bs q):
  Calls Tryz.prog 86 #[.pointer (some ⟨c.gl,0,none⟩)] w fun e w' =>e= .returned (.int .u32 10)∧St w0 c w' q s:=by
 have hr:=h.r;have b0:=h.dK;have b1:=h.ei;have b2:=h.dS;have b3:=h.ej
 go_enter Tryz.func86,Tryz.ntmps86
 go_wp2_with (first|(go_at_call 121;(with_reducible refine(tm (by assumption) (by assumption)).mono ?_);rintro e w1 ⟨rfl,hS⟩;have hr:=hS.r)|(go_at_call 122;(with_reducible refine(Dd (by assumption) 37 (by assumption)).mono ?_);rintro e w1 ⟨rfl,hS⟩;have hr:=hS.r)|(go_at_call 123;(with_reducible refine(AB (by assumption) (by assumption)).mono ?_);rintro e w1 ⟨rfl,hS⟩;have hr:=hS.r))
 go_ret
 exact⟨rfl,by assumption⟩
theorem xH (h:St w0 c w p s) (ui:at_ c.bs p=117∨at_ c.bs p=85) (h0:at_ c.bs (p+1)=43→¬Hx (at_ c.bs (p+2))∧at_ c.bs (p+2)≠63):
  Calls Tryz.prog 94 #[.pointer (some ⟨c.gl,0,none⟩)] w fun e w' =>e= .returned (.bool false)∧St w0 c w' p s:=by
 have hr:=h.r;have b0:=h.dK;have b1:=h.ei;have b2:=h.dS;have b3:=h.ej
 have l1:=h.more (by omega)
 have iO:s+(p - s)=p:=by omega
 have HB:=am iO
 clear iO
 have u1:(at_ c.bs p !=117&&at_ c.bs p !=85)=false:=by rcases ui with h|h<;>simp [h]
 by_cases h1:at_ c.bs (p+1)=43
 ·obtain⟨h2,h3⟩:=h0 h1
  have l2:=h.ok.lt (p+1) (by omega) l1 (by omega)
  have l2' :p+2<c.bs.length:=by omega
  have e3:(at_ c.bs (p+2)==63)=false:=by simpa using h3
  have e1:(at_ c.bs (p+1) !=43)=false:=by simpa using h1
  clear h0 h1 h3
  by_cases h4:(at_ c.bs (p+2)==45)=true
  all_goals
   try replace h4:(at_ c.bs (p+2)==45)=false:=by simpa using h4
   rcases ui with ui|ui
   all_goals
    go_enter Tryz.func94,Tryz.ntmps94
    go_wp2_with (first|(go_at_call 80;(with_reducible refine(bE (by assumption)).mono ?_);rintro e w1 ⟨rfl,hS⟩;have hr:=hS.r)|(go_at_call 80;(with_reducible refine(Db _ (by assumption) (by omega) (by omega)).mono ?_);rintro e w1 ⟨rfl,hS⟩;have hr:=hS.r)|(go_at_call 97;(with_reducible refine(pos (by assumption)).mono ?_);rintro e w1 ⟨rfl,hS⟩;have hr:=hS.r)|(go_at_call 58;(with_reducible refine(move _ (by assumption) (by omega) (by omega)).mono ?_);rintro e w1 ⟨rfl,hS⟩;have hr:=hS.r))
    go_loopg [5] 0 (fun k v w' =>v= .int .i64 0∧St w0 c w' (p+2) s)
    case atStart=>exact⟨rfl,by assumption⟩
    case round=>
     obtain⟨rfl,hS⟩:=hrel
     have hr:=hS.r
     go_wp2_with (first|(go_at_call 128;(with_reducible refine(YI (by assumption) (by assumption)).mono ?_);rintro e w1 ⟨rfl,hS⟩;have hr:=hS.r)|(go_at_call 122;(with_reducible refine(Dc (by assumption) 45 (by decide) (by assumption)).mono ?_);rintro e w1 ⟨rfl,hS⟩;have hr:=hS.r)|(go_at_call 122;(with_reducible refine(Dd (by assumption) _ (by assumption)).mono ?_);rintro e w1 ⟨rfl,hS⟩;have hr:=hS.r)|(go_at_call 119;(with_reducible refine(rewind _ (by assumption) (by omega) (by omega)).mono ?_);rintro e w1 ⟨rfl,hS⟩;have hr:=hS.r))
     go_ret
     rw [HB.out] at*
     exact⟨rfl,by assumption⟩
 ·have e1:(at_ c.bs (p+1) !=43)=true:=by simpa using h1
  clear h0 h1
  rcases ui with ui|ui
  all_goals
   go_enter Tryz.func94,Tryz.ntmps94
   go_wp2_with (first|(go_at_call 80;(with_reducible refine(bE (by assumption)).mono ?_);rintro e w1 ⟨rfl,hS⟩;have hr:=hS.r)|(go_at_call 80;(with_reducible refine(Db _ (by assumption) (by omega) (by omega)).mono ?_);rintro e w1 ⟨rfl,hS⟩;have hr:=hS.r)|(go_at_call 97;(with_reducible refine(pos (by assumption)).mono ?_);rintro e w1 ⟨rfl,hS⟩;have hr:=hS.r)|(go_at_call 58;(with_reducible refine(move _ (by assumption) (by omega) (by omega)).mono ?_);rintro e w1 ⟨rfl,hS⟩;have hr:=hS.r))
   go_ret
   exact⟨rfl,by assumption⟩
theorem Kg (h:St w0 c w p s) {r:Int} (h0:at_ c.bs p=34∨at_ c.bs p=39) (h1:p+1≤r) (h2:r+1<c.bs.length) (ha:∀i,p+1≤i→i<r→Sc (at_ c.bs p) (at_ c.bs i)) (h3:at_ c.bs r=at_ c.bs p):
  Calls Tryz.prog 85 #[.pointer (some ⟨c.gl,0,none⟩)] w fun e w' =>e= .returned (.int .u32 5)∧St w0 c w' (r+1) s:=by
 have hr:=h.r;have b0:=h.dK;have b1:=h.ei;have b2:=h.dS;have b3:=h.ej
 have l1:=h.more (by omega)
 have rA:Ri (Sc (at_ c.bs p)) c.bs (p+1) (p+1) ((c.bs.length:Int) - (p+1)).toNat:=Ri.start (by omega) (by omega)
 have hz:at_ c.bs r≠0:=by omega
 have H3:=am h3
 have HA:=am ha
 have H0:=am h0
 clear h3 ha h0
 go_enter Tryz.func85,Tryz.ntmps85
 go_wp2_with (first|(go_at_call 80;(with_reducible refine(bE (by assumption)).mono ?_);rintro e w1 ⟨rfl,hS⟩;have hr:=hS.r)|(go_at_call 58;(with_reducible refine(move _ (by assumption) (by omega) (by omega)).mono ?_);rintro e w1 ⟨rfl,hS⟩;have hr:=hS.r))
 go_loopg [] ((c.bs.length:Int) - (p+1)).toNat (fun k w' =>∃q:Int,q≤r∧Ri (Sc (at_ c.bs p)) c.bs (p+1) q k∧St w0 c w' q s)
 case atStart=>exact⟨_,h1,rA,by assumption⟩
 case round=>
  clear hS hr
  obtain⟨q,hqr,hR,hS⟩:=hrel
  have hr:=hS.r;have b0:=hS.dK;have b1:=hS.ei;have b2:=hS.dS;have b3:=hS.ej
  by_cases hn:q<r
  ·have hs:=HA.out q hR.h1 hn
   have iV:=hR.step (by omega) hs
   have eh:=hR.lt (by omega)
   obtain⟨x1,x2,x3,x4,x5,x6⟩:=hs
   go_wp2_with (first|(go_at_call 80;(with_reducible refine(bE (by assumption)).mono ?_);rintro e w1 ⟨rfl,hS⟩;have hr:=hS.r)|(go_at_call 58;(with_reducible refine(move _ (by assumption) (by omega) (by omega)).mono ?_);rintro e w1 ⟨rfl,hS⟩;have hr:=hS.r))
   go_roundg (((c.bs.length:Int) - (q+1)).toNat)
   case measure=>exact eh
   case rel=>exact⟨_,by omega,iV,by assumption⟩
  ·have hq:q=r:=by omega
   subst hq
   have x5:(at_ c.bs q==at_ c.bs p)=true:=by simpa using H3.out
   have x1:(at_ c.bs q==0)=false:=by simpa using hz
   have x2:(at_ c.bs q==10)=false∧(at_ c.bs q==13)=false∧(at_ c.bs q==12)=false:=by have:=H3.out;have:=H0.out;simp;omega
   obtain⟨x2,x3,x4⟩:=x2
   go_wp2_with (first|(go_at_call 80;(with_reducible refine(bE (by assumption)).mono ?_);rintro e w1 ⟨rfl,hS⟩;have hr:=hS.r)|(go_at_call 58;(with_reducible refine(move _ (by assumption) (by omega) (by omega)).mono ?_);rintro e w1 ⟨rfl,hS⟩;have hr:=hS.r))
   go_ret
   exact⟨rfl,by assumption⟩
theorem YL (h:St w0 c w p s) (h0:at_ c.bs (run Uc c.bs p)=41):
  Calls Tryz.prog 127 #[.pointer (some ⟨c.gl,0,none⟩)] w fun e w' =>e= .returned (.bool true)∧St w0 c w' (run Uc c.bs p) s:=by
 have hr:=h.r;have b0:=h.dK;have b1:=h.ei;have b2:=h.dS;have b3:=h.ej
 have rA:Ri Uc c.bs p p ((c.bs.length:Int) - p).toNat:=Ri.start (by omega) (by omega)
 have H0:=am h0
 clear h0
 go_enter Tryz.func127,Tryz.ntmps127
 go_wp2_with (first|(go_at_call 80;(with_reducible refine(bE (by assumption)).mono ?_);rintro e w1 ⟨rfl,hS⟩;have hr:=hS.r)|(go_at_call 58;(with_reducible refine(move _ (by assumption) (by omega) (by omega)).mono ?_);rintro e w1 ⟨rfl,hS⟩;have hr:=hS.r))
 go_loopg [] ((c.bs.length:Int) - p).toNat (fun k w' =>∃q:Int,Ri Uc c.bs p q k∧St w0 c w' q s)
 case atStart=>exact⟨_,rA,h⟩
 case round=>
  obtain⟨q,hR,hS⟩:=hrel
  have hr:=hS.r;have b0:=hS.dK;have b1:=hS.ei;have b2:=hS.dS;have b3:=hS.ej
  by_cases hn:Uc (at_ c.bs q)
  ·have hm:=hS.more (by unfold Uc at hn;omega)
   have iV:=hR.step (by omega) hn
   have eh:=hR.lt (by omega)
   obtain⟨x1,x2,x3,x4,x5,x6,x7,x8⟩:=hn
   have x0:(at_ c.bs q==0)=false:=by simp;omega
   have x7' :¬at_ c.bs q≤31:=by omega
   go_wp2_with (first|(go_at_call 80;(with_reducible refine(bE (by assumption)).mono ?_);rintro e w1 ⟨rfl,hS⟩;have hr:=hS.r)|(go_at_call 58;(with_reducible refine(move _ (by assumption) (by omega) (by omega)).mono ?_);rintro e w1 ⟨rfl,hS⟩;have hr:=hS.r))
   go_roundg (((c.bs.length:Int) - (q+1)).toNat)
   case measure=>exact eh
   case rel=>exact⟨_,iV,by assumption⟩
  ·have hq:=hR.done hn
   have HQ:=am hq
   have h1:(at_ c.bs q==41)=true:=by rw [hq];simpa using H0.out
   have h2:(at_ c.bs q==0)=false:=by have:at_ c.bs q=41:=(by simpa using h1);rw [this];rfl
   clear hq
   go_wp2_with (first|(go_at_call 80;(with_reducible refine(bE (by assumption)).mono ?_);rintro e w1 ⟨rfl,hS⟩;have hr:=hS.r)|(go_at_call 58;(with_reducible refine(move _ (by assumption) (by omega) (by omega)).mono ?_);rintro e w1 ⟨rfl,hS⟩;have hr:=hS.r))
   go_ret
   rw [←HQ.out]
   exact⟨rfl,by assumption⟩
theorem YM (h:St w0 c w p s) (h0:Ws (at_ c.bs (run Uc c.bs p))):
  Calls Tryz.prog 127 #[.pointer (some ⟨c.gl,0,none⟩)] w fun e w' =>e= .returned (.bool false)∧St w0 c w' (run Uc c.bs p) s:=by
 have hr:=h.r;have b0:=h.dK;have b1:=h.ei;have b2:=h.dS;have b3:=h.ej
 have rA:Ri Uc c.bs p p ((c.bs.length:Int) - p).toNat:=Ri.start (by omega) (by omega)
 have H0:=am h0
 clear h0
 go_enter Tryz.func127,Tryz.ntmps127
 go_wp2_with (first|(go_at_call 80;(with_reducible refine(bE (by assumption)).mono ?_);rintro e w1 ⟨rfl,hS⟩;have hr:=hS.r)|(go_at_call 58;(with_reducible refine(move _ (by assumption) (by omega) (by omega)).mono ?_);rintro e w1 ⟨rfl,hS⟩;have hr:=hS.r))
 go_loopg [] ((c.bs.length:Int) - p).toNat (fun k w' =>∃q:Int,Ri Uc c.bs p q k∧St w0 c w' q s)
 case atStart=>exact⟨_,rA,h⟩
 case round=>
  obtain⟨q,hR,hS⟩:=hrel
  have hr:=hS.r;have b0:=hS.dK;have b1:=hS.ei;have b2:=hS.dS;have b3:=hS.ej
  by_cases hn:Uc (at_ c.bs q)
  ·have hm:=hS.more (by unfold Uc at hn;omega)
   have iV:=hR.step (by omega) hn
   have eh:=hR.lt (by omega)
   obtain⟨x1,x2,x3,x4,x5,x6,x7,x8⟩:=hn
   have x0:(at_ c.bs q==0)=false:=by simp;omega
   have x7' :¬at_ c.bs q≤31:=by omega
   go_wp2_with (first|(go_at_call 80;(with_reducible refine(bE (by assumption)).mono ?_);rintro e w1 ⟨rfl,hS⟩;have hr:=hS.r)|(go_at_call 58;(with_reducible refine(move _ (by assumption) (by omega) (by omega)).mono ?_);rintro e w1 ⟨rfl,hS⟩;have hr:=hS.r))
   go_roundg (((c.bs.length:Int) - (q+1)).toNat)
   case measure=>exact eh
   case rel=>exact⟨_,iV,by assumption⟩
  ·have hq:=hR.done hn
   have HQ:=am hq
   have h1:Ws (at_ c.bs q):=by rw [hq];exact H0.out
   clear hq hn
   unfold Ws at h1
   rcases h1 with h1|h1|h1|h1|h1
   all_goals
    go_wp2_with (first|(go_at_call 80;(with_reducible refine(bE (by assumption)).mono ?_);rintro e w1 ⟨rfl,hS⟩;have hr:=hS.r)|(go_at_call 58;(with_reducible refine(move _ (by assumption) (by omega) (by omega)).mono ?_);rintro e w1 ⟨rfl,hS⟩;have hr:=hS.r))
    go_ret
    rw [←HQ.out]
    exact⟨rfl,by assumption⟩
theorem cF:(Tryz.prog.info? 5).map (fun i=>(i.zero,i.size,i.bytes))=some (some (.int .u8 0),1,1):=by kernel_rfl
theorem zz (g o n cp og:Nat) (xs:List Int) (w:World) (hl:xs.length=n) (hn:n≤cp) (hcp:cp≤1099511627776)
  (hc:∀j:Nat,j<n→w.cell? ⟨g,o+j,none⟩=some (.int .u8 (xs.getD j 0))) (ho:w.cell? ⟨og,0,none⟩=some (.int .u8 92))
  (hx:∀j:Nat,j<n→0≤xs.getD j 0∧xs.getD j 0≤255∧xs.getD j 0≠92):
  Calls Tryz.prog 125 #[.slice (some ⟨g,o,none⟩) n cp,.slice (some ⟨og,0,none⟩) 1 1,.slice none 0 0] w fun e w' =>∃v,e= .returned v∧w'.ownsRow w.heap.size 5 1 v n (bp .u8 xs)∧Below w.heap.size w w':=by
 have HC:=am hc
 have HX:=am hx
 have HO:=am ho
 have HL:=am hl
 clear hc hx ho hl
 have HW:=am (Below.refl w.heap.size w)
 have HN:=am (MP w w.heap.size 5 1)
 go_enter Tryz.func125,Tryz.ntmps125
 go_wp2_with (fail)
 go_loopg [7,8] n (fun k v i wr=>∃(j:Nat) (V:Value),V=v∧j≤n∧ak (k=n - j)∧i= .int .i64 j∧ak (wr.ownsRow w.heap.size 5 1 v (xs.take j).length (bp .u8 (xs.take j)))∧ak (Below w.heap.size w wr))
 case atStart=>exact⟨0,_,rfl,by omega,⟨by omega⟩,rfl,⟨by simpa [bp] using HN.out⟩,HW⟩
 case round=>
  obtain⟨j,v,rfl,hj,hk,rfl,bl,tp⟩:=hrel
  by_cases eh:j<n
  ·obtain⟨x,YN⟩:∃x,x=xs.getD j 0:=⟨_,rfl⟩
   have bR:wr.cell? ⟨g,o+j,none⟩=some (.int .u8 x):=by rw [YN];exact(tp.out.cell (p:=⟨g,o+j,none⟩) (World.block_lt_of_cell? w _ (HC.out j eh))).trans (HC.out j eh)
   have Kh:wr.cell? ⟨og,0,none⟩=some (.int .u8 92):=(tp.out.cell (p:=⟨og,0,none⟩) (World.block_lt_of_cell? w _ HO.out)).trans HO.out
   have hsl:∀W:World,(Instr.slice 24 (.slice (some ⟨g,o,none⟩) n cp) (some (.int .i64 (j:Int))) (some (.int .i64 ((j:Int)+1))) none).run Tryz.prog W= .ok (.slice (some ⟨g,o+j,none⟩) 1 (cp - j)) W:=fun W=>by
    rw [run_slice_lh W 24 _ _ _ Tryz.underlying24 .i64 .i64 (j:Int) ((j:Int)+1) (by omega) (by omega) (by omega)]
    rw [show (sizeOf (Tryz.prog.elem 24)).run Tryz.prog W= .ok 1 W by kernel_rfl]
    simp only [Result.andThen_ok,sliced]
    rw [if_neg (by omega)]
    simp only [Option.map_some]
    have:(⟨g,o,none⟩:Addr).add ((j:Int).toNat*1)=⟨g,o+j,none⟩:=by unfold Addr.add;split<;>simp_all
    rw [this]
    congr 2
    omega
   obtain⟨S1,hS1⟩:∃S,S=strOfNums [x]:=⟨_,rfl⟩
   obtain⟨S2,hS2⟩:∃S,S=strOfNums [92]:=⟨_,rfl⟩
   have hcv:∀nq,(convert 24 9 (.slice (some ⟨g,o+j,none⟩) 1 (cp - j))).run Tryz.prog (wr.drewN nq)= .ok (.string S1) (wr.drewN nq):=fun nq=>by
    rw [hS1];exact run_convert_bytes_arg (wr.drewN nq) 24 5 Tryz.underlying24 Tryz.underlying5 g (o+j) 1 (cp - j) [x] rfl (fun i hi=>by(obtain rfl:i=0:=by omega);simpa using bR) 9 Tryz.underlying9
   have aeL:∀nq,(convert 24 9 (.slice (some ⟨og,0,none⟩) 1 1)).run Tryz.prog (wr.drewN nq)= .ok (.string S2) (wr.drewN nq):=fun nq=>by
    rw [hS2];exact run_convert_bytes_arg (wr.drewN nq) 24 5 Tryz.underlying24 Tryz.underlying5 og 0 1 1 [92] rfl (fun i hi=>by(obtain rfl:i=0:=by omega);simpa using Kh) 9 Tryz.underlying9
   have jJ:(S1.toList==S2.toList)=false:=by
    have:=HX.out j eh
    rw [←YN] at this
    have e1:S1.toList= [UInt8.ofNat x.toNat]:=by rw [hS1];simp [strOfNums,ByteArray.toList_eq]
    have e2:S2.toList= [92]:=by rw [hS2];simp [strOfNums,ByteArray.toList_eq]
    rw [e1,e2]
    simp only [beq_eq_false_iff_ne,ne_eq,List.cons.injEq,and_true]
    intro h
    have h2:=congrArg UInt8.toNat h
    simp at h2
    omega
   have hle:decide ((j:Int)+1≤n)=true:=by simp;omega
   have qZ:xs.take j++ [x]=xs.take (j+1):=by
    rw [YN,List.take_add_one]
    have:j<xs.length:=by rw [HL.out];exact eh
    simp [List.getElem?_eq_getElem this,List.getD_eq_getElem?_getD]
   have ng:(xs.take j).length+1≤140737488355328:=by simp;omega
   have HT:=am qZ
   have HS1:=am hS1
   have HS2:=am hS2
   have HXX:=am YN
   clear qZ hS1 hS2 YN
   go_wp2_with (fail)
   go_quiet (fail)
   rename_i nq
   have tq:(wr.drewN nq).ownsRow w.heap.size 5 1 v (xs.take j).length (bp .u8 (xs.take j)):=bl.out
   have Fq:Below w.heap.size w (wr.drewN nq):=bn tp.out nq
   have Ki:(wr.drewN nq).cell? ⟨g,o+j,none⟩=some (.int .u8 x):=bR
   clear hcv aeL bl tp Kh bR
   revert tq Fq Ki
   generalize wr.drewN nq=w2
   intro tq Fq Ki
   go_wp2_with (at_builtin;refine cz (w0:=w) w.heap.size rfl (.tmp 40) (.tmp 45) 24 5 .u8 1 rfl Tryz.underlying24 cF (by decide) v (xs.take j) x (by rfl) (by rfl) tq Fq Fq.size (by omega) ?_;intro v1 w1 dW mv jm mq)
   go_roundg (n - (j+1))
   case measure=>have:=hk.out;omega
   case rel=>exact⟨j+1,_,rfl,by omega,⟨rfl⟩,by go_num,⟨by rw [HT.out] at dW;exact dW⟩,⟨mv⟩⟩
  ·have Oi:j=n:=by omega
   subst Oi
   have hf:xs.take j=xs:=by rw [←HL.out];simp
   go_wp2_with (fail)
   go_ret
   refine⟨_,rfl,?_,tp.out⟩
   have:=bl.out
   rw [hf,HL.out] at this
   exact this
theorem Kj (A B:Option Addr) (n m ca cb:Nat) (w:World) (hn:((n:Int)==m)=false):
  Calls Tryz.prog 124 #[.slice A n ca,.slice B m cb] w fun e w' =>e= .returned (.bool false)∧w=w':=by
 have YO :((n:Int) !=m)=true:=by simpa using hn
 go_enter Tryz.func124,Tryz.ntmps124
 go_wp2
 go_ret
 exact⟨rfl,rfl⟩
theorem pO (g o n ca h0 h1 cb:Nat) (xs ys:List Int) (w:World) (m:Nat) (hm:m≤n) (hn:n≤1099511627776)
  (hx:∀j:Nat,j<n→w.cell? ⟨g,o+j,none⟩=some (.int .u8 (xs.getD j 0))) (hy:∀j:Nat,j<n→w.cell? ⟨h0,h1+j,none⟩=some (.int .u8 (ys.getD j 0)))
  (hr:∀j:Nat,j<n→0≤xs.getD j 0∧xs.getD j 0≤255) (ha:∀j:Nat,j<m→Fa (xs.getD j 0) (ys.getD j 0)) (he:m<n→¬Fa (xs.getD m 0) (ys.getD m 0)) (b:Bool) (hb:b=decide (m=n)):
  Calls Tryz.prog 124 #[.slice (some ⟨g,o,none⟩) n ca,.slice (some ⟨h0,h1,none⟩) n cb] w fun e w' =>e= .returned (.bool b)∧w=w':=by
 have HX:=am hx
 have HY:=am hy
 have HR:=am hr
 have HA:=am ha
 have HE:=am he
 have HB:=am hb
 clear hx hy hr ha he hb
 have hz:((n:Int) !=n)=false:=by simp
 go_enter Tryz.func124,Tryz.ntmps124
 go_wp2_with (fail)
 go_loopg [15] n (fun k i wr=>∃j:Nat,j≤m∧ak (k=n - j)∧i= .int .i64 j∧ak (w=wr))
 case atStart=>exact⟨0,by omega,⟨by omega⟩,rfl,⟨rfl⟩⟩
 case round=>
  obtain⟨j,hj,hk,rfl,QJ⟩:=hrel
  by_cases eh:j<n
  ·have hcx:wr.cell? ⟨g,o+j,none⟩=some (.int .u8 (xs.getD j 0)):=by rw [←QJ.out];exact HX.out j eh
   have hcy:wr.cell? ⟨h0,h1+j,none⟩=some (.int .u8 (ys.getD j 0)):=by rw [←QJ.out];exact HY.out j eh
   have Wb:=HR.out j eh
   by_cases hjm:j<m
   ·have hf:=HA.out j hjm
    revert hcx hcy Wb hf
    generalize xs.getD j 0=x
    generalize ys.getD j 0=y
    intro hcx hcy Wb hf
    obtain⟨r1,r2⟩:=Wb
    unfold Fa at hf
    rcases hf with rfl|⟨f1,f2,rfl⟩
    ·have e1:(x !=x)=false:=by simp
     go_wp2_with (fail)
     go_roundg (n - (j+1))
     case measure=>have:=hk.out;omega
     case rel=>exact⟨j+1,by omega,⟨rfl⟩,by go_num,QJ⟩
    ·have e1:(x !=x+32)=true:=by simp;omega
     have e2:¬x<65:=by omega
     have e3:¬90<x:=by omega
     have e4:(x+32 !=x+32)=false:=by simp
     go_wp2_with (fail)
     go_roundg (n - (j+1))
     case measure=>have:=hk.out;omega
     case rel=>exact⟨j+1,by omega,⟨rfl⟩,by go_num,QJ⟩
   ·have YP:j=m:=by omega
    subst YP
    have hf:=HE.out eh
    have hbf:b=false:=by rw [HB.out];simp;omega
    subst hbf
    revert hcx hcy Wb hf
    generalize xs.getD j 0=x
    generalize ys.getD j 0=y
    intro hcx hcy Wb hf
    obtain⟨r1,r2⟩:=Wb
    unfold Fa at hf
    have e1:(x !=y)=true:=by simp;omega
    by_cases g1:x<65
    ·go_wp2_with (fail)
     go_ret
     exact⟨rfl,QJ.out⟩
    ·by_cases g2:90<x
     ·go_wp2_with (fail)
      go_ret
      exact⟨rfl,QJ.out⟩
     ·have e2:(x+32 !=y)=true:=by simp;omega
      go_wp2_with (fail)
      go_ret
      exact⟨rfl,QJ.out⟩
  ·have YP:j=m:=by omega
   have hbf:b=true:=by rw [HB.out];simp;omega
   subst hbf
   go_wp2_with (fail)
   go_ret
   exact⟨rfl,QJ.out⟩
theorem AD (v:Value) (n h0 cb:Nat) (xs:List Int) (w:World) (B:Nat) (bl:w.ownsRow B 5 1 v n (bp .u8 xs)) (hn:n≤1099511627776)
  (hy0:w.cell? ⟨h0,0,none⟩=some (.int .u8 117)) (hy1:w.cell? ⟨h0,1,none⟩=some (.int .u8 114)) (hy2:w.cell? ⟨h0,2,none⟩=some (.int .u8 108))
  (hr:∀j:Nat,j<n→0≤xs.getD j 0∧xs.getD j 0≤255) (b:Bool) (hb:b=decide (gC xs)):
  Calls Tryz.prog 124 #[v,.slice (some ⟨h0,0,none⟩) 3 cb] w fun e w' =>e= .returned (.bool b)∧w=w':=by
 have hl:xs.length=n:=by have:=bl.1;simp [bp] at this;exact this
 by_cases h3:n=3
 ·subst h3
  obtain⟨g,cap,rfl,_,_⟩:=bl.form (by omega)
  have hx:∀j:Nat,j<3→w.cell? ⟨g,0+j,none⟩=some (.int .u8 (xs.getD j 0)):=fun j hj=>by
   have hc:=bl.cells (g:=g) rfl j (.int .u8 (xs.getD j 0)) (by simp [bp,List.getElem?_eq_getElem (show j<xs.length by omega),List.getD_eq_getElem?_getD])
   rw [Nat.zero_add]
   rwa [add_plain] at hc
  have hy:∀j:Nat,j<3→w.cell? ⟨h0,0+j,none⟩=some (.int .u8 (([117,114,108]:List Int).getD j 0)):=fun j hj=>by
   match j,hj with
   | 0,_=>exact hy0
   | 1,_=>exact hy1
   | 2,_=>exact hy2
  by_cases f0:Fa (xs.getD 0 0) 117
  ·by_cases f1:Fa (xs.getD 1 0) 114
   ·by_cases f2:Fa (xs.getD 2 0) 108
    ·exact pO g 0 3 cap h0 0 cb xs [117,114,108] w 3 (by omega) (by omega) hx hy hr (fun j hj=>by match j,hj with
      | 0,_=>exact f0
      | 1,_=>exact f1
      | 2,_=>exact f2) (fun h=>by omega) b (by rw [hb,decide_eq_true (show gC xs from ⟨hl,f0,f1,f2⟩)];rfl)
    ·exact pO g 0 3 cap h0 0 cb xs [117,114,108] w 2 (by omega) (by omega) hx hy hr (fun j hj=>by match j,hj with
      | 0,_=>exact f0
      | 1,_=>exact f1) (fun _=>f2) b (by rw [hb];simp only [gC];simp;intro _ _ _;exact f2)
   ·exact pO g 0 3 cap h0 0 cb xs [117,114,108] w 1 (by omega) (by omega) hx hy hr (fun j hj=>by match j,hj with
      | 0,_=>exact f0) (fun _=>f1) b (by rw [hb];simp only [gC];simp;intro _ _ h;exact absurd h f1)
  ·exact pO g 0 3 cap h0 0 cb xs [117,114,108] w 0 (by omega) (by omega) hx hy hr (fun j hj=>by omega) (fun _=>f0) b (by rw [hb];simp only [gC];simp;intro _ h;exact absurd h f0)
 ·have hf:b=false:=by rw [hb];simp [gC,hl,h3]
  subst hf
  obtain⟨A,c,rfl⟩:=dP bl
  exact Kj A _ n 3 c cb w (by simp;omega)
theorem Kk (h:St w0 c w p s) (hsp:s<p) (og:Nat) (ho:w.cell? ⟨og,0,none⟩=some (.int .u8 92)):
  Calls Tryz.prog 125 #[cut c s p,.slice (some ⟨og,0,none⟩) 1 1,.slice none 0 0] w fun e w' =>∃v,e= .returned v∧w'.ownsRow w.heap.size 5 1 v (p - s).toNat (bp .u8 (oM c.bs s p))∧St w0 c w' p s:=by
 have b0:=h.dK
 have b2:=h.dS
 have b3:=h.ej
 refine(zz c.gb s.toNat (p - s).toNat (p - s).toNat og (oM c.bs s p) w (ic b0 (by omega) (by omega)) (Nat.le_refl _) (by omega) (fun j hj=> ?_) ho (fun j hj=> ?_)).mono ?_
 ·rw [sT b0 j hj]
  exact h.buf _ (by omega)
 ·rw [nc b0 j hj]
  exact h.ok.range _
 ·rintro e w' ⟨v,rfl,h1,h2⟩
  exact⟨v,rfl,h1,h.below h2⟩
theorem xI (h:St w0 c w p s) (h0:lr c.bs p) (h1:(at_ c.bs (run Nm c.bs p)==40)=false):
  Calls Tryz.prog 89 #[.pointer (some ⟨c.gl,0,none⟩)] w fun e w' =>e= .returned (.int .u32 1)∧St w0 c w' (run Nm c.bs p) s:=by
 have hr:=h.r;have b0:=h.dK;have b1:=h.ei;have b2:=h.dS;have b3:=h.ej
 have QH :(at_ c.bs (run Nm c.bs p) !=40)=true:=by simpa using h1
 go_enter Tryz.func89,Tryz.ntmps89
 go_wp2_with (first|(go_at_call 123;(with_reducible refine(pN (by assumption) (by assumption)).mono ?_);rintro e w1 ⟨rfl,hS⟩;have hr:=hS.r)|(go_at_call 80;(with_reducible refine(bE (by assumption)).mono ?_);rintro e w1 ⟨rfl,hS⟩;have hr:=hS.r))
 go_ret
 exact⟨rfl,by assumption⟩
theorem rR (h:St w0 c w p s) (h0:fu c.bs p):
  Calls Tryz.prog 89 #[.pointer (some ⟨c.gl,0,none⟩)] w fun e w' =>e= .returned (.int .u32 0)∧St w0 c w' p s:=by
 have hr:=h.r;have b0:=h.dK;have b1:=h.ei;have b2:=h.dS;have b3:=h.ej
 go_enter Tryz.func89,Tryz.ntmps89
 go_wp2_with (first|(go_at_call 123;(with_reducible refine(AB (by assumption) (by assumption)).mono ?_);rintro e w1 ⟨rfl,hS⟩;have hr:=hS.r)|(go_at_call 80;(with_reducible refine(bE (by assumption)).mono ?_);rintro e w1 ⟨rfl,hS⟩;have hr:=hS.r))
 go_ret
 exact⟨rfl,by assumption⟩
theorem kk (h:St w0 c w p s) (h0:lr c.bs p):p<run Nm c.bs p∧run Nm c.bs p<c.bs.length:=by
 have b0:=h.dK
 have b1:=h.ei
 have b2:=h.dS
 have hn:Nm (at_ c.bs p):=by
  rcases h0 with h0|⟨h0,_⟩
  ·exact h0.nm
  ·rw [h0];decide
 have h3:=fH (f:=Nm) (bs:=c.bs) (p:=p) (by omega) (by omega) hn
 have h4:=bL (f:=Nm) (bs:=c.bs) (p:=p+1)
 exact⟨by omega,h.ok.tj (by decide) (by omega) b2⟩
theorem xJ (h:St w0 c w p p) (h0:lr c.bs p) (h1:at_ c.bs (run Nm c.bs p)=40) (h2:¬gC (oM c.bs p (run Nm c.bs p))):
  Calls Tryz.prog 89 #[.pointer (some ⟨c.gl,0,none⟩)] w fun e w' =>e= .returned (.int .u32 2)∧St w0 c w' (run Nm c.bs p+1) p:=by
 have hr:=h.r;have b0:=h.dK;have b1:=h.ei;have b2:=h.dS;have b3:=h.ej
 obtain⟨l1,l2⟩:=kk h h0
 have l3:=h.ok.lt (run Nm c.bs p) (by omega) l2 (by omega)
 have QH :(at_ c.bs (run Nm c.bs p) !=40)=false:=by simpa using h1
 have hU:false=decide (gC (oM c.bs p (run Nm c.bs p))):=by simp [h2]
 have HU:=am hU
 clear h1 hU h2
 go_enter Tryz.func89,Tryz.ntmps89
 go_wp2_with (first|(go_at_call 123;(with_reducible refine(pN (by assumption) (by assumption)).mono ?_);rintro e w1 ⟨rfl,hS⟩;have hr:=hS.r)|(go_at_call 80;(with_reducible refine(bE (by assumption)).mono ?_);rintro e w1 ⟨rfl,hS⟩;have hr:=hS.r)|(go_at_call 100;(with_reducible refine(Ka (by assumption) (by omega)).mono ?_);rintro e w1 ⟨rfl,hS⟩;have hr:=hS.r))
 refine(Kk (hS.alloc _) l1 _ (by simp [World.cell?_alloc_new])).mono ?_
 rintro e w2 ⟨v,rfl,bl,hS⟩
 clear hr
 have hr:=hS.r
 have HO:=am bl
 clear bl
 go_wp2_with (fail)
 refine(AD v _ _ _ (oM c.bs p (run Nm c.bs p)) _ _ (HO.out.alloc _) (by omega) (by simp [World.cell?_alloc_new]) (by simp [World.cell?_alloc_new]) (by simp [World.cell?_alloc_new]) (fun j hj=> ?_) false HU.out).mono ?_
 ·rw [nc b0 j hj]
  exact⟨(h.ok.range _).1,(h.ok.range _).2.1⟩
 rintro e w3 ⟨rfl,rfl⟩
 have hS:=hS.alloc (.cells #[Value.int .u8 117,Value.int .u8 114,Value.int .u8 108] 5)
 have hr:=hS.r
 go_wp2_with (first|(go_at_call 58;(with_reducible refine(move _ (by assumption) (by omega) (by omega)).mono ?_);rintro e w1 ⟨rfl,hS⟩;have hr:=hS.r))
 go_ret
 exact⟨rfl,by assumption⟩
end Go.Proofs.YtlglijnaeaonpaaGreatDoor.Lx
end
