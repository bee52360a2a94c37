/- FnStyle: a part of the proof (Mm). -/
import Derived.Test.YtlglijnaeaonpaaGreatDoorMl
import Derived.Deep.RegionWith
import Derived.Deep.LoopGhost
import Derived.Deep.DeepCutAuto
import Derived.Test.YtlglijnaeaonpaaGreatDoorMi
section
set_option maxHeartbeats 8000000
set_option maxRecDepth 100000
set_option linter.unusedVariables false
set_option linter.unusedSimpArgs false
namespace Go.Proofs.YtlglijnaeaonpaaGreatDoor.Lx
open Go.RowKit Go.Proofs.YtlglijnaeaonpaaGreatDoorW.PrintWords
variable {w0 w : World} {c : Cfg} {p s : Int}
theorem ws_bound (h : St w0 c w p s) {a : Int} (h0 : 0 ≤ a) (h1 : a < c.bs.length) : a ≤ run Ws c.bs a ∧ run Ws c.bs a < c.bs.length:=⟨run_ge,h.ok.run_lt (by decide) h0 h1⟩
theorem uc_bound (h : St w0 c w p s) {a : Int} (h0 : 0 ≤ a) (h1 : a < c.bs.length) : a ≤ run Uc c.bs a ∧ run Uc c.bs a < c.bs.length:=⟨run_ge,h.ok.run_lt (by decide) h0 h1⟩
theorem like_url (h : St w0 c w p p) (h0 : Idt c.bs p) {e : Int} (h1 : at_ c.bs (run Nm c.bs p) = 40) (h2 : IsUrl (seg c.bs p (run Nm c.bs p))) (hu : Urla c.bs (run Nm c.bs p + 1) e) :
  Calls Tryz.prog 89 #[.pointer (some ⟨c.gl,0,none⟩)] w fun en w' => en = .returned (.int .u32 7) ∧ St w0 c w' e p:=by
 have hr:=h.r;have b0:=h.le0;have b1:=h.le1;have b2:=h.le2;have b3:=h.le3
 obtain ⟨l1,l2⟩:=idt_lt h h0
 obtain ⟨q0,hq0⟩ : ∃ q0,q0 = run Nm c.bs p:=⟨_,rfl⟩
 have l3:=h.ok.lt (run Nm c.bs p) (by omega) l2 (by omega)
 obtain ⟨a,b,ha,hb,a34,a39,hend⟩:=hu
 have la:=ws_bound h (a:=run Nm c.bs p + 1) (by omega) l3
 rw [← ha] at la
 obtain ⟨la1,la2⟩:=la
 have lb:=uc_bound h (a:=a) (by omega) la2
 rw [← hb] at lb
 obtain ⟨lb1,lb2⟩:=lb
 have h1' : (at_ c.bs (run Nm c.bs p) != 40) = false:=by simpa using h1
 have hU : true = decide (IsUrl (seg c.bs p (run Nm c.bs p))):=by simp [h2]
 have HU:=Aside0.mk hU
 have HA:=Aside0.mk ha
 have HB:=Aside0.mk hb
 have HE:=Aside0.mk hend
 clear h1 hU h2 ha hb hend hq0
 go_enter Tryz.func89,Tryz.ntmps89
 go_wp2_with (first|(go_at_call 123;(with_reducible refine (ident_y (by assumption) (by assumption)).mono ?_);rintro e w1 ⟨rfl,hS⟩;have hr:=hS.r)|(go_at_call 80;(with_reducible refine (peek0 (by assumption)).mono ?_);rintro e w1 ⟨rfl,hS⟩;have hr:=hS.r)|(go_at_call 100;(with_reducible refine (lexeme (by assumption) (by omega)).mono ?_);rintro e w1 ⟨rfl,hS⟩;have hr:=hS.r))
 refine (zz_cut (hS.alloc _) l1 _ (by simp [World.cell?_alloc_new])).mono ?_
 rintro en w2 ⟨v,rfl,hown,hS⟩
 clear hr
 have hr:=hS.r
 have HO:=Aside0.mk hown
 clear hown
 go_wp2_with (fail)
 refine (fold_url v _ _ _ (seg c.bs p (run Nm c.bs p)) _ _ (HO.out.alloc _) (by omega) (by simp [World.cell?_alloc_new]) (by simp [World.cell?_alloc_new]) (by simp [World.cell?_alloc_new]) (fun j hj => ?_) true HU.out).mono ?_
 ·rw [seg_at b0 j hj]
  exact ⟨(h.ok.range _).1,(h.ok.range _).2.1⟩
 rintro en w3 ⟨rfl,rfl⟩
 have hS:=hS.alloc (.cells #[Value.int .u8 117,Value.int .u8 114,Value.int .u8 108] 5)
 have hr:=hS.r
 clear HO
 go_wp2_with (first|(go_at_call 58;(with_reducible refine (move _ (by assumption) (by omega) (by omega)).mono ?_);rintro e w1 ⟨rfl,hS⟩;have hr:=hS.r))
 go_loopg [] ((c.bs.length : Int) - (run Nm c.bs p + 1)).toNat (fun k w' => ∃ q : Int,Ri Ws c.bs (run Nm c.bs p + 1) q k ∧ St w0 c w' q p)
 case atStart => exact ⟨_,Ri.start (by omega) (by omega),by assumption⟩
 case round =>
  clear hS hr
  obtain ⟨q,hR,hS⟩:=hrel
  have hr:=hS.r;have b0:=hS.le0;have b1:=hS.le1;have b2:=hS.le2;have b3:=hS.le3
  by_cases hn : Ws (at_ c.bs q)
  ·have hm:=hS.more (by unfold Ws at hn;omega)
   have hR1:=hR.step (by omega) hn
   have hlt:=hR.lt (by omega)
   go_wp2_with (first|(go_at_call 81;(with_reducible refine (ws_y (by assumption) (by assumption)).mono ?_);rintro e w1 ⟨rfl,hS⟩;have hr:=hS.r))
   go_roundg (((c.bs.length : Int) - (q + 1)).toNat)
   case measure => exact hlt
   case rel => exact ⟨_,hR1,by assumption⟩
  ·have HQ:=Aside0.mk (hR.done hn)
   have hqa : q = a:=by rw [HA.out];exact HQ.out
   clear HQ hR
   subst hqa
   obtain ⟨m,r,hm1,hr1,hm2,hm3,hm4⟩ : ∃ m r : Int,(q ≤ m ∧ m < c.bs.length) ∧ r < c.bs.length ∧ r = run Ws c.bs m ∧ (at_ c.bs r == 41) = true ∧ e = r + 1 ∧ ((m = b ∧ at_ c.bs b = 41) ∨ (m = b + 1 ∧ Ws (at_ c.bs b))):=by
    rcases HE.out with ⟨g1,g2⟩|⟨g1,g2,g3⟩
    ·have g4 : run Ws c.bs b = b:=run_stop (by omega) (by omega) (by rw [g1];decide)
     exact ⟨b,b,⟨by omega,by omega⟩,by omega,g4.symm,by simpa using g1,g2,.inl ⟨rfl,g1⟩⟩
    ·have g5:=h.ok.lt b (by omega) lb2 (by unfold Ws at g1;omega)
     have g4:=run_step (f:=Ws) (bs:=c.bs) (p:=b) (by omega) (by omega) g1
     have g6:=ws_bound h (a:=b + 1) (by omega) g5
     exact ⟨b + 1,run Ws c.bs b,⟨by omega,by omega⟩,by omega,g4,by simpa using g2,g3,.inr ⟨rfl,g1⟩⟩
   obtain ⟨hm1,hm1'⟩:=hm1
   obtain ⟨hm4,hm5⟩:=hm4
   have HM2:=Aside0.mk hm2
   have HM4:=Aside0.mk hm4
   have HM5:=Aside0.mk hm5
   clear hm2 hm4 hm5
   go_upto_region 14 with (first|(go_at_call 81;(with_reducible refine (ws_n (by assumption) (by assumption)).mono ?_);rintro e w1 ⟨rfl,hS⟩;have hr:=hS.r)|(go_at_call 80;(with_reducible refine (peek0 (by assumption)).mono ?_);rintro e w1 ⟨rfl,hS⟩;have hr:=hS.r))
   go_cut [57] (fun s57 wx => s57 = .bool false ∧ St w0 c wx m p)
   case first =>
    rcases HM5.out with ⟨g1,g2⟩|⟨g1,g2⟩
    ·have g3 : at_ c.bs (run Uc c.bs q) = 41:=by rw [← HB.out];exact g2
     have G1:=Aside0.mk (g1.trans HB.out)
     clear g1 g2
     go_wp2_with (first|(go_at_call 127;(with_reducible refine (url_y (by assumption) g3).mono ?_);rintro e w1 ⟨rfl,hS⟩;have hr:=hS.r))
     go_meet
     refine ⟨rfl,?_⟩
     rw [G1.out]
     assumption
    ·have g3 : Ws (at_ c.bs (run Uc c.bs q)):=by rw [← HB.out];exact g2
     have G1:=Aside0.mk (show m = run Uc c.bs q + 1 by rw [g1,HB.out])
     clear g1 g2
     go_wp2_with (first|(go_at_call 127;(with_reducible refine (url_w (by assumption) g3).mono ?_);rintro e w1 ⟨rfl,hS⟩;have hr:=hS.r)|(go_at_call 81;(with_reducible refine (ws_y (by assumption) g3).mono ?_);rintro e w1 ⟨rfl,hS⟩;have hr:=hS.r))
     go_meet
     refine ⟨rfl,?_⟩
     rw [G1.out]
     assumption
   case rest =>
   clear hS hr
   obtain ⟨rfl,hS⟩:=hcut
   have hr:=hS.r
   go_wp2_with (fail)
   go_loopg [] ((c.bs.length : Int) - m).toNat (fun k w' => ∃ q : Int,Ri Ws c.bs m q k ∧ St w0 c w' q p)
   case atStart => exact ⟨_,Ri.start (by omega) (by omega),by assumption⟩
   case round =>
    clear hS hr
    obtain ⟨q2,hR,hS⟩:=hrel
    have hr:=hS.r;have b0:=hS.le0;have b1:=hS.le1;have b2:=hS.le2;have b3:=hS.le3
    by_cases hn : Ws (at_ c.bs q2)
    ·have hm:=hS.more (by unfold Ws at hn;omega)
     have hR1:=hR.step (by omega) hn
     have hlt:=hR.lt (by omega)
     go_wp2_with (first|(go_at_call 81;(with_reducible refine (ws_y (by assumption) (by assumption)).mono ?_);rintro e w1 ⟨rfl,hS⟩;have hr:=hS.r))
     go_roundg (((c.bs.length : Int) - (q2 + 1)).toNat)
     case measure => exact hlt
     case rel => exact ⟨_,hR1,by assumption⟩
    ·have hq2 : q2 = r:=by rw [HM2.out];exact hR.done hn
     clear hR
     subst hq2
     go_upto_region 18 with (first|(go_at_call 81;(with_reducible refine (ws_n (by assumption) (by assumption)).mono ?_);rintro e w1 ⟨rfl,hS⟩;have hr:=hS.r))
     go_cut [73] (fun s73 wx => s73 = .bool false ∧ St w0 c wx (q2 + 1) p)
     case first =>
      have hSd:=hS.drew
      refine wp_region_any (by kernel_rfl) ?_
      change wpAny _ _ _ _ _ _ _ (World.drew _)
      refine wpAny_take (i:=0) (v:=.pointer (some ⟨c.gl,0,none⟩)) rfl (by kernel_rfl) (by kernel_rfl) (by kernel_rfl) (fun _ _ _ h => h) (Or.inl ⟨by rfl,fun w => by go_simp⟩) ?_
      refine wpAny_ready (rs:=[1]) (by kernel_rfl) (by simp) ?_
      refine AllReady.cons rfl (fun K hK => ?_) AllReady.nil
      go_simp
      go_wp2_with (go_at_call 122;(with_reducible refine (byte_y (by assumption) 41 (by decide) (by assumption)).mono ?_);rintro e w1 ⟨rfl,hS⟩;have hr:=hS.r)
      refine wpAny_take (i:=2) (v:=.bool false) rfl (by kernel_rfl) (by kernel_rfl) (by kernel_rfl) (fun _ _ _ h => h) (Or.inl ⟨by rfl,fun w => by go_simp⟩) ?_
      refine wpAny_take (i:=3) (v:=.bool false) rfl (by kernel_rfl) (by kernel_rfl) (by kernel_rfl) (fun _ _ _ h => h) (Or.inl ⟨by rfl,fun w => by go_simp⟩) ?_
      go_simp
      refine wpAny_take (i:=4) (v:=undef) rfl (by kernel_rfl) (by kernel_rfl) (by kernel_rfl) (fun _ _ _ h => h) (Or.inr ⟨by rfl,rfl⟩) ?_
      refine wpAny_take (i:=5) (v:=undef) rfl (by kernel_rfl) (by kernel_rfl) (by kernel_rfl) (fun _ _ _ h => h) (Or.inr ⟨by rfl,rfl⟩) ?_
      go_simp
      refine wpAny_take (i:=6) (v:=undef) rfl (by kernel_rfl) (by kernel_rfl) (by kernel_rfl) (fun _ _ _ h => h) (Or.inr ⟨by rfl,rfl⟩) ?_
      refine wpAny_take (i:=7) (v:=undef) rfl (by kernel_rfl) (by kernel_rfl) (by kernel_rfl) (fun _ _ _ h => h) (Or.inr ⟨by rfl,rfl⟩) ?_
      go_simp
      refine wpAny_take (i:=8) (v:=undef) rfl (by kernel_rfl) (by kernel_rfl) (by kernel_rfl) (fun _ _ _ h => h) (Or.inr ⟨by rfl,rfl⟩) ?_
      refine wpAny_take (i:=9) (v:=undef) rfl (by kernel_rfl) (by kernel_rfl) (by kernel_rfl) (fun _ _ _ h => h) (Or.inr ⟨by rfl,rfl⟩) ?_
      go_simp
      refine wpAny_take (i:=10) (v:=undef) rfl (by kernel_rfl) (by kernel_rfl) (by kernel_rfl) (fun _ _ _ h => h) (Or.inr ⟨by rfl,rfl⟩) ?_
      go_simp
      refine wpAny_take (i:=11) (v:=.bool false) rfl (by kernel_rfl) (by kernel_rfl) (by kernel_rfl) (fun _ _ _ h => h) (Or.inl ⟨by rfl,fun w => by go_simp⟩) ?_
      refine wpAny_done (by kernel_rfl) ?_ _
      go_wp2_with (fail)
      go_meet
      exact ⟨rfl,by assumption⟩
     case rest =>
     clear hS hr
     obtain ⟨rfl,hS⟩:=hcut
     have hr:=hS.r
     go_wp2_with (fail)
     go_ret
     rw [HM4.out]
     exact ⟨rfl,by assumption⟩
theorem next_ws (h : St w0 c w p p) (h0 : Ws (at_ c.bs p)) :
  Calls Tryz.prog 63 #[.pointer (some ⟨c.gl,0,none⟩)] w fun e w' => e = .returned (.tuple #[.int .u32 20,cut c p (run Ws c.bs p)]) ∧ St w0 c w' (run Ws c.bs p) (run Ws c.bs p):=by
 have hr:=h.r;have b0:=h.le0;have b1:=h.le1;have b2:=h.le2;have b3:=h.le3
 have l2:=h.more (by unfold Ws at h0;omega)
 have hR0 : Ri Ws c.bs p (p + 1) ((c.bs.length : Int) - (p + 1)).toNat:=(Ri.start (by omega) (by omega)).step (by omega) h0
 have lt1 : p < run Ws c.bs p:=by
  have:=run_step (f:=Ws) (bs:=c.bs) (p:=p) (by omega) (by omega) h0
  have:=run_ge (f:=Ws) (bs:=c.bs) (p:=p + 1)
  omega
 unfold Ws at h0
 rcases h0 with h0|h0|h0|h0|h0
 all_goals
  go_enter Tryz.func63,Tryz.ntmps63
  go_wp2_with (first|(go_at_call 80;(with_reducible refine (peek0 (by assumption)).mono ?_);rintro e w1 ⟨rfl,hS⟩;have hr:=hS.r)|(go_at_call 58;(with_reducible refine (move _ (by assumption) (by omega) (by omega)).mono ?_);rintro e w1 ⟨rfl,hS⟩;have hr:=hS.r))
  clear h0
  go_loopg [] ((c.bs.length : Int) - (p + 1)).toNat (fun k w' => ∃ q : Int,Ri Ws c.bs p q k ∧ St w0 c w' q p)
  case atStart => exact ⟨_,hR0,by assumption⟩
  case round =>
   clear hS hr
   obtain ⟨q,hR,hS⟩:=hrel
   have hr:=hS.r;have b0:=hS.le0;have b1:=hS.le1;have b2:=hS.le2;have b3:=hS.le3
   by_cases hn : Ws (at_ c.bs q)
   ·have hm:=hS.more (by unfold Ws at hn;omega)
    have hR1:=hR.step (by omega) hn
    have hlt:=hR.lt (by omega)
    go_wp2_with (first|(go_at_call 81;(with_reducible refine (ws_y (by assumption) (by assumption)).mono ?_);rintro e w1 ⟨rfl,hS⟩;have hr:=hS.r))
    go_roundg (((c.bs.length : Int) - (q + 1)).toNat)
    case measure => exact hlt
    case rel => exact ⟨_,hR1,by assumption⟩
   ·have hq:=hR.done hn
    have hlq : p < q:=by omega
    have HQ:=Aside0.mk hq
    clear hq hR lt1
    go_wp2_with (first|(go_at_call 81;(with_reducible refine (ws_n (by assumption) (by assumption)).mono ?_);rintro e w1 ⟨rfl,hS⟩;have hr:=hS.r)|(go_at_call 82;(with_reducible refine (shift (by assumption) (by omega)).mono ?_);rintro e w1 ⟨rfl,hS⟩;have hr:=hS.r))
    go_ret2
    rw [← HQ.out]
    exact ⟨rfl,by assumption⟩
theorem next_colon (h : St w0 c w p p) (h0 : at_ c.bs p = 58) :
  Calls Tryz.prog 63 #[.pointer (some ⟨c.gl,0,none⟩)] w fun e w' => e = .returned (.tuple #[.int .u32 23,cut c p (p + 1)]) ∧ St w0 c w' (p + 1) (p + 1):=by
 have hr:=h.r;have b0:=h.le0;have b1:=h.le1;have b2:=h.le2;have b3:=h.le3
 have l2:=h.more (by omega)
 go_enter Tryz.func63,Tryz.ntmps63
 go_wp2_with (first|(go_at_call 80;(with_reducible refine (peek0 (by assumption)).mono ?_);rintro e w1 ⟨rfl,hS⟩;have hr:=hS.r)|(go_at_call 58;(with_reducible refine (move _ (by assumption) (by omega) (by omega)).mono ?_);rintro e w1 ⟨rfl,hS⟩;have hr:=hS.r)|(go_at_call 82;(with_reducible refine (shift (by assumption) (by omega)).mono ?_);rintro e w1 ⟨rfl,hS⟩;have hr:=hS.r) )
 go_ret2
 exact ⟨rfl,by assumption⟩
theorem next_semi (h : St w0 c w p p) (h0 : at_ c.bs p = 59) :
  Calls Tryz.prog 63 #[.pointer (some ⟨c.gl,0,none⟩)] w fun e w' => e = .returned (.tuple #[.int .u32 24,cut c p (p + 1)]) ∧ St w0 c w' (p + 1) (p + 1):=by
 have hr:=h.r;have b0:=h.le0;have b1:=h.le1;have b2:=h.le2;have b3:=h.le3
 have l2:=h.more (by omega)
 go_enter Tryz.func63,Tryz.ntmps63
 go_wp2_with (first|(go_at_call 80;(with_reducible refine (peek0 (by assumption)).mono ?_);rintro e w1 ⟨rfl,hS⟩;have hr:=hS.r)|(go_at_call 58;(with_reducible refine (move _ (by assumption) (by omega) (by omega)).mono ?_);rintro e w1 ⟨rfl,hS⟩;have hr:=hS.r)|(go_at_call 82;(with_reducible refine (shift (by assumption) (by omega)).mono ?_);rintro e w1 ⟨rfl,hS⟩;have hr:=hS.r) )
 go_ret2
 exact ⟨rfl,by assumption⟩
theorem next_comma (h : St w0 c w p p) (h0 : at_ c.bs p = 44) :
  Calls Tryz.prog 63 #[.pointer (some ⟨c.gl,0,none⟩)] w fun e w' => e = .returned (.tuple #[.int .u32 25,cut c p (p + 1)]) ∧ St w0 c w' (p + 1) (p + 1):=by
 have hr:=h.r;have b0:=h.le0;have b1:=h.le1;have b2:=h.le2;have b3:=h.le3
 have l2:=h.more (by omega)
 go_enter Tryz.func63,Tryz.ntmps63
 go_wp2_with (first|(go_at_call 80;(with_reducible refine (peek0 (by assumption)).mono ?_);rintro e w1 ⟨rfl,hS⟩;have hr:=hS.r)|(go_at_call 58;(with_reducible refine (move _ (by assumption) (by omega) (by omega)).mono ?_);rintro e w1 ⟨rfl,hS⟩;have hr:=hS.r)|(go_at_call 82;(with_reducible refine (shift (by assumption) (by omega)).mono ?_);rintro e w1 ⟨rfl,hS⟩;have hr:=hS.r) )
 go_ret2
 exact ⟨rfl,by assumption⟩
theorem next_bracket (h : St w0 c w p p) (t : Int) (h0 : Bk (at_ c.bs p) t) :
  Calls Tryz.prog 63 #[.pointer (some ⟨c.gl,0,none⟩)] w fun e w' => e = .returned (.tuple #[.int .u32 t,cut c p (p + 1)]) ∧ St w0 c w' (p + 1) (p + 1):=by
 have hr:=h.r;have b0:=h.le0;have b1:=h.le1;have b2:=h.le2;have b3:=h.le3
 have hb:=h0
 unfold Bk at hb
 rcases hb with ⟨hb,rfl⟩|⟨hb,rfl⟩|⟨hb,rfl⟩|⟨hb,rfl⟩|⟨hb,rfl⟩|⟨hb,rfl⟩
 all_goals
  have H0:=Aside0.mk h0
  clear h0
  go_enter Tryz.func63,Tryz.ntmps63
  go_wp2_with (first|(go_at_call 80;(with_reducible refine (peek0 (by assumption)).mono ?_);rintro e w1 ⟨rfl,hS⟩;have hr:=hS.r)|(go_at_call 83;(with_reducible refine (bracket (by assumption) _ H0.out).mono ?_);rintro e w1 ⟨rfl,hS⟩;have hr:=hS.r)|(go_at_call 82;(with_reducible refine (shift (by assumption) (by omega)).mono ?_);rintro e w1 ⟨rfl,hS⟩;have hr:=hS.r))
  go_ret2
  exact ⟨rfl,by assumption⟩
theorem next_hash (h : St w0 c w p p) (h0 : at_ c.bs p = 35) (h1 : Nm (at_ c.bs (p + 1))) :
  Calls Tryz.prog 63 #[.pointer (some ⟨c.gl,0,none⟩)] w fun e w' => e = .returned (.tuple #[.int .u32 4,cut c p (run Nm c.bs (p + 1))]) ∧ St w0 c w' (run Nm c.bs (p + 1)) (run Nm c.bs (p + 1)):=by
 have hr:=h.r;have b0:=h.le0;have b1:=h.le1;have b2:=h.le2;have b3:=h.le3
 have lg:=run_ge (f:=Nm) (bs:=c.bs) (p:=p + 1)
 go_enter Tryz.func63,Tryz.ntmps63
 go_wp2_with (first|(go_at_call 80;(with_reducible refine (peek0 (by assumption)).mono ?_);rintro e w1 ⟨rfl,hS⟩;have hr:=hS.r)|(go_at_call 58;(with_reducible refine (move _ (by assumption) (by omega) (by omega)).mono ?_);rintro e w1 ⟨rfl,hS⟩;have hr:=hS.r)|(go_at_call 82;(with_reducible refine (shift (by assumption) (by omega)).mono ?_);rintro e w1 ⟨rfl,hS⟩;have hr:=hS.r)|(go_at_call 84;(with_reducible refine (hash (by assumption) (by assumption) (by assumption)).mono ?_);rintro e w1 ⟨rfl,hS⟩;have hr:=hS.r))
 go_ret2
 exact ⟨rfl,by assumption⟩
theorem next_string (h : St w0 c w p p) {r : Int} (h0 : at_ c.bs p = 34 ∨ at_ c.bs p = 39) (h1 : p + 1 ≤ r) (h2 : r + 1 < c.bs.length) (ha : ∀ i,p + 1 ≤ i → i < r → Sc (at_ c.bs p) (at_ c.bs i)) (h3 : at_ c.bs r = at_ c.bs p) :
  Calls Tryz.prog 63 #[.pointer (some ⟨c.gl,0,none⟩)] w fun e w' => e = .returned (.tuple #[.int .u32 5,cut c p (r + 1)]) ∧ St w0 c w' (r + 1) (r + 1):=by
 have hr:=h.r;have b0:=h.le0;have b1:=h.le1;have b2:=h.le2;have b3:=h.le3
 have HS:=fun (w1 : World) (k : St w0 c w1 p p) => string_y k h0 h1 h2 ha h3
 have HS:=Aside0.mk HS
 clear ha h3
 rcases h0 with h0|h0
 all_goals
  go_enter Tryz.func63,Tryz.ntmps63
  go_wp2_with (first|(go_at_call 80;(with_reducible refine (peek0 (by assumption)).mono ?_);rintro e w1 ⟨rfl,hS⟩;have hr:=hS.r)|(go_at_call 85;(with_reducible refine (HS.out _ (by assumption)).mono ?_);rintro e w1 ⟨rfl,hS⟩;have hr:=hS.r)|(go_at_call 82;(with_reducible refine (shift (by assumption) (by omega)).mono ?_);rintro e w1 ⟨rfl,hS⟩;have hr:=hS.r))
  go_ret2
  exact ⟨rfl,by assumption⟩
theorem next_at (h : St w0 c w p p) (h0 : at_ c.bs p = 64) (h1 : Idt c.bs (p + 1)) :
  Calls Tryz.prog 63 #[.pointer (some ⟨c.gl,0,none⟩)] w fun e w' => e = .returned (.tuple #[.int .u32 3,cut c p (run Nm c.bs (p + 1))]) ∧ St w0 c w' (run Nm c.bs (p + 1)) (run Nm c.bs (p + 1)):=by
 have hr:=h.r;have b0:=h.le0;have b1:=h.le1;have b2:=h.le2;have b3:=h.le3
 have lg:=run_ge (f:=Nm) (bs:=c.bs) (p:=p + 1)
 go_enter Tryz.func63,Tryz.ntmps63
 go_wp2_with (first|(go_at_call 80;(with_reducible refine (peek0 (by assumption)).mono ?_);rintro e w1 ⟨rfl,hS⟩;have hr:=hS.r)|(go_at_call 58;(with_reducible refine (move _ (by assumption) (by omega) (by omega)).mono ?_);rintro e w1 ⟨rfl,hS⟩;have hr:=hS.r)|(go_at_call 82;(with_reducible refine (shift (by assumption) (by omega)).mono ?_);rintro e w1 ⟨rfl,hS⟩;have hr:=hS.r)|(go_at_call 90;(with_reducible refine (atword (by assumption) (by assumption) (by assumption)).mono ?_);rintro e w1 ⟨rfl,hS⟩;have hr:=hS.r))
 go_ret2
 exact ⟨rfl,by assumption⟩
theorem next_match (h : St w0 c w p p) (t : Int) (h0 : Mt (at_ c.bs p) t) (h1 : at_ c.bs (p + 1) = 61) :
  Calls Tryz.prog 63 #[.pointer (some ⟨c.gl,0,none⟩)] w fun e w' => e = .returned (.tuple #[.int .u32 t,cut c p (p + 2)]) ∧ St w0 c w' (p + 2) (p + 2):=by
 have hr:=h.r;have b0:=h.le0;have b1:=h.le1;have b2:=h.le2;have b3:=h.le3
 have hb:=h0
 unfold Mt at hb
 have H1:=Aside0.mk h1
 clear h1
 rcases hb with ⟨hb,rfl⟩|⟨hb,rfl⟩|⟨hb,rfl⟩|⟨hb,rfl⟩|⟨hb,rfl⟩
 all_goals
  have H0:=Aside0.mk h0
  clear h0
  go_enter Tryz.func63,Tryz.ntmps63
  go_wp2_with (first|(go_at_call 80;(with_reducible refine (peek0 (by assumption)).mono ?_);rintro e w1 ⟨rfl,hS⟩;have hr:=hS.r)|(go_at_call 91;(with_reducible refine (match_y (by assumption) _ H0.out H1.out).mono ?_);rintro e w1 ⟨rfl,hS⟩;have hr:=hS.r)|(go_at_call 82;(with_reducible refine (shift (by assumption) (by omega)).mono ?_);rintro e w1 ⟨rfl,hS⟩;have hr:=hS.r))
  go_ret2
  exact ⟨rfl,by assumption⟩
theorem next_star (h : St w0 c w p p) (h0 : at_ c.bs p = 42 ∨ at_ c.bs p = 126) (h1 : (at_ c.bs (p + 1) == 61) = false) :
  Calls Tryz.prog 63 #[.pointer (some ⟨c.gl,0,none⟩)] w fun e w' => e = .returned (.tuple #[.int .u32 9,cut c p (p + 1)]) ∧ St w0 c w' (p + 1) (p + 1):=by
 have hr:=h.r;have b0:=h.le0;have b1:=h.le1;have b2:=h.le2;have b3:=h.le3
 have l2:=h.more (by omega)
 have hz : at_ c.bs p ≠ 0:=by omega
 have HZ:=Aside0.mk hz
 clear hz
 rcases h0 with h0|h0
 all_goals
  go_enter Tryz.func63,Tryz.ntmps63
  go_wp2_with (first|(go_at_call 80;(with_reducible refine (peek0 (by assumption)).mono ?_);rintro e w1 ⟨rfl,hS⟩;have hr:=hS.r)|(go_at_call 91;(with_reducible refine (match_n (by assumption) HZ.out (by assumption)).mono ?_);rintro e w1 ⟨rfl,hS⟩;have hr:=hS.r)|(go_at_call 58;(with_reducible refine (move _ (by assumption) (by omega) (by omega)).mono ?_);rintro e w1 ⟨rfl,hS⟩;have hr:=hS.r)|(go_at_call 82;(with_reducible refine (shift (by assumption) (by omega)).mono ?_);rintro e w1 ⟨rfl,hS⟩;have hr:=hS.r))
  go_ret2
  exact ⟨rfl,by assumption⟩
theorem next_dot (h : St w0 c w p p) (h0 : at_ c.bs p = 46 ∨ at_ c.bs p = 43) (h1 : NoNum c.bs p) :
  Calls Tryz.prog 63 #[.pointer (some ⟨c.gl,0,none⟩)] w fun e w' => e = .returned (.tuple #[.int .u32 9,cut c p (p + 1)]) ∧ St w0 c w' (p + 1) (p + 1):=by
 have hr:=h.r;have b0:=h.le0;have b1:=h.le1;have b2:=h.le2;have b3:=h.le3
 have l2:=h.more (by omega)
 rcases h0 with h0|h0
 all_goals
  go_enter Tryz.func63,Tryz.ntmps63
  go_wp2_with (first|(go_at_call 80;(with_reducible refine (peek0 (by assumption)).mono ?_);rintro e w1 ⟨rfl,hS⟩;have hr:=hS.r)|(go_at_call 86;(with_reducible refine (numeric_e (by assumption) (by assumption)).mono ?_);rintro e w1 ⟨rfl,hS⟩;have hr:=hS.r)|(go_at_call 58;(with_reducible refine (move _ (by assumption) (by omega) (by omega)).mono ?_);rintro e w1 ⟨rfl,hS⟩;have hr:=hS.r)|(go_at_call 82;(with_reducible refine (shift (by assumption) (by omega)).mono ?_);rintro e w1 ⟨rfl,hS⟩;have hr:=hS.r))
  go_ret2
  exact ⟨rfl,by assumption⟩
theorem next_gt (h : St w0 c w p p) (h0 : at_ c.bs p = 62 ∨ at_ c.bs p = 61) (h1 : NoNum c.bs p) (h2 : NoIdt c.bs p) :
  Calls Tryz.prog 63 #[.pointer (some ⟨c.gl,0,none⟩)] w fun e w' => e = .returned (.tuple #[.int .u32 9,cut c p (p + 1)]) ∧ St w0 c w' (p + 1) (p + 1):=by
 have hr:=h.r;have b0:=h.le0;have b1:=h.le1;have b2:=h.le2;have b3:=h.le3
 have l2:=h.more (by omega)
 rcases h0 with h0|h0
 all_goals
  go_enter Tryz.func63,Tryz.ntmps63
  go_wp2_with (first|(go_at_call 80;(with_reducible refine (peek0 (by assumption)).mono ?_);rintro e w1 ⟨rfl,hS⟩;have hr:=hS.r)|(go_at_call 86;(with_reducible refine (numeric_e (by assumption) (by assumption)).mono ?_);rintro e w1 ⟨rfl,hS⟩;have hr:=hS.r)|(go_at_call 89;(with_reducible refine (like_no (by assumption) (by assumption)).mono ?_);rintro e w1 ⟨rfl,hS⟩;have hr:=hS.r)|(go_at_call 58;(with_reducible refine (move _ (by assumption) (by omega) (by omega)).mono ?_);rintro e w1 ⟨rfl,hS⟩;have hr:=hS.r)|(go_at_call 82;(with_reducible refine (shift (by assumption) (by omega)).mono ?_);rintro e w1 ⟨rfl,hS⟩;have hr:=hS.r))
  go_ret2
  exact ⟨rfl,by assumption⟩
def Plain (b : Int) : Prop:=(b == 32) = false ∧ (b == 9) = false ∧ (b == 10) = false ∧ (b == 13) = false ∧ (b == 12) = false ∧ (b == 58) = false ∧ (b == 59) = false ∧ (b == 44) = false ∧ (b == 40) = false ∧ (b == 41) = false ∧ (b == 91) = false ∧ (b == 93) = false ∧ (b == 123) = false ∧ (b == 125) = false ∧ (b == 35) = false ∧ (b == 34) = false ∧ (b == 39) = false ∧ (b == 46) = false ∧ (b == 43) = false ∧ (b == 45) = false ∧ (b == 64) = false ∧ (b == 36) = false ∧ (b == 42) = false ∧ (b == 94) = false ∧ (b == 126) = false ∧ (b == 47) = false ∧ (b == 60) = false ∧ (b == 92) = false ∧ (b == 117) = false ∧ (b == 85) = false ∧ (b == 124) = false ∧ (b == 0) = false
theorem plain_dg {b : Int} (h : Dg b) : Plain b:=by
 unfold Dg at h
 unfold Plain
 refine ⟨?_,?_,?_,?_,?_,?_,?_,?_,?_,?_,?_,?_,?_,?_,?_,?_,?_,?_,?_,?_,?_,?_,?_,?_,?_,?_,?_,?_,?_,?_,?_,?_⟩ <;> (simp only [beq_eq_false_iff_ne];omega)
theorem plain_sn {b : Int} (h : Sn b) (h1 : b ≠ 117) (h2 : b ≠ 85) : Plain b:=by
 unfold Sn at h
 unfold Plain
 refine ⟨?_,?_,?_,?_,?_,?_,?_,?_,?_,?_,?_,?_,?_,?_,?_,?_,?_,?_,?_,?_,?_,?_,?_,?_,?_,?_,?_,?_,?_,?_,?_,?_⟩ <;> (simp only [beq_eq_false_iff_ne];omega)
variable {q : Int}
theorem num_lt (h : Num c.bs p q) (h0 : 0 ≤ p) : p < q:=by
 obtain ⟨q0,q1,q2,b,fd,hsg,hfd,hdot,hex⟩:=h
 have c0 : p ≤ q0:=by rcases hsg with ⟨_,_,rfl⟩|⟨_,_,rfl⟩|⟨_,_,_,rfl⟩ <;> omega
 have c1 : q0 ≤ q1 ∧ (fd = true → q0 < q1):=by
  rcases hfd with ⟨_,hd,rfl⟩|⟨rfl,_,rfl⟩
  ·have hl : q0 < c.bs.length:=by
    rcases Int.lt_or_le q0 c.bs.length with hl|hl
    ·exact hl
    ·exfalso
     unfold at_ Dg at hd
     rw [List.getD_eq_getElem?_getD,List.getElem?_eq_none (by omega)] at hd
     simp at hd
   have h1:=run_step (f:=Dg) (bs:=c.bs) (p:=q0) (by omega) hl hd
   have h2:=run_ge (f:=Dg) (bs:=c.bs) (p:=q0 + 1)
   exact ⟨by omega,fun _ => by omega⟩
  ·exact ⟨Int.le_refl _,fun h => by cases h⟩
 obtain ⟨c10,c11⟩:=c1
 have c2 : q1 ≤ q2 ∧ (q1 < q2 ∨ fd = true):=by
  rcases hdot with ⟨_,_,rfl⟩|⟨_,_,hf,rfl⟩|⟨_,hf,rfl⟩
  ·have h2:=run_ge (f:=Dg) (bs:=c.bs) (p:=q1 + 1)
   exact ⟨by omega,.inl (by omega)⟩
  ·exact ⟨Int.le_refl _,.inr hf⟩
  ·exact ⟨Int.le_refl _,.inr hf⟩
 have c3 : q2 ≤ q:=by
  rcases hex with ⟨_,_,rfl⟩|⟨_,q3,b2,hs2,⟨_,rfl⟩|⟨_,rfl⟩⟩
  ·exact Int.le_refl _
  ·have h2:=run_ge (f:=Dg) (bs:=c.bs) (p:=q3)
   rcases hs2 with ⟨_,_,rfl⟩|⟨_,_,rfl⟩|⟨_,_,_,rfl⟩ <;> omega
  ·exact Int.le_refl _
 obtain ⟨c20,c21⟩:=c2
 rcases c21 with c21|c21
 ·omega
 ·have:=c11 c21;omega
theorem next_dig_p (h : St w0 c w p p) (h0 : Dg (at_ c.bs p)) (hq : Num c.bs p q) (h1 : (at_ c.bs q == 37) = true) :
  Calls Tryz.prog 63 #[.pointer (some ⟨c.gl,0,none⟩)] w fun e w' => e = .returned (.tuple #[.int .u32 11,cut c p (q + 1)]) ∧ St w0 c w' (q + 1) (q + 1):=by
 have hr:=h.r;have b0:=h.le0;have b1:=h.le1;have b2:=h.le2;have b3:=h.le3
 have lq:=num_lt hq (by omega)
 have lg:=run_ge (f:=Nm) (bs:=c.bs) (p:=q)
 obtain ⟨y0,y1,y2,y3,y4,y5,y6,y7,y8,y9,y10,y11,y12,y13,y14,y15,y16,y17,y18,y19,y20,y21,y22,y23,y24,y25,y26,y27,y28,y29,y30,y31⟩:=plain_dg h0
 go_enter Tryz.func63,Tryz.ntmps63
 go_wp2_with (first|(go_at_call 80;(with_reducible refine (peek0 (by assumption)).mono ?_);rintro e w1 ⟨rfl,hS⟩;have hr:=hS.r)|(go_at_call 58;(with_reducible refine (move _ (by assumption) (by omega) (by omega)).mono ?_);rintro e w1 ⟨rfl,hS⟩;have hr:=hS.r)|(go_at_call 82;(with_reducible refine (shift (by assumption) (by omega)).mono ?_);rintro e w1 ⟨rfl,hS⟩;have hr:=hS.r)|(go_at_call 86;(with_reducible refine (numeric_p (by assumption) (by assumption) (by assumption)).mono ?_);rintro e w1 ⟨rfl,hS⟩;have hr:=hS.r))
 go_ret2
 exact ⟨rfl,by assumption⟩
theorem next_dot_p (h : St w0 c w p p) (h0 : at_ c.bs p = 46) (hq : Num c.bs p q) (h1 : (at_ c.bs q == 37) = true) :
  Calls Tryz.prog 63 #[.pointer (some ⟨c.gl,0,none⟩)] w fun e w' => e = .returned (.tuple #[.int .u32 11,cut c p (q + 1)]) ∧ St w0 c w' (q + 1) (q + 1):=by
 have hr:=h.r;have b0:=h.le0;have b1:=h.le1;have b2:=h.le2;have b3:=h.le3
 have lq:=num_lt hq (by omega)
 have lg:=run_ge (f:=Nm) (bs:=c.bs) (p:=q)
 go_enter Tryz.func63,Tryz.ntmps63
 go_wp2_with (first|(go_at_call 80;(with_reducible refine (peek0 (by assumption)).mono ?_);rintro e w1 ⟨rfl,hS⟩;have hr:=hS.r)|(go_at_call 58;(with_reducible refine (move _ (by assumption) (by omega) (by omega)).mono ?_);rintro e w1 ⟨rfl,hS⟩;have hr:=hS.r)|(go_at_call 82;(with_reducible refine (shift (by assumption) (by omega)).mono ?_);rintro e w1 ⟨rfl,hS⟩;have hr:=hS.r)|(go_at_call 86;(with_reducible refine (numeric_p (by assumption) (by assumption) (by assumption)).mono ?_);rintro e w1 ⟨rfl,hS⟩;have hr:=hS.r))
 go_ret2
 exact ⟨rfl,by assumption⟩
theorem next_plus_p (h : St w0 c w p p) (h0 : at_ c.bs p = 43) (hq : Num c.bs p q) (h1 : (at_ c.bs q == 37) = true) :
  Calls Tryz.prog 63 #[.pointer (some ⟨c.gl,0,none⟩)] w fun e w' => e = .returned (.tuple #[.int .u32 11,cut c p (q + 1)]) ∧ St w0 c w' (q + 1) (q + 1):=by
 have hr:=h.r;have b0:=h.le0;have b1:=h.le1;have b2:=h.le2;have b3:=h.le3
 have lq:=num_lt hq (by omega)
 have lg:=run_ge (f:=Nm) (bs:=c.bs) (p:=q)
 go_enter Tryz.func63,Tryz.ntmps63
 go_wp2_with (first|(go_at_call 80;(with_reducible refine (peek0 (by assumption)).mono ?_);rintro e w1 ⟨rfl,hS⟩;have hr:=hS.r)|(go_at_call 58;(with_reducible refine (move _ (by assumption) (by omega) (by omega)).mono ?_);rintro e w1 ⟨rfl,hS⟩;have hr:=hS.r)|(go_at_call 82;(with_reducible refine (shift (by assumption) (by omega)).mono ?_);rintro e w1 ⟨rfl,hS⟩;have hr:=hS.r)|(go_at_call 86;(with_reducible refine (numeric_p (by assumption) (by assumption) (by assumption)).mono ?_);rintro e w1 ⟨rfl,hS⟩;have hr:=hS.r))
 go_ret2
 exact ⟨rfl,by assumption⟩
theorem next_min_p (h : St w0 c w p p) (h0 : at_ c.bs p = 45) (hq : Num c.bs p q) (h3 : NoIdt c.bs p) (h4 : (at_ c.bs (p + 1) == 45) = false) (h1 : (at_ c.bs q == 37) = true) :
  Calls Tryz.prog 63 #[.pointer (some ⟨c.gl,0,none⟩)] w fun e w' => e = .returned (.tuple #[.int .u32 11,cut c p (q + 1)]) ∧ St w0 c w' (q + 1) (q + 1):=by
 have hr:=h.r;have b0:=h.le0;have b1:=h.le1;have b2:=h.le2;have b3:=h.le3
 have lq:=num_lt hq (by omega)
 have lg:=run_ge (f:=Nm) (bs:=c.bs) (p:=q)
 go_enter Tryz.func63,Tryz.ntmps63
 go_wp2_with (first|(go_at_call 80;(with_reducible refine (peek0 (by assumption)).mono ?_);rintro e w1 ⟨rfl,hS⟩;have hr:=hS.r)|(go_at_call 58;(with_reducible refine (move _ (by assumption) (by omega) (by omega)).mono ?_);rintro e w1 ⟨rfl,hS⟩;have hr:=hS.r)|(go_at_call 82;(with_reducible refine (shift (by assumption) (by omega)).mono ?_);rintro e w1 ⟨rfl,hS⟩;have hr:=hS.r)|(go_at_call 87;(with_reducible refine (cdc_n (by assumption) (by assumption) (by assumption)).mono ?_);rintro e w1 ⟨rfl,hS⟩;have hr:=hS.r)|(go_at_call 88;(with_reducible refine (custom_n (by assumption) (by assumption) (by assumption)).mono ?_);rintro e w1 ⟨rfl,hS⟩;have hr:=hS.r)|(go_at_call 89;(with_reducible refine (like_no (by assumption) h3).mono ?_);rintro e w1 ⟨rfl,hS⟩;have hr:=hS.r)|(go_at_call 86;(with_reducible refine (numeric_p (by assumption) (by assumption) (by assumption)).mono ?_);rintro e w1 ⟨rfl,hS⟩;have hr:=hS.r))
 go_ret2
 exact ⟨rfl,by assumption⟩
theorem next_dig_d (h : St w0 c w p p) (h0 : Dg (at_ c.bs p)) (hq : Num c.bs p q) (h1 : (at_ c.bs q == 37) = false) (h2 : Idt c.bs q) :
  Calls Tryz.prog 63 #[.pointer (some ⟨c.gl,0,none⟩)] w fun e w' => e = .returned (.tuple #[.int .u32 12,cut c p (run Nm c.bs q)]) ∧ St w0 c w' (run Nm c.bs q) (run Nm c.bs q):=by
 have hr:=h.r;have b0:=h.le0;have b1:=h.le1;have b2:=h.le2;have b3:=h.le3
 have lq:=num_lt hq (by omega)
 have lg:=run_ge (f:=Nm) (bs:=c.bs) (p:=q)
 obtain ⟨y0,y1,y2,y3,y4,y5,y6,y7,y8,y9,y10,y11,y12,y13,y14,y15,y16,y17,y18,y19,y20,y21,y22,y23,y24,y25,y26,y27,y28,y29,y30,y31⟩:=plain_dg h0
 go_enter Tryz.func63,Tryz.ntmps63
 go_wp2_with (first|(go_at_call 80;(with_reducible refine (peek0 (by assumption)).mono ?_);rintro e w1 ⟨rfl,hS⟩;have hr:=hS.r)|(go_at_call 58;(with_reducible refine (move _ (by assumption) (by omega) (by omega)).mono ?_);rintro e w1 ⟨rfl,hS⟩;have hr:=hS.r)|(go_at_call 82;(with_reducible refine (shift (by assumption) (by omega)).mono ?_);rintro e w1 ⟨rfl,hS⟩;have hr:=hS.r)|(go_at_call 86;(with_reducible refine (numeric_d (by assumption) (by assumption) (by assumption) (by assumption)).mono ?_);rintro e w1 ⟨rfl,hS⟩;have hr:=hS.r))
 go_ret2
 exact ⟨rfl,by assumption⟩
theorem next_dot_d (h : St w0 c w p p) (h0 : at_ c.bs p = 46) (hq : Num c.bs p q) (h1 : (at_ c.bs q == 37) = false) (h2 : Idt c.bs q) :
  Calls Tryz.prog 63 #[.pointer (some ⟨c.gl,0,none⟩)] w fun e w' => e = .returned (.tuple #[.int .u32 12,cut c p (run Nm c.bs q)]) ∧ St w0 c w' (run Nm c.bs q) (run Nm c.bs q):=by
 have hr:=h.r;have b0:=h.le0;have b1:=h.le1;have b2:=h.le2;have b3:=h.le3
 have lq:=num_lt hq (by omega)
 have lg:=run_ge (f:=Nm) (bs:=c.bs) (p:=q)
 go_enter Tryz.func63,Tryz.ntmps63
 go_wp2_with (first|(go_at_call 80;(with_reducible refine (peek0 (by assumption)).mono ?_);rintro e w1 ⟨rfl,hS⟩;have hr:=hS.r)|(go_at_call 58;(with_reducible refine (move _ (by assumption) (by omega) (by omega)).mono ?_);rintro e w1 ⟨rfl,hS⟩;have hr:=hS.r)|(go_at_call 82;(with_reducible refine (shift (by assumption) (by omega)).mono ?_);rintro e w1 ⟨rfl,hS⟩;have hr:=hS.r)|(go_at_call 86;(with_reducible refine (numeric_d (by assumption) (by assumption) (by assumption) (by assumption)).mono ?_);rintro e w1 ⟨rfl,hS⟩;have hr:=hS.r))
 go_ret2
 exact ⟨rfl,by assumption⟩
theorem next_plus_d (h : St w0 c w p p) (h0 : at_ c.bs p = 43) (hq : Num c.bs p q) (h1 : (at_ c.bs q == 37) = false) (h2 : Idt c.bs q) :
  Calls Tryz.prog 63 #[.pointer (some ⟨c.gl,0,none⟩)] w fun e w' => e = .returned (.tuple #[.int .u32 12,cut c p (run Nm c.bs q)]) ∧ St w0 c w' (run Nm c.bs q) (run Nm c.bs q):=by
 have hr:=h.r;have b0:=h.le0;have b1:=h.le1;have b2:=h.le2;have b3:=h.le3
 have lq:=num_lt hq (by omega)
 have lg:=run_ge (f:=Nm) (bs:=c.bs) (p:=q)
 go_enter Tryz.func63,Tryz.ntmps63
 go_wp2_with (first|(go_at_call 80;(with_reducible refine (peek0 (by assumption)).mono ?_);rintro e w1 ⟨rfl,hS⟩;have hr:=hS.r)|(go_at_call 58;(with_reducible refine (move _ (by assumption) (by omega) (by omega)).mono ?_);rintro e w1 ⟨rfl,hS⟩;have hr:=hS.r)|(go_at_call 82;(with_reducible refine (shift (by assumption) (by omega)).mono ?_);rintro e w1 ⟨rfl,hS⟩;have hr:=hS.r)|(go_at_call 86;(with_reducible refine (numeric_d (by assumption) (by assumption) (by assumption) (by assumption)).mono ?_);rintro e w1 ⟨rfl,hS⟩;have hr:=hS.r))
 go_ret2
 exact ⟨rfl,by assumption⟩
theorem next_min_d (h : St w0 c w p p) (h0 : at_ c.bs p = 45) (hq : Num c.bs p q) (h3 : NoIdt c.bs p) (h4 : (at_ c.bs (p + 1) == 45) = false) (h1 : (at_ c.bs q == 37) = false) (h2 : Idt c.bs q) :
  Calls Tryz.prog 63 #[.pointer (some ⟨c.gl,0,none⟩)] w fun e w' => e = .returned (.tuple #[.int .u32 12,cut c p (run Nm c.bs q)]) ∧ St w0 c w' (run Nm c.bs q) (run Nm c.bs q):=by
 have hr:=h.r;have b0:=h.le0;have b1:=h.le1;have b2:=h.le2;have b3:=h.le3
 have lq:=num_lt hq (by omega)
 have lg:=run_ge (f:=Nm) (bs:=c.bs) (p:=q)
 go_enter Tryz.func63,Tryz.ntmps63
 go_wp2_with (first|(go_at_call 80;(with_reducible refine (peek0 (by assumption)).mono ?_);rintro e w1 ⟨rfl,hS⟩;have hr:=hS.r)|(go_at_call 58;(with_reducible refine (move _ (by assumption) (by omega) (by omega)).mono ?_);rintro e w1 ⟨rfl,hS⟩;have hr:=hS.r)|(go_at_call 82;(with_reducible refine (shift (by assumption) (by omega)).mono ?_);rintro e w1 ⟨rfl,hS⟩;have hr:=hS.r)|(go_at_call 87;(with_reducible refine (cdc_n (by assumption) (by assumption) (by assumption)).mono ?_);rintro e w1 ⟨rfl,hS⟩;have hr:=hS.r)|(go_at_call 88;(with_reducible refine (custom_n (by assumption) (by assumption) (by assumption)).mono ?_);rintro e w1 ⟨rfl,hS⟩;have hr:=hS.r)|(go_at_call 89;(with_reducible refine (like_no (by assumption) h3).mono ?_);rintro e w1 ⟨rfl,hS⟩;have hr:=hS.r)|(go_at_call 86;(with_reducible refine (numeric_d (by assumption) (by assumption) (by assumption) (by assumption)).mono ?_);rintro e w1 ⟨rfl,hS⟩;have hr:=hS.r))
 go_ret2
 exact ⟨rfl,by assumption⟩
theorem next_dig_n (h : St w0 c w p p) (h0 : Dg (at_ c.bs p)) (hq : Num c.bs p q) (h1 : (at_ c.bs q == 37) = false) (h2 : NoIdt c.bs q) :
  Calls Tryz.prog 63 #[.pointer (some ⟨c.gl,0,none⟩)] w fun e w' => e = .returned (.tuple #[.int .u32 10,cut c p q]) ∧ St w0 c w' q q:=by
 have hr:=h.r;have b0:=h.le0;have b1:=h.le1;have b2:=h.le2;have b3:=h.le3
 have lq:=num_lt hq (by omega)
 have lg:=run_ge (f:=Nm) (bs:=c.bs) (p:=q)
 obtain ⟨y0,y1,y2,y3,y4,y5,y6,y7,y8,y9,y10,y11,y12,y13,y14,y15,y16,y17,y18,y19,y20,y21,y22,y23,y24,y25,y26,y27,y28,y29,y30,y31⟩:=plain_dg h0
 go_enter Tryz.func63,Tryz.ntmps63
 go_wp2_with (first|(go_at_call 80;(with_reducible refine (peek0 (by assumption)).mono ?_);rintro e w1 ⟨rfl,hS⟩;have hr:=hS.r)|(go_at_call 58;(with_reducible refine (move _ (by assumption) (by omega) (by omega)).mono ?_);rintro e w1 ⟨rfl,hS⟩;have hr:=hS.r)|(go_at_call 82;(with_reducible refine (shift (by assumption) (by omega)).mono ?_);rintro e w1 ⟨rfl,hS⟩;have hr:=hS.r)|(go_at_call 86;(with_reducible refine (numeric_n (by assumption) (by assumption) (by assumption) (by assumption)).mono ?_);rintro e w1 ⟨rfl,hS⟩;have hr:=hS.r))
 go_ret2
 exact ⟨rfl,by assumption⟩
theorem next_dot_n (h : St w0 c w p p) (h0 : at_ c.bs p = 46) (hq : Num c.bs p q) (h1 : (at_ c.bs q == 37) = false) (h2 : NoIdt c.bs q) :
  Calls Tryz.prog 63 #[.pointer (some ⟨c.gl,0,none⟩)] w fun e w' => e = .returned (.tuple #[.int .u32 10,cut c p q]) ∧ St w0 c w' q q:=by
 have hr:=h.r;have b0:=h.le0;have b1:=h.le1;have b2:=h.le2;have b3:=h.le3
 have lq:=num_lt hq (by omega)
 have lg:=run_ge (f:=Nm) (bs:=c.bs) (p:=q)
 go_enter Tryz.func63,Tryz.ntmps63
 go_wp2_with (first|(go_at_call 80;(with_reducible refine (peek0 (by assumption)).mono ?_);rintro e w1 ⟨rfl,hS⟩;have hr:=hS.r)|(go_at_call 58;(with_reducible refine (move _ (by assumption) (by omega) (by omega)).mono ?_);rintro e w1 ⟨rfl,hS⟩;have hr:=hS.r)|(go_at_call 82;(with_reducible refine (shift (by assumption) (by omega)).mono ?_);rintro e w1 ⟨rfl,hS⟩;have hr:=hS.r)|(go_at_call 86;(with_reducible refine (numeric_n (by assumption) (by assumption) (by assumption) (by assumption)).mono ?_);rintro e w1 ⟨rfl,hS⟩;have hr:=hS.r))
 go_ret2
 exact ⟨rfl,by assumption⟩
theorem next_plus_n (h : St w0 c w p p) (h0 : at_ c.bs p = 43) (hq : Num c.bs p q) (h1 : (at_ c.bs q == 37) = false) (h2 : NoIdt c.bs q) :
  Calls Tryz.prog 63 #[.pointer (some ⟨c.gl,0,none⟩)] w fun e w' => e = .returned (.tuple #[.int .u32 10,cut c p q]) ∧ St w0 c w' q q:=by
 have hr:=h.r;have b0:=h.le0;have b1:=h.le1;have b2:=h.le2;have b3:=h.le3
 have lq:=num_lt hq (by omega)
 have lg:=run_ge (f:=Nm) (bs:=c.bs) (p:=q)
 go_enter Tryz.func63,Tryz.ntmps63
 go_wp2_with (first|(go_at_call 80;(with_reducible refine (peek0 (by assumption)).mono ?_);rintro e w1 ⟨rfl,hS⟩;have hr:=hS.r)|(go_at_call 58;(with_reducible refine (move _ (by assumption) (by omega) (by omega)).mono ?_);rintro e w1 ⟨rfl,hS⟩;have hr:=hS.r)|(go_at_call 82;(with_reducible refine (shift (by assumption) (by omega)).mono ?_);rintro e w1 ⟨rfl,hS⟩;have hr:=hS.r)|(go_at_call 86;(with_reducible refine (numeric_n (by assumption) (by assumption) (by assumption) (by assumption)).mono ?_);rintro e w1 ⟨rfl,hS⟩;have hr:=hS.r))
 go_ret2
 exact ⟨rfl,by assumption⟩
theorem next_min_n (h : St w0 c w p p) (h0 : at_ c.bs p = 45) (hq : Num c.bs p q) (h3 : NoIdt c.bs p) (h4 : (at_ c.bs (p + 1) == 45) = false) (h1 : (at_ c.bs q == 37) = false) (h2 : NoIdt c.bs q) :
  Calls Tryz.prog 63 #[.pointer (some ⟨c.gl,0,none⟩)] w fun e w' => e = .returned (.tuple #[.int .u32 10,cut c p q]) ∧ St w0 c w' q q:=by
 have hr:=h.r;have b0:=h.le0;have b1:=h.le1;have b2:=h.le2;have b3:=h.le3
 have lq:=num_lt hq (by omega)
 have lg:=run_ge (f:=Nm) (bs:=c.bs) (p:=q)
 go_enter Tryz.func63,Tryz.ntmps63
 go_wp2_with (first|(go_at_call 80;(with_reducible refine (peek0 (by assumption)).mono ?_);rintro e w1 ⟨rfl,hS⟩;have hr:=hS.r)|(go_at_call 58;(with_reducible refine (move _ (by assumption) (by omega) (by omega)).mono ?_);rintro e w1 ⟨rfl,hS⟩;have hr:=hS.r)|(go_at_call 82;(with_reducible refine (shift (by assumption) (by omega)).mono ?_);rintro e w1 ⟨rfl,hS⟩;have hr:=hS.r)|(go_at_call 87;(with_reducible refine (cdc_n (by assumption) (by assumption) (by assumption)).mono ?_);rintro e w1 ⟨rfl,hS⟩;have hr:=hS.r)|(go_at_call 88;(with_reducible refine (custom_n (by assumption) (by assumption) (by assumption)).mono ?_);rintro e w1 ⟨rfl,hS⟩;have hr:=hS.r)|(go_at_call 89;(with_reducible refine (like_no (by assumption) h3).mono ?_);rintro e w1 ⟨rfl,hS⟩;have hr:=hS.r)|(go_at_call 86;(with_reducible refine (numeric_n (by assumption) (by assumption) (by assumption) (by assumption)).mono ?_);rintro e w1 ⟨rfl,hS⟩;have hr:=hS.r))
 go_ret2
 exact ⟨rfl,by assumption⟩
end Go.Proofs.YtlglijnaeaonpaaGreatDoor.Lx
end
section
set_option maxHeartbeats 8000000
set_option maxRecDepth 100000
set_option linter.unusedVariables false
set_option linter.unusedSimpArgs false
namespace Go.Proofs.YtlglijnaeaonpaaGreatDoor.Lx
open Go.RowKit Go.Proofs.YtlglijnaeaonpaaGreatDoorW.PrintWords
variable {w0 w : World} {c : Cfg} {p s : Int}
variable {q : Int}
theorem next_st_id (h : St w0 c w p p) (hI : Idt c.bs p) (h0 : Sn (at_ c.bs p)) (hu1 : at_ c.bs p ≠ 117) (hu2 : at_ c.bs p ≠ 85) (h1 : (at_ c.bs (run Nm c.bs p) == 40) = false) :
  Calls Tryz.prog 63 #[.pointer (some ⟨c.gl,0,none⟩)] w fun e w' => e = .returned (.tuple #[.int .u32 1,cut c p (run Nm c.bs p)]) ∧ St w0 c w' (run Nm c.bs p) (run Nm c.bs p):=by
 have hr:=h.r;have b0:=h.le0;have b1:=h.le1;have b2:=h.le2;have b3:=h.le3
 have lq:=(idt_lt h hI).1
 have H0:=Aside0.mk hI
 clear hI
 have n86 : NoNum c.bs p:=⟨p,false,.inr (.inr ⟨rfl,by unfold Sn at h0;simp;omega,by unfold Sn at h0;simp;omega,rfl⟩),by unfold Sn at h0;unfold Dg;omega,.inl (by unfold Sn at h0;simp;omega)⟩
 obtain ⟨y0,y1,y2,y3,y4,y5,y6,y7,y8,y9,y10,y11,y12,y13,y14,y15,y16,y17,y18,y19,y20,y21,y22,y23,y24,y25,y26,y27,y28,y29,y30,y31⟩:=plain_sn h0 hu1 hu2
 clear hu1 hu2
 go_enter Tryz.func63,Tryz.ntmps63
 go_wp2_with (first|(go_at_call 80;(with_reducible refine (peek0 (by assumption)).mono ?_);rintro e w1 ⟨rfl,hS⟩;have hr:=hS.r)|(go_at_call 58;(with_reducible refine (move _ (by assumption) (by omega) (by omega)).mono ?_);rintro e w1 ⟨rfl,hS⟩;have hr:=hS.r)|(go_at_call 82;(with_reducible refine (shift (by assumption) (by omega)).mono ?_);rintro e w1 ⟨rfl,hS⟩;have hr:=hS.r)|(go_at_call 86;(with_reducible refine (numeric_e (by assumption) n86).mono ?_);rintro e w1 ⟨rfl,hS⟩;have hr:=hS.r)|(go_at_call 89;(with_reducible refine (like_id (by assumption) H0.out (by assumption)).mono ?_);rintro e w1 ⟨rfl,hS⟩;have hr:=hS.r))
 go_ret2
 exact ⟨rfl,by assumption⟩
theorem next_u_id (h : St w0 c w p p) (hI : Idt c.bs p) (h0 : at_ c.bs p = 117 ∨ at_ c.bs p = 85) (h3 : at_ c.bs (p + 1) = 43 → ¬ Hx (at_ c.bs (p + 2)) ∧ at_ c.bs (p + 2) ≠ 63) (h1 : (at_ c.bs (run Nm c.bs p) == 40) = false) :
  Calls Tryz.prog 63 #[.pointer (some ⟨c.gl,0,none⟩)] w fun e w' => e = .returned (.tuple #[.int .u32 1,cut c p (run Nm c.bs p)]) ∧ St w0 c w' (run Nm c.bs p) (run Nm c.bs p):=by
 have hr:=h.r;have b0:=h.le0;have b1:=h.le1;have b2:=h.le2;have b3:=h.le3
 have lq:=(idt_lt h hI).1
 have H0:=Aside0.mk hI
 have HU:=Aside0.mk h0
 have HR:=Aside0.mk h3
 clear hI h3
 rcases h0 with h0|h0
 all_goals
  go_enter Tryz.func63,Tryz.ntmps63
  go_wp2_with (first|(go_at_call 80;(with_reducible refine (peek0 (by assumption)).mono ?_);rintro e w1 ⟨rfl,hS⟩;have hr:=hS.r)|(go_at_call 58;(with_reducible refine (move _ (by assumption) (by omega) (by omega)).mono ?_);rintro e w1 ⟨rfl,hS⟩;have hr:=hS.r)|(go_at_call 82;(with_reducible refine (shift (by assumption) (by omega)).mono ?_);rintro e w1 ⟨rfl,hS⟩;have hr:=hS.r)|(go_at_call 94;(with_reducible refine (range_n (by assumption) HU.out HR.out).mono ?_);rintro e w1 ⟨rfl,hS⟩;have hr:=hS.r)|(go_at_call 89;(with_reducible refine (like_id (by assumption) H0.out (by assumption)).mono ?_);rintro e w1 ⟨rfl,hS⟩;have hr:=hS.r))
  go_ret2
  exact ⟨rfl,by assumption⟩
theorem next_hy_id (h : St w0 c w p p) (hI : Idt c.bs p) (h0 : at_ c.bs p = 45) (h4 : (at_ c.bs (p + 1) == 45) = false) (h1 : (at_ c.bs (run Nm c.bs p) == 40) = false) :
  Calls Tryz.prog 63 #[.pointer (some ⟨c.gl,0,none⟩)] w fun e w' => e = .returned (.tuple #[.int .u32 1,cut c p (run Nm c.bs p)]) ∧ St w0 c w' (run Nm c.bs p) (run Nm c.bs p):=by
 have hr:=h.r;have b0:=h.le0;have b1:=h.le1;have b2:=h.le2;have b3:=h.le3
 have lq:=(idt_lt h hI).1
 have H0:=Aside0.mk hI
 clear hI
 go_enter Tryz.func63,Tryz.ntmps63
 go_wp2_with (first|(go_at_call 80;(with_reducible refine (peek0 (by assumption)).mono ?_);rintro e w1 ⟨rfl,hS⟩;have hr:=hS.r)|(go_at_call 58;(with_reducible refine (move _ (by assumption) (by omega) (by omega)).mono ?_);rintro e w1 ⟨rfl,hS⟩;have hr:=hS.r)|(go_at_call 82;(with_reducible refine (shift (by assumption) (by omega)).mono ?_);rintro e w1 ⟨rfl,hS⟩;have hr:=hS.r)|(go_at_call 87;(with_reducible refine (cdc_n (by assumption) (by assumption) (by assumption)).mono ?_);rintro e w1 ⟨rfl,hS⟩;have hr:=hS.r)|(go_at_call 88;(with_reducible refine (custom_n (by assumption) (by assumption) (by assumption)).mono ?_);rintro e w1 ⟨rfl,hS⟩;have hr:=hS.r)|(go_at_call 89;(with_reducible refine (like_id (by assumption) H0.out (by assumption)).mono ?_);rintro e w1 ⟨rfl,hS⟩;have hr:=hS.r))
 go_ret2
 exact ⟨rfl,by assumption⟩
theorem next_st_fn (h : St w0 c w p p) (hI : Idt c.bs p) (h0 : Sn (at_ c.bs p)) (hu1 : at_ c.bs p ≠ 117) (hu2 : at_ c.bs p ≠ 85) (h1 : at_ c.bs (run Nm c.bs p) = 40) (h2 : ¬ IsUrl (seg c.bs p (run Nm c.bs p))) :
  Calls Tryz.prog 63 #[.pointer (some ⟨c.gl,0,none⟩)] w fun e w' => e = .returned (.tuple #[.int .u32 2,cut c p (run Nm c.bs p + 1)]) ∧ St w0 c w' (run Nm c.bs p + 1) (run Nm c.bs p + 1):=by
 have hr:=h.r;have b0:=h.le0;have b1:=h.le1;have b2:=h.le2;have b3:=h.le3
 have lq:=(idt_lt h hI).1
 have H0:=Aside0.mk hI
 have H1:=Aside0.mk h1
 have H2:=Aside0.mk h2
 clear h1 h2
 clear hI
 have n86 : NoNum c.bs p:=⟨p,false,.inr (.inr ⟨rfl,by unfold Sn at h0;simp;omega,by unfold Sn at h0;simp;omega,rfl⟩),by unfold Sn at h0;unfold Dg;omega,.inl (by unfold Sn at h0;simp;omega)⟩
 obtain ⟨y0,y1,y2,y3,y4,y5,y6,y7,y8,y9,y10,y11,y12,y13,y14,y15,y16,y17,y18,y19,y20,y21,y22,y23,y24,y25,y26,y27,y28,y29,y30,y31⟩:=plain_sn h0 hu1 hu2
 clear hu1 hu2
 go_enter Tryz.func63,Tryz.ntmps63
 go_wp2_with (first|(go_at_call 80;(with_reducible refine (peek0 (by assumption)).mono ?_);rintro e w1 ⟨rfl,hS⟩;have hr:=hS.r)|(go_at_call 58;(with_reducible refine (move _ (by assumption) (by omega) (by omega)).mono ?_);rintro e w1 ⟨rfl,hS⟩;have hr:=hS.r)|(go_at_call 82;(with_reducible refine (shift (by assumption) (by omega)).mono ?_);rintro e w1 ⟨rfl,hS⟩;have hr:=hS.r)|(go_at_call 86;(with_reducible refine (numeric_e (by assumption) n86).mono ?_);rintro e w1 ⟨rfl,hS⟩;have hr:=hS.r)|(go_at_call 89;(with_reducible refine (like_fn (by assumption) H0.out H1.out H2.out).mono ?_);rintro e w1 ⟨rfl,hS⟩;have hr:=hS.r))
 go_ret2
 exact ⟨rfl,by assumption⟩
theorem next_u_fn (h : St w0 c w p p) (hI : Idt c.bs p) (h0 : at_ c.bs p = 117 ∨ at_ c.bs p = 85) (h3 : at_ c.bs (p + 1) = 43 → ¬ Hx (at_ c.bs (p + 2)) ∧ at_ c.bs (p + 2) ≠ 63) (h1 : at_ c.bs (run Nm c.bs p) = 40) (h2 : ¬ IsUrl (seg c.bs p (run Nm c.bs p))) :
  Calls Tryz.prog 63 #[.pointer (some ⟨c.gl,0,none⟩)] w fun e w' => e = .returned (.tuple #[.int .u32 2,cut c p (run Nm c.bs p + 1)]) ∧ St w0 c w' (run Nm c.bs p + 1) (run Nm c.bs p + 1):=by
 have hr:=h.r;have b0:=h.le0;have b1:=h.le1;have b2:=h.le2;have b3:=h.le3
 have lq:=(idt_lt h hI).1
 have H0:=Aside0.mk hI
 have H1:=Aside0.mk h1
 have H2:=Aside0.mk h2
 clear h1 h2
 have HU:=Aside0.mk h0
 have HR:=Aside0.mk h3
 clear hI h3
 rcases h0 with h0|h0
 all_goals
  go_enter Tryz.func63,Tryz.ntmps63
  go_wp2_with (first|(go_at_call 80;(with_reducible refine (peek0 (by assumption)).mono ?_);rintro e w1 ⟨rfl,hS⟩;have hr:=hS.r)|(go_at_call 58;(with_reducible refine (move _ (by assumption) (by omega) (by omega)).mono ?_);rintro e w1 ⟨rfl,hS⟩;have hr:=hS.r)|(go_at_call 82;(with_reducible refine (shift (by assumption) (by omega)).mono ?_);rintro e w1 ⟨rfl,hS⟩;have hr:=hS.r)|(go_at_call 94;(with_reducible refine (range_n (by assumption) HU.out HR.out).mono ?_);rintro e w1 ⟨rfl,hS⟩;have hr:=hS.r)|(go_at_call 89;(with_reducible refine (like_fn (by assumption) H0.out H1.out H2.out).mono ?_);rintro e w1 ⟨rfl,hS⟩;have hr:=hS.r))
  go_ret2
  exact ⟨rfl,by assumption⟩
theorem next_hy_fn (h : St w0 c w p p) (hI : Idt c.bs p) (h0 : at_ c.bs p = 45) (h4 : (at_ c.bs (p + 1) == 45) = false) (h1 : at_ c.bs (run Nm c.bs p) = 40) (h2 : ¬ IsUrl (seg c.bs p (run Nm c.bs p))) :
  Calls Tryz.prog 63 #[.pointer (some ⟨c.gl,0,none⟩)] w fun e w' => e = .returned (.tuple #[.int .u32 2,cut c p (run Nm c.bs p + 1)]) ∧ St w0 c w' (run Nm c.bs p + 1) (run Nm c.bs p + 1):=by
 have hr:=h.r;have b0:=h.le0;have b1:=h.le1;have b2:=h.le2;have b3:=h.le3
 have lq:=(idt_lt h hI).1
 have H0:=Aside0.mk hI
 have H1:=Aside0.mk h1
 have H2:=Aside0.mk h2
 clear h1 h2
 clear hI
 go_enter Tryz.func63,Tryz.ntmps63
 go_wp2_with (first|(go_at_call 80;(with_reducible refine (peek0 (by assumption)).mono ?_);rintro e w1 ⟨rfl,hS⟩;have hr:=hS.r)|(go_at_call 58;(with_reducible refine (move _ (by assumption) (by omega) (by omega)).mono ?_);rintro e w1 ⟨rfl,hS⟩;have hr:=hS.r)|(go_at_call 82;(with_reducible refine (shift (by assumption) (by omega)).mono ?_);rintro e w1 ⟨rfl,hS⟩;have hr:=hS.r)|(go_at_call 87;(with_reducible refine (cdc_n (by assumption) (by assumption) (by assumption)).mono ?_);rintro e w1 ⟨rfl,hS⟩;have hr:=hS.r)|(go_at_call 88;(with_reducible refine (custom_n (by assumption) (by assumption) (by assumption)).mono ?_);rintro e w1 ⟨rfl,hS⟩;have hr:=hS.r)|(go_at_call 89;(with_reducible refine (like_fn (by assumption) H0.out H1.out H2.out).mono ?_);rintro e w1 ⟨rfl,hS⟩;have hr:=hS.r))
 go_ret2
 exact ⟨rfl,by assumption⟩
theorem next_st_url (h : St w0 c w p p) (hI : Idt c.bs p) (h0 : Sn (at_ c.bs p)) (hu1 : at_ c.bs p ≠ 117) (hu2 : at_ c.bs p ≠ 85) {e : Int} (he : p < e) (h1 : at_ c.bs (run Nm c.bs p) = 40) (h2 : IsUrl (seg c.bs p (run Nm c.bs p))) (hu : Urla c.bs (run Nm c.bs p + 1) e) :
  Calls Tryz.prog 63 #[.pointer (some ⟨c.gl,0,none⟩)] w fun en w' => en = .returned (.tuple #[.int .u32 7,cut c p e]) ∧ St w0 c w' e e:=by
 have hr:=h.r;have b0:=h.le0;have b1:=h.le1;have b2:=h.le2;have b3:=h.le3
 have lq:=(idt_lt h hI).1
 have H0:=Aside0.mk hI
 have H1:=Aside0.mk h1
 have H2:=Aside0.mk h2
 have H3:=Aside0.mk hu
 clear h1 h2 hu
 clear hI
 have n86 : NoNum c.bs p:=⟨p,false,.inr (.inr ⟨rfl,by unfold Sn at h0;simp;omega,by unfold Sn at h0;simp;omega,rfl⟩),by unfold Sn at h0;unfold Dg;omega,.inl (by unfold Sn at h0;simp;omega)⟩
 obtain ⟨y0,y1,y2,y3,y4,y5,y6,y7,y8,y9,y10,y11,y12,y13,y14,y15,y16,y17,y18,y19,y20,y21,y22,y23,y24,y25,y26,y27,y28,y29,y30,y31⟩:=plain_sn h0 hu1 hu2
 clear hu1 hu2
 go_enter Tryz.func63,Tryz.ntmps63
 go_wp2_with (first|(go_at_call 80;(with_reducible refine (peek0 (by assumption)).mono ?_);rintro e w1 ⟨rfl,hS⟩;have hr:=hS.r)|(go_at_call 58;(with_reducible refine (move _ (by assumption) (by omega) (by omega)).mono ?_);rintro e w1 ⟨rfl,hS⟩;have hr:=hS.r)|(go_at_call 82;(with_reducible refine (shift (by assumption) (by omega)).mono ?_);rintro e w1 ⟨rfl,hS⟩;have hr:=hS.r)|(go_at_call 86;(with_reducible refine (numeric_e (by assumption) n86).mono ?_);rintro e w1 ⟨rfl,hS⟩;have hr:=hS.r)|(go_at_call 89;(with_reducible refine (like_url (by assumption) H0.out H1.out H2.out H3.out).mono ?_);rintro e w1 ⟨rfl,hS⟩;have hr:=hS.r))
 go_ret2
 exact ⟨rfl,by assumption⟩
theorem next_u_url (h : St w0 c w p p) (hI : Idt c.bs p) (h0 : at_ c.bs p = 117 ∨ at_ c.bs p = 85) (h3 : at_ c.bs (p + 1) = 43 → ¬ Hx (at_ c.bs (p + 2)) ∧ at_ c.bs (p + 2) ≠ 63) {e : Int} (he : p < e) (h1 : at_ c.bs (run Nm c.bs p) = 40) (h2 : IsUrl (seg c.bs p (run Nm c.bs p))) (hu : Urla c.bs (run Nm c.bs p + 1) e) :
  Calls Tryz.prog 63 #[.pointer (some ⟨c.gl,0,none⟩)] w fun en w' => en = .returned (.tuple #[.int .u32 7,cut c p e]) ∧ St w0 c w' e e:=by
 have hr:=h.r;have b0:=h.le0;have b1:=h.le1;have b2:=h.le2;have b3:=h.le3
 have lq:=(idt_lt h hI).1
 have H0:=Aside0.mk hI
 have H1:=Aside0.mk h1
 have H2:=Aside0.mk h2
 have H3:=Aside0.mk hu
 clear h1 h2 hu
 have HU:=Aside0.mk h0
 have HR:=Aside0.mk h3
 clear hI h3
 rcases h0 with h0|h0
 all_goals
  go_enter Tryz.func63,Tryz.ntmps63
  go_wp2_with (first|(go_at_call 80;(with_reducible refine (peek0 (by assumption)).mono ?_);rintro e w1 ⟨rfl,hS⟩;have hr:=hS.r)|(go_at_call 58;(with_reducible refine (move _ (by assumption) (by omega) (by omega)).mono ?_);rintro e w1 ⟨rfl,hS⟩;have hr:=hS.r)|(go_at_call 82;(with_reducible refine (shift (by assumption) (by omega)).mono ?_);rintro e w1 ⟨rfl,hS⟩;have hr:=hS.r)|(go_at_call 94;(with_reducible refine (range_n (by assumption) HU.out HR.out).mono ?_);rintro e w1 ⟨rfl,hS⟩;have hr:=hS.r)|(go_at_call 89;(with_reducible refine (like_url (by assumption) H0.out H1.out H2.out H3.out).mono ?_);rintro e w1 ⟨rfl,hS⟩;have hr:=hS.r))
  go_ret2
  exact ⟨rfl,by assumption⟩
end Go.Proofs.YtlglijnaeaonpaaGreatDoor.Lx
end
section
set_option maxHeartbeats 8000000
set_option maxRecDepth 100000
set_option linter.unusedVariables false
set_option linter.unusedSimpArgs false
namespace Go.Proofs.YtlglijnaeaonpaaGreatDoor.Lx
open Go.RowKit Go.Proofs.YtlglijnaeaonpaaGreatDoorW.PrintWords
variable {w0 w : World} {c : Cfg} {p s : Int}
theorem peekErr (h : St w0 c w p s) (he : p + 1 = c.bs.length) :
  Calls Tryz.prog 102 #[.pointer (some ⟨c.gi,0,none⟩),.int .i64 0] w fun e w' => e = .returned c.eof ∧ St w0 c w' p s:=by
 have a0:=h.c0
 have a1:=h.c1
 have a3:=h.c3
 have ae:=h.eof
 have b0:=h.le0
 have b1:=h.le1
 have b2:=h.le2
 have b3:=h.le3
 have hd : decide ((c.bs.length : Int) - 1 ≤ p) = true:=by simp;omega
 clear he
 go_enter Tryz.func102,Tryz.ntmps102
 go_wp2
 go_quiet (fail)
 go_wp2
 go_ret
 exact ⟨rfl,h.drewN _⟩
theorem ierr (h : St w0 c w p s) (he : p + 1 = c.bs.length) :
  Calls Tryz.prog 65 #[.pointer (some ⟨c.gi,0,none⟩)] w fun e w' => e = .returned c.eof ∧ St w0 c w' p s:=by
 have HE:=Aside0.mk he
 clear he
 go_enter Tryz.func65,Tryz.ntmps65
 go_wp2_with (first|(go_at_call 102;(with_reducible refine (peekErr (by assumption) HE.out).mono ?_);rintro e w1 ⟨rfl,hS⟩;have hr:=hS.r))
 go_ret
 exact ⟨rfl,by assumption⟩
theorem lerr (h : St w0 c w p s) (he : p + 1 = c.bs.length) :
  Calls Tryz.prog 48 #[.pointer (some ⟨c.gl,0,none⟩)] w fun e w' => e = .returned c.eof ∧ St w0 c w' p s:=by
 have hr:=h.r;have b0:=h.le0;have b1:=h.le1;have b2:=h.le2;have b3:=h.le3
 have HE:=Aside0.mk he
 clear he
 go_enter Tryz.func48,Tryz.ntmps48
 go_wp2_with (first|(go_at_call 65;(with_reducible refine (ierr (by assumption) HE.out).mono ?_);rintro e w1 ⟨rfl,hS⟩;have hr:=hS.r))
 go_ret
 exact ⟨rfl,by assumption⟩
theorem next_end (h : St w0 c w p p) (he : p + 1 = c.bs.length) :
  Calls Tryz.prog 63 #[.pointer (some ⟨c.gl,0,none⟩)] w fun e w' => e = .returned (.tuple #[.int .u32 0,.slice none 0 0]) ∧ St w0 c w' p p:=by
 have hr:=h.r;have b0:=h.le0;have b1:=h.le1;have b2:=h.le2;have b3:=h.le3
 have hz : at_ c.bs p = 0:=by
  have:=h.ok.last
  unfold at_
  rwa [show p.toNat = c.bs.length - 1 by omega]
 have HE:=Aside0.mk he
 clear he
 go_enter Tryz.func63,Tryz.ntmps63
 go_wp2_with (first|(go_at_call 80;(with_reducible refine (peek0 (by assumption)).mono ?_);rintro e w1 ⟨rfl,hS⟩;have hr:=hS.r)|(go_at_call 65;(with_reducible refine (ierr (by assumption) HE.out).mono ?_);rintro e w1 ⟨rfl,hS⟩;have hr:=hS.r))
 go_ret2
 exact ⟨rfl,by assumption⟩
theorem next (h : St w0 c w p p) {k q : Int} (ht : Tok c.bs p k q) :
  Calls Tryz.prog 63 #[.pointer (some ⟨c.gl,0,none⟩)] w fun e w' => e = .returned (.tuple #[.int .u32 k,cut c p q]) ∧ St w0 c w' q q:=by
 cases ht with
 | ws h0 => exact next_ws h h0
 | colon h0 => exact next_colon h h0
 | semi h0 => exact next_semi h h0
 | comma h0 => exact next_comma h h0
 | bracket t h0 => exact next_bracket h _ h0
 | hash h0 h1 => exact next_hash h h0 h1
 | string r h0 h1 h2 ha h3 => exact next_string h h0 h1 h2 ha h3
 | atw h0 h1 => exact next_at h h0 h1
 | mat t h0 h1 => exact next_match h _ h0 h1
 | star h0 h1 => exact next_star h h0 h1
 | dot h0 h1 => exact next_dot h h0 h1
 | gt h0 =>
  refine next_gt h h0 ⟨p,false,.inr (.inr ⟨rfl,?_,?_,rfl⟩),?_,.inl ?_⟩ (.inl ⟨?_,?_⟩)
  ·rcases h0 with h0|h0 <;> rw [h0] <;> rfl
  ·rcases h0 with h0|h0 <;> rw [h0] <;> rfl
  ·rcases h0 with h0|h0 <;> rw [h0] <;> decide
  ·rcases h0 with h0|h0 <;> rw [h0] <;> rfl
  ·rcases h0 with h0|h0 <;> rw [h0] <;> decide
  ·rcases h0 with h0|h0 <;> rw [h0] <;> decide
 | num q' k' e' hn hu hf =>
  rcases hu with ⟨h1,rfl,rfl⟩|⟨h1,h2,rfl,rfl⟩|⟨h1,h2,rfl,rfl⟩
  ·rcases hf with hf|hf|hf|⟨hf,h3,h4⟩
   ·exact next_dig_p h hf hn h1
   ·exact next_dot_p h hf hn h1
   ·exact next_plus_p h hf hn h1
   ·exact next_min_p h hf hn h3 h4 h1
  ·rcases hf with hf|hf|hf|⟨hf,h3,h4⟩
   ·exact next_dig_d h hf hn h1 h2
   ·exact next_dot_d h hf hn h1 h2
   ·exact next_plus_d h hf hn h1 h2
   ·exact next_min_d h hf hn h3 h4 h1 h2
  ·rcases hf with hf|hf|hf|⟨hf,h3,h4⟩
   ·exact next_dig_n h hf hn h1 h2
   ·exact next_dot_n h hf hn h1 h2
   ·exact next_plus_n h hf hn h1 h2
   ·exact next_min_n h hf hn h3 h4 h1 h2
 | like k' e' hI hl hf hm =>
  by_cases hu : at_ c.bs p = 117 ∨ at_ c.bs p = 85
  ·rcases hl with ⟨h1,rfl,rfl⟩|⟨h1,h2,rfl,rfl⟩|⟨h1,h2,h3,h4,h5,rfl⟩
   ·exact next_u_id h hI hu (hf hu) h1
   ·exact next_u_fn h hI hu (hf hu) h1 h2
   ·exact next_u_url h hI hu (hf hu) h4 h1 h2 h3
  ·by_cases hy : at_ c.bs p = 45
   ·rcases hl with ⟨h1,rfl,rfl⟩|⟨h1,h2,rfl,rfl⟩|⟨h1,h2,h3,h4,h5,rfl⟩
    ·exact next_hy_id h hI hy (hm hy) h1
    ·exact next_hy_fn h hI hy (hm hy) h1 h2
    ·exact absurd hy h5
   ·have hs : Sn (at_ c.bs p):=by
     rcases hI with hI|⟨hI,_⟩
     ·exact hI
     ·exact absurd hI hy
    rcases hl with ⟨h1,rfl,rfl⟩|⟨h1,h2,rfl,rfl⟩|⟨h1,h2,h3,h4,h5,rfl⟩
    ·exact next_st_id h hI hs (fun e => hu (.inl e)) (fun e => hu (.inr e)) h1
    ·exact next_st_fn h hI hs (fun e => hu (.inl e)) (fun e => hu (.inr e)) h1 h2
    ·exact next_st_url h hI hs (fun e => hu (.inl e)) (fun e => hu (.inr e)) h4 h1 h2 h3
end Go.Proofs.YtlglijnaeaonpaaGreatDoor.Lx
end
