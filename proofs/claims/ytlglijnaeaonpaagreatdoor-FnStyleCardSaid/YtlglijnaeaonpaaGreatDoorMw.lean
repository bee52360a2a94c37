/- FnStyle: a part of the proof (Mw). -/
import Derived.Test.YtlglijnaeaonpaaGreatDoorMu
section
set_option maxHeartbeats 8000000
set_option maxRecDepth 100000
set_option linter.unusedVariables false
set_option linter.unusedSimpArgs false
namespace Go.Proofs.YtlglijnaeaonpaaGreatDoor.Lx
open Go.RowKit Go.Proofs.YtlglijnaeaonpaaGreatDoorW.PrintWords Go.Proofs.YtlglijnaeaonpaaGreatDoor.PFnStyle
theorem own_cells6 {w : World} {B n : Nat} {v : Value} {vs : List Value} (h : w.ownsRow B 55 6 v n vs) {j : Nat} (hj : j < n) : ∃ ad cap,v = .slice (some ad) n cap ∧ n ≤ cap ∧ ∀ i u,i < 6 → vs[j * 6 + i]? = some u → w.cell? (ad.add (j * 6 + i)) = some u:=by
 rcases h.2 with ⟨rfl,h0⟩|⟨g,cap,cur,rfl,hg,hh,hn,hm,hsz,htk⟩
 ·omega
 ·refine ⟨⟨g,0,none⟩,cap,rfl,hn,fun i u hi hu => ?_⟩
  have hadd : (⟨g,0,none⟩ : Addr).add (j * 6 + i) = ⟨g,j * 6 + i,none⟩:=by unfold Addr.add;split <;> simp_all
  rw [hadd,blk_cell hh]
  rw [← htk,List.getElem?_take] at hu
  split at hu
  ·simpa using hu
  ·cases hu
theorem same_q {w : World} {A0 A1 : Option Addr} {c0 c1 : Nat} {l : List Int} (hr0 : Kd.C (Kd.int .u8) w A0 l.length l) (hr1 : Kd.C (Kd.int .u8) w A1 l.length l) :
  Calls Tryz.prog 25 #[.slice A0 l.length c0,.slice A1 l.length c1] w fun e w' => e = .returned (.bool true) ∧ ∃ m,w' = w.drewN m:=by
 have HR0:=Aside0.mk hr0
 have HR1:=Aside0.mk hr1
 clear hr0 hr1
 have hcv3:=Kd.C_string (P:=Tryz.prog) (A:=A0) (c:=c0) Tryz.underlying24 Tryz.underlying5 Tryz.underlying9 HR0.out
 have hcv4:=Kd.C_string (P:=Tryz.prog) (A:=A1) (c:=c1) Tryz.underlying24 Tryz.underlying5 Tryz.underlying9 HR1.out
 go_enter Tryz.func25,Tryz.ntmps25
 go_wp2
 go_ret
 exact ⟨by first|rfl|(simp;done)|(simp [*];done),⟨0,rfl⟩⟩
theorem rd_C {w : World} {A : Option Addr} {n c : Nat} {xs : List Int} (h : Rd w (.slice A n c) xs) : n = xs.length ∧ Kd.C (Kd.int .u8) w A xs.length xs:=by
 obtain ⟨A1,n1,c1,e,h1,h2,h3⟩:=h
 injection e with e1 e2 e3
 subst e1;subst e2;subst e3
 refine ⟨h1.symm,rfl,by omega,fun hp => ?_⟩
 obtain ⟨g,o,cs,fr,rfl,hg,hc⟩:=h3 (by omega)
 refine ⟨_,rfl,fun j p hj => ⟨[.int .u8 p],rfl,rfl,fun i u hu => ?_⟩⟩
 have hi : i = 0:=by
  rcases i with _|i
  ·rfl
  ·simp at hu
 subst hi
 simp at hu
 subst hu
 have hjl:=(List.getElem?_eq_some_iff.1 hj).1
 have hadd : (⟨g,o,none⟩ : Addr).add (j * (Kd.int .u8).sz + 0) = ⟨g,o + j,none⟩:=by
  show (⟨g,o,none⟩ : Addr).add (j * 1 + 0) = _
  unfold Addr.add;split <;> simp_all
 rw [hadd,cell_of_row w g (o + j) cs 5 fr hg,hc j (by omega),List.getD_eq_getElem?_getD,hj]
 rfl
theorem Pcs.at {B : Nat} {w : World} {v : Value} {ps : List Pc} (h : Pcs B w v ps) {j : Int} (h0 : 0 ≤ j) (h1 : j < ps.length) :
  ∃ ad cap p A1 c1 A2 c2,v = .slice (some ad) ps.length cap ∧ ps[j.toNat]? = some p ∧ w.cell? (ad.add (j.toNat * 6)) = some (.string p.kind) ∧ w.cell? ⟨(ad.add (j.toNat * 6)).block,(ad.add (j.toNat * 6)).off + 1,none⟩ = some (.slice A1 p.data.length c1) ∧ w.cell? ⟨(ad.add (j.toNat * 6)).block,(ad.add (j.toNat * 6)).off + 2,none⟩ = some (.slice A2 p.text.length c2) ∧ w.cell? ⟨(ad.add (j.toNat * 6)).block,(ad.add (j.toNat * 6)).off + 3,none⟩ = some (.slice none 0 0) ∧ w.cell? ⟨(ad.add (j.toNat * 6)).block,(ad.add (j.toNat * 6)).off + 4,none⟩ = some (.slice none 0 0) ∧ w.cell? ⟨(ad.add (j.toNat * 6)).block,(ad.add (j.toNat * 6)).off + 5,none⟩ = some (.string ⟨#[]⟩) ∧ Kd.C (Kd.int .u8) w A1 p.data.length p.data ∧ Kd.C (Kd.int .u8) w A2 p.text.length p.text:=by
 obtain ⟨vs,ho,hc⟩:=h
 have hl : j.toNat < ps.length:=by omega
 obtain ⟨dv,tv,d1,d2,d3,e3,e4,e5,d4,d5⟩:=hc j.toNat _ (List.getElem?_eq_getElem hl)
 obtain ⟨ad,cap,rfl,hcap,hcell⟩:=own_cells6 ho hl
 obtain ⟨A1,n1,c1,rfl,-,-,-⟩:=id d4
 obtain ⟨A2,n2,c2,rfl,-,-,-⟩:=id d5
 obtain ⟨q1,k1⟩:=rd_C d4
 obtain ⟨q2,k2⟩:=rd_C d5
 subst q1;subst q2
 have hvl : vs.length = ps.length * 6:=ho.1
 refine ⟨ad,cap,_,A1,c1,A2,c2,rfl,List.getElem?_eq_getElem hl,hcell 0 _ (by omega) d1,?_,?_,?_,?_,?_,k1,k2⟩
 ·rw [← add_field _ _ 1 (by omega)];exact hcell 1 _ (by omega) d2
 ·rw [← add_field _ _ 2 (by omega)];exact hcell 2 _ (by omega) d3
 ·rw [← add_field _ _ 3 (by omega)];exact hcell 3 _ (by omega) e3
 ·rw [← add_field _ _ 4 (by omega)];exact hcell 4 _ (by omega) e4
 ·rw [← add_field _ _ 5 (by omega)];exact hcell 5 _ (by omega) e5
theorem PcsS.at {wq w : World} {v : Value} {ps : List Pc} (h : PcsS wq w v ps) (hb : Below wq.heap.size wq w) {j : Int} (h0 : 0 ≤ j) (h1 : j < ps.length) :
  ∃ ad cap p A1 c1 A2 c2,v = .slice (some ad) ps.length cap ∧ ps[j.toNat]? = some p ∧ w.cell? (ad.add (j.toNat * 6)) = some (.string p.kind) ∧ w.cell? ⟨(ad.add (j.toNat * 6)).block,(ad.add (j.toNat * 6)).off + 1,none⟩ = some (.slice A1 p.data.length c1) ∧ w.cell? ⟨(ad.add (j.toNat * 6)).block,(ad.add (j.toNat * 6)).off + 2,none⟩ = some (.slice A2 p.text.length c2) ∧ Kd.C (Kd.int .u8) w A1 p.data.length p.data ∧ Kd.C (Kd.int .u8) w A2 p.text.length p.text:=by
 obtain ⟨vs,ho,hc⟩:=h
 have hl : j.toNat < ps.length:=by omega
 obtain ⟨A1,c1,tv,d1,d2,d3,d4,d5,d6,d7,d8,d9⟩:=hc j.toNat _ (List.getElem?_eq_getElem hl)
 obtain ⟨ad,cap,rfl,hcap,hcell⟩:=own_cells6 ho hl
 obtain ⟨A2,n2,c2,rfl,-,-,-⟩:=id d9
 obtain ⟨e2,k2⟩:=rd_C d9
 subst e2
 refine ⟨ad,cap,_,A1,c1,A2,c2,rfl,List.getElem?_eq_getElem hl,hcell 0 _ (by omega) d1,?_,?_,Kd.C_below d8 hb,k2⟩
 ·rw [← add_field _ _ 1 (by omega)];exact hcell 1 _ (by omega) d2
 ·rw [← add_field _ _ 2 (by omega)];exact hcell 2 _ (by omega) d3
def kDcl : ByteArray:=⟨#[100,101,99,108,97,114,97,116,105,111,110]⟩
theorem isEnd_dcl : spec_isEnd.f kDcl = some false:=by first|kernel_rfl|(simp [spec_isEnd.f,kDcl];done)
theorem SameParts_true {B : Nat} {wq w : World} {va vb : Value} {ps : List Pc} (ha : Pcs B w va ps) (hb : PcsS wq w vb ps) (hbq : Below wq.heap.size wq w) (hk : ∀ p ∈ ps,p.kind = kDcl) (hl : ps.length ≤ 1000000) :
  Calls Tryz.prog 8 #[va,vb] w fun e w' => e = .returned (.bool true) ∧ Below w.heap.size w w':=by
 obtain ⟨Ab,cb,rfl⟩:=hb.slice
 obtain ⟨Aa,ca,rfl⟩ : ∃ A c,va = .slice A ps.length c:=by
  obtain ⟨vs,ho,-⟩:=ha
  obtain ⟨A,c,e⟩:=own_slice ho
  exact ⟨A,c,e⟩
 have HA:=Aside0.mk (And.intro ha (And.intro hb (And.intro hbq hk)))
 clear ha hb hbq hk
 go_enter Tryz.func8,Tryz.ntmps8
 go_wp2
 go_loopg [14] (ps.length + 1) (fun gk v14 wr => ∃ j : Int,v14 = .int .i64 j ∧ 0 ≤ j ∧ j ≤ ps.length ∧ Aside0 (Below w.heap.size w wr) ∧ gk = ((ps.length : Int) - j).toNat + 1)
 case atStart => exact ⟨0,rfl,by omega,by omega,⟨Below.refl _ _⟩,by omega⟩
 case round =>
  obtain ⟨j,rfl,h0,h1,HR,rfl⟩:=hrel
  by_cases hj : j < ps.length
  ·obtain ⟨ad,cap,p,A1,c1,A2,c2,e,hp,x0,x1,x2,x3,x4,x5,k1,k2⟩:=HA.out.1.at h0 hj
   injection e with e1 e2 e3
   subst e1;subst e3;clear e2
   obtain ⟨bd,bcap,p',B1,d1,B2,d2,e,hp',z0,z1,z2,l1,l2⟩:=HA.out.2.1.at HA.out.2.2.1 h0 hj
   injection e with e1 e2 e3
   subst e1;subst e3;clear e2
   obtain rfl : p' = p:=by rw [hp] at hp';injection hp' with hp';exact hp'.symm
   have hkd:=HA.out.2.2.2 _ (List.mem_of_getElem? hp)
   rw [hkd] at x0 z0
   have HC:=Aside0.mk (And.intro k1 (And.intro k2 (And.intro l1 l2)))
   clear hp hp' hkd k1 k2 l1 l2
   replace x0:=pw_cell_below HR.out x0
   replace x1:=pw_cell_below HR.out x1
   replace x2:=pw_cell_below HR.out x2
   replace x3:=pw_cell_below HR.out x3
   replace x4:=pw_cell_below HR.out x4
   replace x5:=pw_cell_below HR.out x5
   have hB5 : Below w.heap.size w (wr.alloc (.cells #[.string kDcl,.slice A1 p'.data.length c1,.slice A2 p'.text.length c2,.slice none 0 0,.slice none 0 0,.string ⟨#[]⟩] 55)):=below_alloc HR.out _
   replace z0:=pw_cell_below hB5 z0
   replace z1:=pw_cell_below hB5 z1
   replace z2:=pw_cell_below hB5 z2
   have HB5:=Aside0.mk hB5
   have hjt:=eq_true h0
   clear hB5
   have hnew:=heap_alloc_new wr (.cells #[.string kDcl,.slice A1 p'.data.length c1,.slice A2 p'.text.length c2,.slice none 0 0,.slice none 0 0,.string ⟨#[]⟩] 55)
   have y0 : (wr.alloc (.cells #[.string kDcl,.slice A1 p'.data.length c1,.slice A2 p'.text.length c2,.slice none 0 0,.slice none 0 0,.string ⟨#[]⟩] 55)).cell? ⟨wr.heap.size,0,none⟩ = some (.string kDcl):=by rw [blk_cell hnew];rfl
   have y1 : (wr.alloc (.cells #[.string kDcl,.slice A1 p'.data.length c1,.slice A2 p'.text.length c2,.slice none 0 0,.slice none 0 0,.string ⟨#[]⟩] 55)).cell? ⟨wr.heap.size,1,none⟩ = some (.slice A1 p'.data.length c1):=by rw [blk_cell hnew];rfl
   have y2 : (wr.alloc (.cells #[.string kDcl,.slice A1 p'.data.length c1,.slice A2 p'.text.length c2,.slice none 0 0,.slice none 0 0,.string ⟨#[]⟩] 55)).cell? ⟨wr.heap.size,2,none⟩ = some (.slice A2 p'.text.length c2):=by rw [blk_cell hnew];rfl
   clear hnew
   have hq : ∀ n,Below w.heap.size w ((wr.alloc (.cells #[.string kDcl,.slice A1 p'.data.length c1,.slice A2 p'.text.length c2,.slice none 0 0,.slice none 0 0,.string ⟨#[]⟩] 55)).drewN n):=fun n => pw_below_drewN HB5.out n
   have s1 : ∀ n,Calls Tryz.prog 25 #[.slice A1 p'.data.length c1,.slice B1 p'.data.length d1] ((wr.alloc (.cells #[.string kDcl,.slice A1 p'.data.length c1,.slice A2 p'.text.length c2,.slice none 0 0,.slice none 0 0,.string ⟨#[]⟩] 55)).drewN n) fun e w' => e = .returned (.bool true) ∧ ∃ m,w' = ((wr.alloc (.cells #[.string kDcl,.slice A1 p'.data.length c1,.slice A2 p'.text.length c2,.slice none 0 0,.slice none 0 0,.string ⟨#[]⟩] 55)).drewN n).drewN m:=fun n => same_q (Kd.C_below HC.out.1 (hq n)) (Kd.C_below HC.out.2.2.1 (hq n))
   have s2 : ∀ n,Calls Tryz.prog 25 #[.slice A2 p'.text.length c2,.slice B2 p'.text.length d2] ((wr.alloc (.cells #[.string kDcl,.slice A1 p'.data.length c1,.slice A2 p'.text.length c2,.slice none 0 0,.slice none 0 0,.string ⟨#[]⟩] 55)).drewN n) fun e w' => e = .returned (.bool true) ∧ ∃ m,w' = ((wr.alloc (.cells #[.string kDcl,.slice A1 p'.data.length c1,.slice A2 p'.text.length c2,.slice none 0 0,.slice none 0 0,.string ⟨#[]⟩] 55)).drewN n).drewN m:=fun n => same_q (Kd.C_below HC.out.2.1 (hq n)) (Kd.C_below HC.out.2.2.2 (hq n))
   have s3 : ∀ n,Calls Tryz.prog 26 #[.string kDcl] ((wr.alloc (.cells #[.string kDcl,.slice A1 p'.data.length c1,.slice A2 p'.text.length c2,.slice none 0 0,.slice none 0 0,.string ⟨#[]⟩] 55)).drewN n) fun e w' => e = .returned (.bool false) ∧ ∃ m,w' = ((wr.alloc (.cells #[.string kDcl,.slice A1 p'.data.length c1,.slice A2 p'.text.length c2,.slice none 0 0,.slice none 0 0,.string ⟨#[]⟩] 55)).drewN n).drewN m:=fun n => (spec_isEnd.calls kDcl false _ isEnd_dcl).mono fun e w' ⟨he,hn⟩ => ⟨he,hn.out⟩
   have S:=Aside0.mk (And.intro s1 (And.intro s2 s3))
   clear hq s1 s2 s3
   by_cases hdl : 0 < p'.data.length
   ·have hdz : (p'.data.length : Int) > 0:=by omega
    go_upto_region 6 with (fail)
    go_quiet (first
     | (go_at_call 25;exact Calls.quiet_of (S.out.1 _))
     | (go_at_call 25;exact Calls.quiet_of (S.out.2.1 _))
     | (go_at_call 26;exact Calls.quiet_of (S.out.2.2 _)))
    rename_i nq
    go_wp2_with fail
    go_roundg (((ps.length : Int) - (j + 1)).toNat + 1)
    case measure => omega
    case rel => exact ⟨j + 1,rfl,by omega,by omega,⟨pw_below_drewN HB5.out nq⟩,rfl⟩
   ·have hdz : ¬ (p'.data.length : Int) > 0:=by omega
    go_upto_region 6 with (fail)
    go_quiet (first
     | (go_at_call 25;exact Calls.quiet_of (S.out.1 _))
     | (go_at_call 25;exact Calls.quiet_of (S.out.2.1 _))
     | (go_at_call 26;exact Calls.quiet_of (S.out.2.2 _)))
    rename_i nq
    go_wp2_with fail
    go_roundg (((ps.length : Int) - (j + 1)).toNat + 1)
    case measure => omega
    case rel => exact ⟨j + 1,rfl,by omega,by omega,⟨pw_below_drewN HB5.out nq⟩,rfl⟩
  ·have hje : j = ps.length:=by omega
   subst hje
   go_wp2
   go_ret
   exact ⟨rfl,HR.out⟩
end Go.Proofs.YtlglijnaeaonpaaGreatDoor.Lx
end
