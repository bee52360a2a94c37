/- FnStyle: a part of the proof (Mo). -/
import Derived.Test.YtlglijnaeaonpaaGreatDoorMk
import Derived.Deep.DeepBigQuietO
import Derived.Deep.DeepMust
import Derived.Deep.CutBlock
import Derived.Test.YtlglijnaeaonpaaGreatDoorMn
import Derived.ArgAppend
section
set_option maxHeartbeats 8000000
set_option maxRecDepth 100000
set_option linter.unusedVariables false
set_option linter.unusedSimpArgs false
namespace Go.Proofs.YtlglijnaeaonpaaGreatDoor.Lx
open Go.RowKit Go.Proofs.YtlglijnaeaonpaaGreatDoorW.PrintWords Go.Proofs.YtlglijnaeaonpaaGreatDoor.PFnStyle
def TabU (w : World) : Prop:=(∀ x : Nat,x < 256 → ∃ v : Nat,v < 256 ∧ w.cell? ⟨2,x,none⟩ = some (.int .u8 v)) ∧
 (∀ j : Nat,j < 16 → ∃ lo hi : Int,w.cell? ⟨3,j * 2,none⟩ = some (.int .u8 lo) ∧ w.cell? ⟨3,j * 2 + 1,none⟩ = some (.int .u8 hi))
theorem TabU.below {w w' : World} (h : TabU w) (hb : Below w.heap.size w w') : TabU w':=by
 refine ⟨fun x hx => ?_,fun j hj => ?_⟩
 ·obtain ⟨v,h1,h2⟩:=h.1 x hx
  exact ⟨v,h1,pw_cell_below hb h2⟩
 ·obtain ⟨lo,hi,h1,h2⟩:=h.2 j hj
  exact ⟨lo,hi,pw_cell_below hb h1,pw_cell_below hb h2⟩
structure VB (w : World) (A : Option Addr) (c : Nat) (t : List Int) : Prop where
 cap : t.length ≤ c
 rd : Kd.C (Kd.int .u8) w A t.length t
 by_ : ∀ j : Nat,0 ≤ t.getD j 0 ∧ t.getD j 0 ≤ 255
 len : t.length ≤ 2147483647
theorem VB.below {w w' : World} {A : Option Addr} {c : Nat} {t : List Int} (h : VB w A c t) (hb : Below w.heap.size w w') : VB w' A c t:=⟨h.cap,Kd.C_below h.rd hb,h.by_,h.len⟩
theorem VB.drop {w : World} {A : Option Addr} {c : Nat} {t : List Int} (h : VB w A c t) (lo : Nat) (hlo : lo ≤ t.length) :
  ∃ A1 c1,VB w A1 c1 (t.drop lo) ∧ ∀ W : World,(Instr.slice 24 (.slice A t.length c) (some (.int .i64 (lo : Int))) none none).run Tryz.prog W = .ok (.slice A1 (t.drop lo).length c1) W:=by
 obtain ⟨i0,hi0,hzz⟩:=Option.map_eq_some_iff.1 info5
 simp only [Prod.mk.injEq] at hzz
 refine ⟨_,c - lo,⟨by have:=h.cap;rw [List.length_drop];omega,Kd.C_drop (c:=c) h.rd hlo h.cap,fun j => ?_,by have:=h.len;rw [List.length_drop];omega⟩,fun W => ?_⟩
 ·rw [List.getD_eq_getElem?_getD,List.getElem?_drop,← List.getD_eq_getElem?_getD];exact h.by_ _
 ·have hel : Tryz.prog.elem 24 = 5:=by simp [Program.elem,Tryz.underlying24]
  have hu : Tryz.prog.underlying 24 = some (.slice (Tryz.prog.elem 24)):=by rw [hel];exact Tryz.underlying24
  rw [run_slice_l W 24 A t.length c hu .i64 (lo : Int) (by omega) (by omega),hel]
  simp [sizeOf,typeInfo,hi0,hzz.2.1,sliced,Result.andThen,show (Kd.int .u8).sz = 1 from rfl]
theorem VB.cells {w : World} {A : Option Addr} {c : Nat} {t : List Int} (h : VB w A c t) (hp : 0 < t.length) : ∃ ad : Addr,A = some ad ∧ ∀ j : Nat,j < t.length → w.cell? (ad.add j) = some (.int .u8 (t.getD j 0)):=by
 obtain ⟨ad,e,hc⟩:=h.rd.2.2 hp
 refine ⟨ad,e,fun j hj => ?_⟩
 obtain ⟨cs,h1,h2,h3⟩:=hc j (t.getD j 0) (by rw [List.getD_eq_getElem?_getD,List.getElem?_eq_getElem hj];rfl)
 have h2 : cs = [.int .u8 (t.getD j 0)]:=h2
 have:=h3 0 (.int .u8 (t.getD j 0)) (by rw [h2];rfl)
 rwa [show (Kd.int .u8).sz = 1 from rfl,Nat.mul_one,Nat.add_zero] at this
theorem VB.word {w : World} {A : Option Addr} {c : Nat} {t : List Int} (h : VB w A c t) (hp : 8 ≤ t.length) : ∃ v,∀ W,Below w.heap.size w W → Calls Tryz.prog 133 #[.slice A t.length c] W fun e w' => e = .returned (.int .u64 v) ∧ ∃ q,w' = W.drewN q:=by
 obtain ⟨v,hv⟩ : ∃ v,utf8_word_byte.f t = some v:=by
  unfold utf8_word_byte.f
  rw [if_pos (by omega),if_pos (by omega),if_pos (by omega),if_pos (by omega),if_pos (by omega),if_pos (by omega),if_pos (by omega),if_pos (by omega)]
  exact ⟨_,rfl⟩
 exact ⟨v,fun W hW => (utf8_word_byte.calls A c t v W (Kd.C_below h.rd hW) h.cap hv).mono fun e w' ⟨he,hn⟩ => ⟨he,hn.out⟩⟩
theorem and7' : ∀ X : Fin 256,bits .and .u8 ((X.val : Nat) : Int) 7 = ((X.val % 8 : Nat) : Int):=by decide
theorem below_drewNv' {B : Nat} {a w : World} (h : Below B a w) : ∀ q,Below B a (w.drewN q):=fun q => pw_below_drewN h q
theorem lit188 (l : List Value) (hl : l.length = 188) : ∃ f : Nat → Value,(∀ i,l.getD i default = f i) ∧ l = f 0 :: f 1 :: f 2 :: f 3 :: f 4 :: f 5 :: f 6 :: f 7 :: f 8 :: f 9 :: f 10 :: f 11 :: f 12 :: f 13 :: f 14 :: f 15 :: f 16 :: f 17 :: f 18 :: f 19 :: f 20 :: f 21 :: f 22 :: f 23 :: f 24 :: f 25 :: f 26 :: f 27 :: f 28 :: f 29 :: f 30 :: f 31 :: f 32 :: f 33 :: f 34 :: f 35 :: f 36 :: f 37 :: f 38 :: f 39 :: f 40 :: f 41 :: f 42 :: f 43 :: f 44 :: f 45 :: f 46 :: f 47 :: f 48 :: f 49 :: f 50 :: f 51 :: f 52 :: f 53 :: f 54 :: f 55 :: f 56 :: f 57 :: f 58 :: f 59 :: f 60 :: f 61 :: f 62 :: f 63 :: f 64 :: f 65 :: f 66 :: f 67 :: f 68 :: f 69 :: f 70 :: f 71 :: f 72 :: f 73 :: f 74 :: f 75 :: f 76 :: f 77 :: f 78 :: f 79 :: f 80 :: f 81 :: f 82 :: f 83 :: f 84 :: f 85 :: f 86 :: f 87 :: f 88 :: f 89 :: f 90 :: f 91 :: f 92 :: f 93 :: f 94 :: f 95 :: f 96 :: f 97 :: f 98 :: f 99 :: f 100 :: f 101 :: f 102 :: f 103 :: f 104 :: f 105 :: f 106 :: f 107 :: f 108 :: f 109 :: f 110 :: f 111 :: f 112 :: f 113 :: f 114 :: f 115 :: f 116 :: f 117 :: f 118 :: f 119 :: f 120 :: f 121 :: f 122 :: f 123 :: f 124 :: f 125 :: f 126 :: f 127 :: f 128 :: f 129 :: f 130 :: f 131 :: f 132 :: f 133 :: f 134 :: f 135 :: f 136 :: f 137 :: f 138 :: f 139 :: f 140 :: f 141 :: f 142 :: f 143 :: f 144 :: f 145 :: f 146 :: f 147 :: f 148 :: f 149 :: f 150 :: f 151 :: f 152 :: f 153 :: f 154 :: f 155 :: f 156 :: f 157 :: f 158 :: f 159 :: f 160 :: f 161 :: f 162 :: f 163 :: f 164 :: f 165 :: f 166 :: f 167 :: f 168 :: f 169 :: f 170 :: f 171 :: f 172 :: f 173 :: f 174 :: f 175 :: f 176 :: f 177 :: f 178 :: f 179 :: f 180 :: f 181 :: f 182 :: f 183 :: f 184 :: f 185 :: f 186 :: f 187 :: []:=by
 refine ⟨fun i => l.getD i default,fun _ => rfl,?_⟩
 conv => lhs;rw [list_lit l,hl]
 kernel_rfl
noncomputable def vb : Code:=(Tryz.f103.body.bind firstLoop).getD .skip
def VI (w : World) (l : List Value) (wr : World) (t : List Int) : Prop:=l.length = 188 ∧ ∃ At ct,l.getD 0 default = .slice At t.length ct ∧ VB w At ct t ∧ Below w.heap.size w wr
section
variable {w wr : World} {l : List Value} {t : List Int} {J : Act → World → Prop} {Q : Exit → Act → World → Prop}
theorem vAsc (h : VI w l wr t) (h0 : 0 < t.length) (hasc0 : t.getD 0 0 < 128) (hJ : ∀ l2 w2 t2,VI w l2 w2 t2 → t2.length < t.length → J ⟨l2.toArray,[]⟩ w2) :
  Code.wp Tryz.prog vb (Exit.then J Q) ⟨l.toArray,[]⟩ wr:=by
 obtain ⟨hl188,At,ct,hs0,hvb,hbw⟩:=h
 have hts:=hvb.len
 obtain ⟨f,hf,rfl⟩:=lit188 l hl188
 rw [hf] at hs0
 rw [hs0]
 have HJ:=Aside0.mk hJ
 clear hf hl188 hs0 hJ
 have h0z : (0 : Int) < (t.length : Int):=by omega
 obtain ⟨ad,rfl,hcell⟩:=(hvb.below hbw).cells h0
 have hx0b:=hvb.by_ 0
 obtain ⟨x0,hx0⟩ : ∃ x0 : Nat,t.getD 0 0 = (x0 : Int):=⟨(t.getD 0 0).toNat,by omega⟩
 have hx0lt : x0 < 256:=by omega
 have hc0:=hcell 0 h0
 rw [hx0] at hc0
 have hc0' : wr.cell? ad = some (.int .u8 (x0 : Int)):=by rw [← hc0];simp [Addr.add]
 have HVB:=Aside0.mk hvb
 have HCE:=Aside0.mk hcell
 clear hvb hcell hx0b
 have hasc : x0 < 128:=by omega
 clear hasc0 hx0
 conv => arg 2;whnf
 have hascz : ((x0 : Int) < 128):=by omega
 obtain ⟨A1,c1,hv1,hs1⟩:=HVB.out.drop 1 (by omega)
 obtain ⟨t1,ht1⟩ : ∃ t1,t.drop 1 = t1:=⟨_,rfl⟩
 rw [ht1] at hv1 hs1
 have hl1 : t1.length + 1 = t.length:=by rw [← ht1,List.length_drop];omega
 have hs1' : ∀ W : World,(Instr.slice 24 (.slice (some ad) t.length ct) (some (.int .i64 1)) none none).run Tryz.prog W = .ok (.slice A1 t1.length c1) W:=hs1
 have HV1:=Aside0.mk hv1
 clear hs1 hv1 ht1
 by_cases c8 : 8 < t1.length
 ·have c8z : (8 : Int) < (t1.length : Int):=by omega
  obtain ⟨v1,cW1⟩:=HV1.out.word (by omega)
  obtain ⟨A2,c2,hv2,hs2⟩:=HV1.out.drop 8 (by omega)
  obtain ⟨t2,ht2⟩ : ∃ t2,t1.drop 8 = t2:=⟨_,rfl⟩
  rw [ht2] at hv2 hs2
  have hl2 : t2.length + 8 = t1.length:=by rw [← ht2,List.length_drop];omega
  have hs2' : ∀ W : World,(Instr.slice 24 (.slice A1 t1.length c1) (some (.int .i64 8)) none none).run Tryz.prog W = .ok (.slice A2 t2.length c2) W:=hs2
  have HV2:=Aside0.mk hv2
  have CW1:=Aside0.mk cW1
  clear hs2 hv2 ht2 cW1
  obtain ⟨Z1,hZ1⟩ : ∃ Z1,bits .and .u64 v1 9259542123273814144 = Z1:=⟨_,rfl⟩
  by_cases hz1 : Z1 = 0
  ·have hz1b : (Z1 == 0) = true:=by simp [hz1]
   clear hz1
   go_wp2_with (go_at_call 133;((with_reducible refine (CW1.out _ hbw).mono ?_);rintro e W1 ⟨rfl,q1,rfl⟩))
   have hb1 : Below w.heap.size w (wr.drewN q1):=below_drewNv' hbw q1
   generalize wr.drewN q1 = wq at hb1 ⊢
   clear hbw hc0 hc0' hs1'
   by_cases c16 : 16 < t2.length
   ·have c16z : (16 : Int) < (t2.length : Int):=by omega
    obtain ⟨v2,cW2⟩:=HV2.out.word (by omega)
    obtain ⟨A3,c3,hv3,hs3⟩:=HV2.out.drop 8 (by omega)
    obtain ⟨t3,ht3⟩ : ∃ t3,t2.drop 8 = t3:=⟨_,rfl⟩
    rw [ht3] at hv3 hs3
    have hl3 : t3.length + 8 = t2.length:=by rw [← ht3,List.length_drop];omega
    have hs3' : ∀ W : World,(Instr.slice 24 (.slice A2 t2.length c2) (some (.int .i64 8)) none none).run Tryz.prog W = .ok (.slice A3 t3.length c3) W:=hs3
    obtain ⟨v3,cW3⟩:=hv3.word (by omega)
    obtain ⟨A4,c4,hv4,hs4⟩:=HV2.out.drop 16 (by omega)
    obtain ⟨t4,ht4⟩ : ∃ t4,t2.drop 16 = t4:=⟨_,rfl⟩
    rw [ht4] at hv4 hs4
    have hl4 : t4.length + 16 = t2.length:=by rw [← ht4,List.length_drop];omega
    have hs4' : ∀ W : World,(Instr.slice 24 (.slice A2 t2.length c2) (some (.int .i64 16)) none none).run Tryz.prog W = .ok (.slice A4 t4.length c4) W:=hs4
    have HV4:=Aside0.mk hv4
    have cw2:=cW2 wq hb1
    have cw3:=cW3
    have CW2:=Aside0.mk cW2
    have CW3:=Aside0.mk cW3
    clear hs3 hv3 ht3 cW2 cW3 hs4 hv4 ht4 cw2 cw3
    obtain ⟨Z2,hZ2⟩ : ∃ Z2,bits .and .u64 (bits .or .u64 v2 v3) 9259542123273814144 = Z2:=⟨_,rfl⟩
    have hb1s:=hb1.size
    have qq2 : ∀ W,Below w.heap.size w W → Calls Tryz.prog 133 #[.slice A2 t2.length c2] W fun e w' => e = .returned (.int .u64 v2) ∧ ∃ q,w' = W.drewN q:=CW2.out
    have Q2:=Aside0.mk qq2
    have Q3:=Aside0.mk CW3.out
    clear qq2
    by_cases hz2 : Z2 = 0
    ·have hz2b : (Z2 == 0) = true:=by simp [hz2]
     clear hz2
     go_quiet ((first|(go_at_call 133;(with_reducible refine Calls.quiet_of (Q2.out _ ?_));(first|exact hb1|exact below_drewNv' hb1 _))|(go_at_call 133;(with_reducible refine Calls.quiet_of (Q3.out _ ?_));(first|exact hb1|exact below_drewNv' hb1 _))))
     have hb2 : Below w.heap.size w (wq.drewN nq):=below_drewNv' hb1 nq
     generalize wq.drewN nq = wq2 at hb2 ⊢
     clear Q2 Q3 CW2 CW3 CW1 hb1 hb1s  hs3' hs2'
     go_wp2
     clear hs4'
     go_loopg [0] (t4.length + 1) (fun g2 s0 wx => Below w.heap.size w wx ∧ ∃ (u : List Int) (Au : Option Addr) (cu : Nat),s0 = .slice Au u.length cu ∧ Aside0 (VB w Au cu u) ∧ u.length < g2 ∧ u.length ≤ t4.length)
     case atStart => exact ⟨hb2,t4,_,_,rfl,HV4,by omega,Nat.le_refl _⟩
     case round =>
      obtain ⟨hbu,u,Au,cu,rfl,HU,hgu,hut⟩:=hrel
      by_cases c32 : 32 < u.length
      ·obtain ⟨g3,rfl⟩ : ∃ g3,gk = g3 + 1:=⟨gk - 1,by omega⟩
       have c32z : (32 : Int) < (u.length : Int):=by omega
       obtain ⟨Ab,cb,hv_ub,hs_ub⟩:=HU.out.drop 8 (by omega)
       obtain ⟨ub,ht_ub⟩ : ∃ x,u.drop 8 = x:=⟨_,rfl⟩
       rw [ht_ub] at hv_ub hs_ub
       have hl_ub : ub.length + 8 = u.length:=by rw [← ht_ub,List.length_drop];omega
       have hsx_ub : ∀ W : World,(Instr.slice 24 (.slice Au u.length cu) (some (.int .i64 8)) none none).run Tryz.prog W = .ok (.slice Ab ub.length cb) W:=hs_ub
       have HV_ub:=Aside0.mk hv_ub
       clear hs_ub hv_ub ht_ub
       obtain ⟨Ac,cc,hv_uc,hs_uc⟩:=HU.out.drop 16 (by omega)
       obtain ⟨uc,ht_uc⟩ : ∃ x,u.drop 16 = x:=⟨_,rfl⟩
       rw [ht_uc] at hv_uc hs_uc
       have hl_uc : uc.length + 16 = u.length:=by rw [← ht_uc,List.length_drop];omega
       have hsx_uc : ∀ W : World,(Instr.slice 24 (.slice Au u.length cu) (some (.int .i64 16)) none none).run Tryz.prog W = .ok (.slice Ac uc.length cc) W:=hs_uc
       have HV_uc:=Aside0.mk hv_uc
       clear hs_uc hv_uc ht_uc
       obtain ⟨Ad,cd,hv_ud,hs_ud⟩:=HU.out.drop 24 (by omega)
       obtain ⟨ud,ht_ud⟩ : ∃ x,u.drop 24 = x:=⟨_,rfl⟩
       rw [ht_ud] at hv_ud hs_ud
       have hl_ud : ud.length + 24 = u.length:=by rw [← ht_ud,List.length_drop];omega
       have hsx_ud : ∀ W : World,(Instr.slice 24 (.slice Au u.length cu) (some (.int .i64 24)) none none).run Tryz.prog W = .ok (.slice Ad ud.length cd) W:=hs_ud
       have HV_ud:=Aside0.mk hv_ud
       clear hs_ud hv_ud ht_ud
       obtain ⟨Ae,ce,hv_ue,hs_ue⟩:=HU.out.drop 32 (by omega)
       obtain ⟨ue,ht_ue⟩ : ∃ x,u.drop 32 = x:=⟨_,rfl⟩
       rw [ht_ue] at hv_ue hs_ue
       have hl_ue : ue.length + 32 = u.length:=by rw [← ht_ue,List.length_drop];omega
       have hsx_ue : ∀ W : World,(Instr.slice 24 (.slice Au u.length cu) (some (.int .i64 32)) none none).run Tryz.prog W = .ok (.slice Ae ue.length ce) W:=hs_ue
       have HV_ue:=Aside0.mk hv_ue
       clear hs_ue hv_ue ht_ue
       obtain ⟨b0,cB0⟩:=HU.out.word (by omega)
       obtain ⟨b1,cB1⟩:=HV_ub.out.word (by omega)
       obtain ⟨b2,cB2⟩:=HV_uc.out.word (by omega)
       obtain ⟨b3,cB3⟩:=HV_ud.out.word (by omega)
       have B0:=Aside0.mk cB0
       have B1:=Aside0.mk cB1
       have B2:=Aside0.mk cB2
       have B3:=Aside0.mk cB3
       clear cB0 cB1 cB2 cB3
       obtain ⟨Z3,hZ3⟩ : ∃ Z3,bits .and .u64 (bits .or .u64 (bits .or .u64 b0 b1) (bits .or .u64 b2 b3)) 9259542123273814144 = Z3:=⟨_,rfl⟩
       by_cases hz3 : Z3 = 0
       ·have hz3b : (Z3 == 0) = true:=by simp [hz3]
        clear hz3
        go_wp2_with fail
        go_quiet ((first|(go_at_call 133;(with_reducible refine Calls.quiet_of (B0.out _ ?_));(first|exact hbu|exact below_drewNv' hbu _))|(go_at_call 133;(with_reducible refine Calls.quiet_of (B1.out _ ?_));(first|exact hbu|exact below_drewNv' hbu _))|(go_at_call 133;(with_reducible refine Calls.quiet_of (B2.out _ ?_));(first|exact hbu|exact below_drewNv' hbu _))|(go_at_call 133;(with_reducible refine Calls.quiet_of (B3.out _ ?_));(first|exact hbu|exact below_drewNv' hbu _))))
        go_wp2
        go_roundg g3
        case measure => omega
        case rel => exact ⟨below_drewNv' hbu nq,ue,_,_,rfl,HV_ue,by omega,by omega⟩
       ·have hz3b : (Z3 == 0) = false:=by simp [hz3]
        clear hz3
        go_wp2_with fail
        go_quiet ((first|(go_at_call 133;(with_reducible refine Calls.quiet_of (B0.out _ ?_));(first|exact hbu|exact below_drewNv' hbu _))|(go_at_call 133;(with_reducible refine Calls.quiet_of (B1.out _ ?_));(first|exact hbu|exact below_drewNv' hbu _))|(go_at_call 133;(with_reducible refine Calls.quiet_of (B2.out _ ?_));(first|exact hbu|exact below_drewNv' hbu _))|(go_at_call 133;(with_reducible refine Calls.quiet_of (B3.out _ ?_));(first|exact hbu|exact below_drewNv' hbu _))))
        go_wp2
        exact HJ.out _ _ u ⟨by kernel_rfl,_,_,rfl,HU.out,below_drewNv' hbu nq⟩ (by omega)
      ·have c32z : ¬ ((32 : Int) < (u.length : Int)):=by omega
       have c32b : decide ((32 : Int) < (u.length : Int)) = false:=decide_eq_false c32z
       go_wp2_with fail
       go_quiet (fail)
       go_wp2
       exact HJ.out _ _ u ⟨by kernel_rfl,_,_,rfl,HU.out,below_drewNv' hbu nq⟩ (by omega)
    ·have hz2b : (Z2 == 0) = false:=by simp [hz2]
     clear hz2
     go_quiet ((first|(go_at_call 133;(with_reducible refine Calls.quiet_of (Q2.out _ ?_));(first|exact hb1|exact below_drewNv' hb1 _))|(go_at_call 133;(with_reducible refine Calls.quiet_of (Q3.out _ ?_));(first|exact hb1|exact below_drewNv' hb1 _))))
     go_wp2
     exact HJ.out _ _ t2 ⟨by kernel_rfl,_,_,rfl,HV2.out,below_drewNv' hb1 nq⟩ (by omega)
   ·have c16z : ¬ ((16 : Int) < (t2.length : Int)):=by omega
    have c16b : decide ((16 : Int) < (t2.length : Int)) = false:=decide_eq_false c16z
    go_quiet (fail)
    go_wp2
    exact HJ.out _ _ t2 ⟨by kernel_rfl,_,_,rfl,HV2.out,below_drewNv' hb1 nq⟩ (by omega)
  ·have hz1b : (Z1 == 0) = false:=by simp [hz1]
   clear hz1
   go_wp2_with (go_at_call 133;((with_reducible refine (CW1.out _ hbw).mono ?_);rintro e W1 ⟨rfl,q1,rfl⟩))
   exact HJ.out _ _ t1 ⟨by kernel_rfl,_,_,rfl,HV1.out,below_drewNv' hbw q1⟩ (by omega)
 ·have c8z : ¬ ((8 : Int) < (t1.length : Int)):=by omega
  go_wp2
  exact HJ.out _ _ t1 ⟨by kernel_rfl,_,_,rfl,HV1.out,hbw⟩ (by omega)
theorem vLead2 (h : VI w l wr t) (h0 : 0 < t.length) (hT : TabU w) (X : Nat) (hcX0 : w.cell? ⟨2,(t.getD 0 0).toNat,none⟩ = some (.int .u8 X)) (hXlt : X < 256) (hs : X % 8 = 2) (hasc0 : 128 ≤ t.getD 0 0) (hJ : ∀ l2 w2 t2,VI w l2 w2 t2 → t2.length < t.length → J ⟨l2.toArray,[]⟩ w2) (hR : ∀ (l2 : List Value) w2,l2.length = 188 → l2.getD 2 default = .bool false → Below w.heap.size w w2 → Q .ret ⟨l2.toArray,[]⟩ w2) :
  Code.wp Tryz.prog vb (Exit.then J Q) ⟨l.toArray,[]⟩ wr:=by
 obtain ⟨hl188,At,ct,hs0,hvb,hbw⟩:=h
 have hts:=hvb.len
 obtain ⟨f,hf,rfl⟩:=lit188 l hl188
 rw [hf] at hs0
 rw [hs0]
 have HJ:=Aside0.mk hJ
 clear hf hl188 hs0 hJ
 have h0z : (0 : Int) < (t.length : Int):=by omega
 obtain ⟨ad,rfl,hcell⟩:=(hvb.below hbw).cells h0
 have hx0b:=hvb.by_ 0
 obtain ⟨x0,hx0⟩ : ∃ x0 : Nat,t.getD 0 0 = (x0 : Int):=⟨(t.getD 0 0).toNat,by omega⟩
 have hx0lt : x0 < 256:=by omega
 have hc0:=hcell 0 h0
 rw [hx0] at hc0
 have hc0' : wr.cell? ad = some (.int .u8 (x0 : Int)):=by rw [← hc0];simp [Addr.add]
 have HVB:=Aside0.mk hvb
 have HCE:=Aside0.mk hcell
 clear hvb hcell hx0b
 have hasc : ¬ x0 < 128:=by omega
 have HT:=Aside0.mk hT
 have HR:=Aside0.mk hR
 have hcX : wr.cell? ⟨2,x0,none⟩ = some (.int .u8 X):=by rw [hx0] at hcX0;exact pw_cell_below hbw hcX0
 clear hasc0 hx0 hR hT hcX0
 conv => arg 2;whnf
 have hascz : ¬ ((x0 : Int) < 128):=by omega
 have h7:=and7' ⟨X,hXlt⟩
 simp only at h7
 obtain ⟨LO,HI,ha0,ha1⟩:=(HT.out.below hbw).2 (X / 16) (by omega)
 have hba : Below wr.heap.size wr (wr.alloc (.cells #[.int .u8 LO,.int .u8 HI] 146)):=below_alloc (Below.refl _ _) _
 have hbz : Below w.heap.size w (wr.alloc (.cells #[.int .u8 LO,.int .u8 HI] 146)):=below_alloc hbw _
 have HBZ:=Aside0.mk hbz
 have HBA:=Aside0.mk hba
 clear hba hbz
 obtain ⟨x1,hx1⟩ : ∃ x,t.getD 1 0 = x:=⟨_,rfl⟩
 obtain ⟨x2,hx2⟩ : ∃ x,t.getD 2 0 = x:=⟨_,rfl⟩
 obtain ⟨x3,hx3⟩ : ∃ x,t.getD 3 0 = x:=⟨_,rfl⟩
 have HX:=Aside0.mk (And.intro hx1 (And.intro hx2 hx3))
 clear hx1 hx2 hx3
 have hSZz : (X : Int) % 8 = 2:=by omega
 clear hs
 go_upto_region 18 with fail
 clear hc0 hc0' hcX ha0 ha1 h7
 have HCA : Aside0 (∀ j : Nat,j < t.length → (wr.alloc (.cells #[.int .u8 LO,.int .u8 HI] 146)).cell? (ad.add j) = some (.int .u8 (t.getD j 0))):=Aside0.mk fun j hj => pw_cell_below HBA.out (HCE.out j hj)
 have hlo : (wr.alloc (.cells #[.int .u8 LO,.int .u8 HI] 146)).cell? ⟨wr.heap.size,0,none⟩ = some (.int .u8 LO):=by rw [blk_cell (heap_alloc_new wr _)];rfl
 have hhi : (wr.alloc (.cells #[.int .u8 LO,.int .u8 HI] 146)).cell? ⟨wr.heap.size,1,none⟩ = some (.int .u8 HI):=by rw [blk_cell (heap_alloc_new wr _)];rfl
 generalize wr.alloc (.cells #[.int .u8 LO,.int .u8 HI] 146) = W at *
 by_cases q0 : t.length < 2
 ·have z0 : (t.length : Int) < 2:=by omega
  go_quiet (fail)
  go_wp2
  exact HR.out _ _ (by kernel_rfl) rfl (below_drewNv' HBZ.out _)
 ·have z0 : ¬ ((t.length : Int) < 2):=by omega
  have hp1 : W.cell? ⟨ad.block,ad.off + 1,none⟩ = some (.int .u8 x1):=by rw [← HX.out.1];exact HCA.out 1 (by omega)
  have hq1 : (1 : Int) < (t.length : Int):=by omega
  by_cases q1 : x1 < LO
  ·have z1 : x1 < LO:=by omega
   go_quiet (fail)
   go_wp2
   exact HR.out _ _ (by kernel_rfl) rfl (below_drewNv' HBZ.out _)
  ·have z1 : ¬ (x1 < LO):=by omega
   by_cases q2 : HI < x1
   ·have z2 : HI < x1:=by omega
    go_quiet (fail)
    go_wp2
    exact HR.out _ _ (by kernel_rfl) rfl (below_drewNv' HBZ.out _)
   ·have z2 : ¬ (HI < x1):=by omega
    obtain ⟨An,cn,hvn,hsn⟩:=HVB.out.drop 2 (by omega)
    obtain ⟨tn,htn⟩ : ∃ x,t.drop 2 = x:=⟨_,rfl⟩
    rw [htn] at hvn hsn
    have hln : tn.length + 2 = t.length:=by rw [← htn,List.length_drop];omega
    have hsx : ∀ W : World,(Instr.slice 24 (.slice (some ad) t.length ct) (some (.int .i64 2)) none none).run Tryz.prog W = .ok (.slice An tn.length cn) W:=hsn
    have HVN:=Aside0.mk hvn
    clear hsn hvn htn
    go_quiet (fail)
    go_wp2
    exact HJ.out _ _ tn ⟨by kernel_rfl,_,_,rfl,HVN.out,below_drewNv' HBZ.out nq⟩ (by omega)
theorem vLead3 (h : VI w l wr t) (h0 : 0 < t.length) (hT : TabU w) (X : Nat) (hcX0 : w.cell? ⟨2,(t.getD 0 0).toNat,none⟩ = some (.int .u8 X)) (hXlt : X < 256) (hs : X % 8 = 3) (hasc0 : 128 ≤ t.getD 0 0) (hJ : ∀ l2 w2 t2,VI w l2 w2 t2 → t2.length < t.length → J ⟨l2.toArray,[]⟩ w2) (hR : ∀ (l2 : List Value) w2,l2.length = 188 → l2.getD 2 default = .bool false → Below w.heap.size w w2 → Q .ret ⟨l2.toArray,[]⟩ w2) :
  Code.wp Tryz.prog vb (Exit.then J Q) ⟨l.toArray,[]⟩ wr:=by
 obtain ⟨hl188,At,ct,hs0,hvb,hbw⟩:=h
 have hts:=hvb.len
 obtain ⟨f,hf,rfl⟩:=lit188 l hl188
 rw [hf] at hs0
 rw [hs0]
 have HJ:=Aside0.mk hJ
 clear hf hl188 hs0 hJ
 have h0z : (0 : Int) < (t.length : Int):=by omega
 obtain ⟨ad,rfl,hcell⟩:=(hvb.below hbw).cells h0
 have hx0b:=hvb.by_ 0
 obtain ⟨x0,hx0⟩ : ∃ x0 : Nat,t.getD 0 0 = (x0 : Int):=⟨(t.getD 0 0).toNat,by omega⟩
 have hx0lt : x0 < 256:=by omega
 have hc0:=hcell 0 h0
 rw [hx0] at hc0
 have hc0' : wr.cell? ad = some (.int .u8 (x0 : Int)):=by rw [← hc0];simp [Addr.add]
 have HVB:=Aside0.mk hvb
 have HCE:=Aside0.mk hcell
 clear hvb hcell hx0b
 have hasc : ¬ x0 < 128:=by omega
 have HT:=Aside0.mk hT
 have HR:=Aside0.mk hR
 have hcX : wr.cell? ⟨2,x0,none⟩ = some (.int .u8 X):=by rw [hx0] at hcX0;exact pw_cell_below hbw hcX0
 clear hasc0 hx0 hR hT hcX0
 conv => arg 2;whnf
 have hascz : ¬ ((x0 : Int) < 128):=by omega
 have h7:=and7' ⟨X,hXlt⟩
 simp only at h7
 obtain ⟨LO,HI,ha0,ha1⟩:=(HT.out.below hbw).2 (X / 16) (by omega)
 have hba : Below wr.heap.size wr (wr.alloc (.cells #[.int .u8 LO,.int .u8 HI] 146)):=below_alloc (Below.refl _ _) _
 have hbz : Below w.heap.size w (wr.alloc (.cells #[.int .u8 LO,.int .u8 HI] 146)):=below_alloc hbw _
 have HBZ:=Aside0.mk hbz
 have HBA:=Aside0.mk hba
 clear hba hbz
 obtain ⟨x1,hx1⟩ : ∃ x,t.getD 1 0 = x:=⟨_,rfl⟩
 obtain ⟨x2,hx2⟩ : ∃ x,t.getD 2 0 = x:=⟨_,rfl⟩
 obtain ⟨x3,hx3⟩ : ∃ x,t.getD 3 0 = x:=⟨_,rfl⟩
 have HX:=Aside0.mk (And.intro hx1 (And.intro hx2 hx3))
 clear hx1 hx2 hx3
 have hSZz : (X : Int) % 8 = 3:=by omega
 clear hs
 go_upto_region 22 with fail
 clear hc0 hc0' hcX ha0 ha1 h7
 have HCA : Aside0 (∀ j : Nat,j < t.length → (wr.alloc (.cells #[.int .u8 LO,.int .u8 HI] 146)).cell? (ad.add j) = some (.int .u8 (t.getD j 0))):=Aside0.mk fun j hj => pw_cell_below HBA.out (HCE.out j hj)
 have hlo : (wr.alloc (.cells #[.int .u8 LO,.int .u8 HI] 146)).cell? ⟨wr.heap.size,0,none⟩ = some (.int .u8 LO):=by rw [blk_cell (heap_alloc_new wr _)];rfl
 have hhi : (wr.alloc (.cells #[.int .u8 LO,.int .u8 HI] 146)).cell? ⟨wr.heap.size,1,none⟩ = some (.int .u8 HI):=by rw [blk_cell (heap_alloc_new wr _)];rfl
 generalize wr.alloc (.cells #[.int .u8 LO,.int .u8 HI] 146) = W at *
 by_cases q0 : t.length < 3
 ·have z0 : (t.length : Int) < 3:=by omega
  go_quiet (fail)
  go_wp2
  exact HR.out _ _ (by kernel_rfl) rfl (below_drewNv' HBZ.out _)
 ·have z0 : ¬ ((t.length : Int) < 3):=by omega
  have hp1 : W.cell? ⟨ad.block,ad.off + 1,none⟩ = some (.int .u8 x1):=by rw [← HX.out.1];exact HCA.out 1 (by omega)
  have hq1 : (1 : Int) < (t.length : Int):=by omega
  have hp2 : W.cell? ⟨ad.block,ad.off + 2,none⟩ = some (.int .u8 x2):=by rw [← HX.out.2.1];exact HCA.out 2 (by omega)
  have hq2 : (2 : Int) < (t.length : Int):=by omega
  by_cases q1 : x1 < LO
  ·have z1 : x1 < LO:=by omega
   go_quiet (fail)
   go_wp2
   exact HR.out _ _ (by kernel_rfl) rfl (below_drewNv' HBZ.out _)
  ·have z1 : ¬ (x1 < LO):=by omega
   by_cases q2 : HI < x1
   ·have z2 : HI < x1:=by omega
    go_quiet (fail)
    go_wp2
    exact HR.out _ _ (by kernel_rfl) rfl (below_drewNv' HBZ.out _)
   ·have z2 : ¬ (HI < x1):=by omega
    by_cases q3 : x2 < 128
    ·have z3 : x2 < 128:=by omega
     go_quiet (fail)
     go_wp2
     exact HR.out _ _ (by kernel_rfl) rfl (below_drewNv' HBZ.out _)
    ·have z3 : ¬ (x2 < 128):=by omega
     by_cases q4 : 191 < x2
     ·have z4 : 191 < x2:=by omega
      go_quiet (fail)
      go_wp2
      exact HR.out _ _ (by kernel_rfl) rfl (below_drewNv' HBZ.out _)
     ·have z4 : ¬ (191 < x2):=by omega
      obtain ⟨An,cn,hvn,hsn⟩:=HVB.out.drop 3 (by omega)
      obtain ⟨tn,htn⟩ : ∃ x,t.drop 3 = x:=⟨_,rfl⟩
      rw [htn] at hvn hsn
      have hln : tn.length + 3 = t.length:=by rw [← htn,List.length_drop];omega
      have hsx : ∀ W : World,(Instr.slice 24 (.slice (some ad) t.length ct) (some (.int .i64 3)) none none).run Tryz.prog W = .ok (.slice An tn.length cn) W:=hsn
      have HVN:=Aside0.mk hvn
      clear hsn hvn htn
      go_quiet (fail)
      go_wp2
      exact HJ.out _ _ tn ⟨by kernel_rfl,_,_,rfl,HVN.out,below_drewNv' HBZ.out nq⟩ (by omega)
theorem vLead4 (h : VI w l wr t) (h0 : 0 < t.length) (hT : TabU w) (X : Nat) (hcX0 : w.cell? ⟨2,(t.getD 0 0).toNat,none⟩ = some (.int .u8 X)) (hXlt : X < 256) (hs : X % 8 = 4) (hasc0 : 128 ≤ t.getD 0 0) (hJ : ∀ l2 w2 t2,VI w l2 w2 t2 → t2.length < t.length → J ⟨l2.toArray,[]⟩ w2) (hR : ∀ (l2 : List Value) w2,l2.length = 188 → l2.getD 2 default = .bool false → Below w.heap.size w w2 → Q .ret ⟨l2.toArray,[]⟩ w2) :
  Code.wp Tryz.prog vb (Exit.then J Q) ⟨l.toArray,[]⟩ wr:=by
 obtain ⟨hl188,At,ct,hs0,hvb,hbw⟩:=h
 have hts:=hvb.len
 obtain ⟨f,hf,rfl⟩:=lit188 l hl188
 rw [hf] at hs0
 rw [hs0]
 have HJ:=Aside0.mk hJ
 clear hf hl188 hs0 hJ
 have h0z : (0 : Int) < (t.length : Int):=by omega
 obtain ⟨ad,rfl,hcell⟩:=(hvb.below hbw).cells h0
 have hx0b:=hvb.by_ 0
 obtain ⟨x0,hx0⟩ : ∃ x0 : Nat,t.getD 0 0 = (x0 : Int):=⟨(t.getD 0 0).toNat,by omega⟩
 have hx0lt : x0 < 256:=by omega
 have hc0:=hcell 0 h0
 rw [hx0] at hc0
 have hc0' : wr.cell? ad = some (.int .u8 (x0 : Int)):=by rw [← hc0];simp [Addr.add]
 have HVB:=Aside0.mk hvb
 have HCE:=Aside0.mk hcell
 clear hvb hcell hx0b
 have hasc : ¬ x0 < 128:=by omega
 have HT:=Aside0.mk hT
 have HR:=Aside0.mk hR
 have hcX : wr.cell? ⟨2,x0,none⟩ = some (.int .u8 X):=by rw [hx0] at hcX0;exact pw_cell_below hbw hcX0
 clear hasc0 hx0 hR hT hcX0
 conv => arg 2;whnf
 have hascz : ¬ ((x0 : Int) < 128):=by omega
 have h7:=and7' ⟨X,hXlt⟩
 simp only at h7
 obtain ⟨LO,HI,ha0,ha1⟩:=(HT.out.below hbw).2 (X / 16) (by omega)
 have hba : Below wr.heap.size wr (wr.alloc (.cells #[.int .u8 LO,.int .u8 HI] 146)):=below_alloc (Below.refl _ _) _
 have hbz : Below w.heap.size w (wr.alloc (.cells #[.int .u8 LO,.int .u8 HI] 146)):=below_alloc hbw _
 have HBZ:=Aside0.mk hbz
 have HBA:=Aside0.mk hba
 clear hba hbz
 obtain ⟨x1,hx1⟩ : ∃ x,t.getD 1 0 = x:=⟨_,rfl⟩
 obtain ⟨x2,hx2⟩ : ∃ x,t.getD 2 0 = x:=⟨_,rfl⟩
 obtain ⟨x3,hx3⟩ : ∃ x,t.getD 3 0 = x:=⟨_,rfl⟩
 have HX:=Aside0.mk (And.intro hx1 (And.intro hx2 hx3))
 clear hx1 hx2 hx3
 have hSZz : (X : Int) % 8 = 4:=by omega
 clear hs
 go_upto_region 26 with fail
 clear hc0 hc0' hcX ha0 ha1 h7
 have HCA : Aside0 (∀ j : Nat,j < t.length → (wr.alloc (.cells #[.int .u8 LO,.int .u8 HI] 146)).cell? (ad.add j) = some (.int .u8 (t.getD j 0))):=Aside0.mk fun j hj => pw_cell_below HBA.out (HCE.out j hj)
 have hlo : (wr.alloc (.cells #[.int .u8 LO,.int .u8 HI] 146)).cell? ⟨wr.heap.size,0,none⟩ = some (.int .u8 LO):=by rw [blk_cell (heap_alloc_new wr _)];rfl
 have hhi : (wr.alloc (.cells #[.int .u8 LO,.int .u8 HI] 146)).cell? ⟨wr.heap.size,1,none⟩ = some (.int .u8 HI):=by rw [blk_cell (heap_alloc_new wr _)];rfl
 generalize wr.alloc (.cells #[.int .u8 LO,.int .u8 HI] 146) = W at *
 by_cases q0 : t.length < 4
 ·have z0 : (t.length : Int) < 4:=by omega
  go_quiet (fail)
  go_wp2
  exact HR.out _ _ (by kernel_rfl) rfl (below_drewNv' HBZ.out _)
 ·have z0 : ¬ ((t.length : Int) < 4):=by omega
  have hp1 : W.cell? ⟨ad.block,ad.off + 1,none⟩ = some (.int .u8 x1):=by rw [← HX.out.1];exact HCA.out 1 (by omega)
  have hq1 : (1 : Int) < (t.length : Int):=by omega
  have hp2 : W.cell? ⟨ad.block,ad.off + 2,none⟩ = some (.int .u8 x2):=by rw [← HX.out.2.1];exact HCA.out 2 (by omega)
  have hq2 : (2 : Int) < (t.length : Int):=by omega
  have hp3 : W.cell? ⟨ad.block,ad.off + 3,none⟩ = some (.int .u8 x3):=by rw [← HX.out.2.2];exact HCA.out 3 (by omega)
  have hq3 : (3 : Int) < (t.length : Int):=by omega
  by_cases q1 : x1 < LO
  ·have z1 : x1 < LO:=by omega
   go_quiet (fail)
   go_wp2
   exact HR.out _ _ (by kernel_rfl) rfl (below_drewNv' HBZ.out _)
  ·have z1 : ¬ (x1 < LO):=by omega
   by_cases q2 : HI < x1
   ·have z2 : HI < x1:=by omega
    go_quiet (fail)
    go_wp2
    exact HR.out _ _ (by kernel_rfl) rfl (below_drewNv' HBZ.out _)
   ·have z2 : ¬ (HI < x1):=by omega
    by_cases q3 : x2 < 128
    ·have z3 : x2 < 128:=by omega
     go_quiet (fail)
     go_wp2
     exact HR.out _ _ (by kernel_rfl) rfl (below_drewNv' HBZ.out _)
    ·have z3 : ¬ (x2 < 128):=by omega
     by_cases q4 : 191 < x2
     ·have z4 : 191 < x2:=by omega
      go_quiet (fail)
      go_wp2
      exact HR.out _ _ (by kernel_rfl) rfl (below_drewNv' HBZ.out _)
     ·have z4 : ¬ (191 < x2):=by omega
      by_cases q5 : x3 < 128
      ·have z5 : x3 < 128:=by omega
       go_quiet (fail)
       go_wp2
       exact HR.out _ _ (by kernel_rfl) rfl (below_drewNv' HBZ.out _)
      ·have z5 : ¬ (x3 < 128):=by omega
       by_cases q6 : 191 < x3
       ·have z6 : 191 < x3:=by omega
        go_quiet (fail)
        go_wp2
        exact HR.out _ _ (by kernel_rfl) rfl (below_drewNv' HBZ.out _)
       ·have z6 : ¬ (191 < x3):=by omega
        obtain ⟨An,cn,hvn,hsn⟩:=HVB.out.drop 4 (by omega)
        obtain ⟨tn,htn⟩ : ∃ x,t.drop 4 = x:=⟨_,rfl⟩
        rw [htn] at hvn hsn
        have hln : tn.length + 4 = t.length:=by rw [← htn,List.length_drop];omega
        have hsx : ∀ W : World,(Instr.slice 24 (.slice (some ad) t.length ct) (some (.int .i64 4)) none none).run Tryz.prog W = .ok (.slice An tn.length cn) W:=hsn
        have HVN:=Aside0.mk hvn
        clear hsn hvn htn
        go_quiet (fail)
        go_wp2
        exact HJ.out _ _ tn ⟨by kernel_rfl,_,_,rfl,HVN.out,below_drewNv' HBZ.out nq⟩ (by omega)
theorem vLeadN (h : VI w l wr t) (h0 : 0 < t.length) (hT : TabU w) (X : Nat) (hcX0 : w.cell? ⟨2,(t.getD 0 0).toNat,none⟩ = some (.int .u8 X)) (hXlt : X < 256) (hs : X % 8 ≠ 2 ∧ X % 8 ≠ 3 ∧ X % 8 ≠ 4) (hasc0 : 128 ≤ t.getD 0 0) (hR : ∀ (l2 : List Value) w2,l2.length = 188 → l2.getD 2 default = .bool false → Below w.heap.size w w2 → Q .ret ⟨l2.toArray,[]⟩ w2) :
  Code.wp Tryz.prog vb (Exit.then J Q) ⟨l.toArray,[]⟩ wr:=by
 obtain ⟨hl188,At,ct,hs0,hvb,hbw⟩:=h
 have hts:=hvb.len
 obtain ⟨f,hf,rfl⟩:=lit188 l hl188
 rw [hf] at hs0
 rw [hs0]
 clear hf hl188 hs0
 have h0z : (0 : Int) < (t.length : Int):=by omega
 obtain ⟨ad,rfl,hcell⟩:=(hvb.below hbw).cells h0
 have hx0b:=hvb.by_ 0
 obtain ⟨x0,hx0⟩ : ∃ x0 : Nat,t.getD 0 0 = (x0 : Int):=⟨(t.getD 0 0).toNat,by omega⟩
 have hx0lt : x0 < 256:=by omega
 have hc0:=hcell 0 h0
 rw [hx0] at hc0
 have hc0' : wr.cell? ad = some (.int .u8 (x0 : Int)):=by rw [← hc0];simp [Addr.add]
 have HVB:=Aside0.mk hvb
 have HCE:=Aside0.mk hcell
 clear hvb hcell hx0b
 have hasc : ¬ x0 < 128:=by omega
 have HT:=Aside0.mk hT
 have HR:=Aside0.mk hR
 have hcX : wr.cell? ⟨2,x0,none⟩ = some (.int .u8 X):=by rw [hx0] at hcX0;exact pw_cell_below hbw hcX0
 clear hasc0 hx0 hR hT hcX0
 conv => arg 2;whnf
 have hascz : ¬ ((x0 : Int) < 128):=by omega
 have h7:=and7' ⟨X,hXlt⟩
 simp only at h7
 obtain ⟨LO,HI,ha0,ha1⟩:=(HT.out.below hbw).2 (X / 16) (by omega)
 have hba : Below wr.heap.size wr (wr.alloc (.cells #[.int .u8 LO,.int .u8 HI] 146)):=below_alloc (Below.refl _ _) _
 have hbz : Below w.heap.size w (wr.alloc (.cells #[.int .u8 LO,.int .u8 HI] 146)):=below_alloc hbw _
 have HBZ:=Aside0.mk hbz
 have HBA:=Aside0.mk hba
 clear hba hbz
 obtain ⟨x1,hx1⟩ : ∃ x,t.getD 1 0 = x:=⟨_,rfl⟩
 obtain ⟨x2,hx2⟩ : ∃ x,t.getD 2 0 = x:=⟨_,rfl⟩
 obtain ⟨x3,hx3⟩ : ∃ x,t.getD 3 0 = x:=⟨_,rfl⟩
 have HX:=Aside0.mk (And.intro hx1 (And.intro hx2 hx3))
 clear hx1 hx2 hx3
 have hn2 : ((X : Int) % 8 == 2) = false:=by simp;omega
 have hn3 : ((X : Int) % 8 == 3) = false:=by simp;omega
 have hn4 : ((X : Int) % 8 == 4) = false:=by simp;omega
 clear hs
 go_wp2
 exact HR.out _ _ (by kernel_rfl) rfl (HBZ.out)
theorem vEnd (h : VI w l wr t) (h0 : ¬ 0 < t.length) (hE : ∀ (l2 : List Value) w2,l2.length = 188 → Below w.heap.size w w2 → Q (.exit 0) ⟨l2.toArray,[]⟩ w2) :
  Code.wp Tryz.prog vb (Exit.then J Q) ⟨l.toArray,[]⟩ wr:=by
 obtain ⟨hl188,At,ct,hs0,hvb,hbw⟩:=h
 have hts:=hvb.len
 obtain ⟨f,hf,rfl⟩:=lit188 l hl188
 rw [hf] at hs0
 rw [hs0]
 have HE:=Aside0.mk hE
 clear hf hl188 hs0 hE
 have h0z : ¬ ((0 : Int) < (t.length : Int)):=by omega
 conv => arg 2;whnf
 go_wp2_with fail
 exact HE.out _ _ (by kernel_rfl) hbw
end
theorem valid_any {w : World} {A : Option Addr} {c : Nat} {xs : List Int} (h : VB w A c xs) (hT : TabU w) :
  Calls Tryz.prog 103 #[.slice A xs.length c] w fun e w' => (e = .returned (.bool true) ∨ e = .returned (.bool false)) ∧ Below w.heap.size w w':=by
 have hcut : ∀ W : World,(Instr.slice 24 (.slice A xs.length c) none (some (.int .i64 xs.length)) (some (.int .i64 xs.length))).run Tryz.prog W = .ok (.slice A xs.length xs.length) W:=by
  intro W
  obtain ⟨i0,hi0,hzz⟩:=Option.map_eq_some_iff.1 info5
  simp only [Prod.mk.injEq] at hzz
  have hel : Tryz.prog.elem 24 = 5:=by simp [Program.elem,Tryz.underlying24]
  have hu : Tryz.prog.underlying 24 = some (.slice (Tryz.prog.elem 24)):=by rw [hel];exact Tryz.underlying24
  rw [run_slice_hm W 24 A xs.length c hu .i64 .i64 (xs.length : Int) (xs.length : Int) (by omega) (by omega) (by have:=h.cap;omega),hel]
  simp [sizeOf,typeInfo,hi0,hzz.2.1,sliced,Result.andThen]
  cases A <;> simp [Addr.add]
 have h' : VB w A xs.length xs:=⟨Nat.le_refl _,h.rd,h.by_,h.len⟩
 have hl:=h.len
 have HV:=Aside0.mk h'
 have HT:=Aside0.mk hT
 clear h h' hT
 go_enter Tryz.func103,Tryz.ntmps103
 go_wp2
 clear hcut
 rename_i Q' K hK
 have HK:=Aside0.mk hK
 clear hK
 refine (show Code.wp Tryz.prog (.loop vb) _ _ _ from ?_)
 refine wp_loop_list (c:=vb) 188 (fun g l wx => ∃ t,g = t.length ∧ VI w l wx t) xs.length _ (by kernel_rfl) ⟨xs,rfl,by kernel_rfl,A,_,rfl,HV.out,Below.refl _ _⟩ ?_
 rintro n l wx hl ⟨t,rfl,hV⟩ J hJ
 have hr : ∀ (l2 : List Value) w2,l2.length = 188 → l2.getD 2 default = .bool false → Below w.heap.size w w2 → (Exit.inBlock 0 (Exit.then K Q')) .ret ⟨l2.toArray,[]⟩ w2:=by
  intro l2 w2 h1 h2 h3
  obtain ⟨f,hf,rfl⟩:=lit188 l2 h1
  rw [hf] at h2
  rw [h2]
  clear hf h2
  simp only [Exit.inBlock,Exit.then]
  go_ret
  exact ⟨.inr rfl,h3⟩
 have hj : ∀ l2 w2 t2,VI w l2 w2 t2 → t2.length < t.length → J ⟨l2.toArray,[]⟩ w2:=fun l2 w2 t2 h1 h2 => hJ t2.length l2 w2 h2 h1.1 ⟨t2,rfl,h1⟩
 by_cases h0 : 0 < t.length
 ·by_cases h1 : t.getD 0 0 < 128
  ·exact vAsc hV h0 h1 hj
  ·have hb:=(id hV).2
   obtain ⟨At,ct,_,hvb,_⟩:=hb
   have hb0:=hvb.by_ 0
   obtain ⟨X,hX,hcX⟩:=HT.out.1 (t.getD 0 0).toNat (by omega)
   by_cases s2 : X % 8 = 2
   ·exact vLead2 hV h0 HT.out X hcX hX s2 (by omega) hj hr
   by_cases s3 : X % 8 = 3
   ·exact vLead3 hV h0 HT.out X hcX hX s3 (by omega) hj hr
   by_cases s4 : X % 8 = 4
   ·exact vLead4 hV h0 HT.out X hcX hX s4 (by omega) hj hr
   exact vLeadN hV h0 HT.out X hcX hX ⟨s2,s3,s4⟩ (by omega) hr
 ·refine vEnd hV h0 ?_
  intro l2 w2 h1 h2
  refine HK.out _ _ ?_
  obtain ⟨f,hf,rfl⟩:=lit188 l2 h1
  clear hf
  go_wp2_with fail
  go_ret
  exact ⟨.inl rfl,h2⟩
theorem info55z' : (Tryz.prog.info? 55).map (fun i => (i.zero,i.size,i.bytes)) = some (some (.agg #[.string ⟨#[]⟩,.slice none 0 0,.slice none 0 0,.slice none 0 0,.slice none 0 0,.string ⟨#[]⟩]),6,128):=by kernel_rfl
theorem VB.tx {w : World} {A : Option Addr} {c : Nat} {t : List Int} (h : VB w A c t) : Tx t:=⟨h.len,h.by_⟩
theorem vb_has {w : World} {A : Option Addr} {c : Nat} {t : List Int} {x : Int} {b : Bool} (h : VB w A c t) (hf : ∀ k,t.length + 1 ≤ k → spec_Has.f k t x = some b) :
  Calls Tryz.prog 53 #[.slice A t.length c,.int .u8 x] w fun e w' => e = .returned (.bool b) ∧ Below w.heap.size w w' :=
 (spec_Has.calls _ A c t x b w h.rd h.cap (hf _ (Nat.le_refl _))).mono fun e w' ⟨he,n,hn⟩ => ⟨he,hn ▸ pw_below_drewN (Below.refl _ _) n⟩
theorem isBroken_any {w : World} {A : Option Addr} {c : Nat} {t : List Int} (h : VB w A c t) (hT : TabU w) :
  Calls Tryz.prog 66 #[.slice A t.length c] w fun e w' => ((e = .returned (.bool true) ∧ ¬ Nb t) ∨ e = .returned (.bool false)) ∧ Below w.heap.size w w':=by
 obtain ⟨b,hb,hb2⟩:=Has_f t 92 (by have:=h.len;omega)
 have HV:=Aside0.mk h
 have HT:=Aside0.mk hT
 have HB:=Aside0.mk (And.intro hb hb2)
 clear h hT hb hb2
 cases b with
 | false =>
  go_enter Tryz.func66,Tryz.ntmps66
  go_wp2_with (first
   | (go_at_call 53;(with_reducible refine (vb_has HV.out HB.out.1).mono ?_);rintro e w1 ⟨rfl,hb1⟩;have HB1:=Aside0.mk hb1;clear hb1))
  go_ret
  exact ⟨.inr rfl,HB1.out⟩
 | true =>
  have hnb : ¬ Nb t:=fun hn => by
   obtain ⟨m,hm,he⟩:=HB.out.2.1 rfl
   exact hn m (by unfold at_;rw [show ((m : Int)).toNat = m by omega];exact he)
  have HNB:=Aside0.mk hnb
  clear hnb
  go_enter Tryz.func66,Tryz.ntmps66
  go_wp2_with (first
   | (go_at_call 53;(with_reducible refine (vb_has HV.out HB.out.1).mono ?_);rintro e w1 ⟨rfl,hb1⟩;have HB1:=Aside0.mk hb1;clear hb1)
   | (go_at_call 103;(with_reducible refine (valid_any (HV.out.below HB1.out) (HT.out.below HB1.out)).mono ?_);rintro e w2 ⟨rfl|rfl,hb2⟩ <;> have HB2:=Aside0.mk (HB1.out.trans (hb2.mono HB1.out.size)) <;> clear hb2))
  ·go_ret
   exact ⟨.inr rfl,HB2.out⟩
  ·go_ret
   exact ⟨.inl ⟨rfl,HNB.out⟩,HB2.out⟩
inductive TkC (xs : List Int) : List (ByteArray × List Int) → Int → Bool → Prop where
 | nil : TkC xs [] 0 false
 | snoc (ps : List (ByteArray × List Int)) (i : Int) (kind : ByteArray) (i' : Int) (o' : Bool) (h : TkC xs ps i false) (h0 : 0 ≤ i) (h1 : i' ≤ xs.length) (hk : kind.size ≤ 16 ∧ TokP xs i kind i' o') : TkC xs (ps ++ [(kind,mid xs i i')]) i' o'
def tkPc (p : ByteArray × List Int) : S55:=⟨p.1,p.2,[],[],[],⟨#[]⟩⟩
theorem TkC.sz {xs : List Int} {qs : List (ByteArray × List Int)} {i : Int} {o : Bool} (h : TkC xs qs i o) : ∀ p ∈ qs.map tkPc,p.f0.size ≤ 16:=by
 induction h with
 | nil => intro p hp;cases hp
 | snoc ps i kind i' o' h h0 h1 hk ih =>
  intro p hp
  rw [List.map_append,List.mem_append] at hp
  rcases hp with hp|hp
  ·exact ih p hp
  ·simp at hp
   subst hp
   exact hk.1
def PcsC (w0 : World) (B : Nat) (w : World) (v : Value) (ps : List S55) : Prop:=∃ cs,w.ownsRow B 55 6 v ps.length cs ∧ Reps (k55.K w0) 6 ps cs
theorem PcsC.read {w0 w : World} {B : Nat} {v : Value} {ps : List S55} (h : PcsC w0 B w v ps) : ∃ A c,v = .slice A ps.length c ∧ ps.length ≤ c ∧ ReadsRow (k55.K w0) 6 w A ps.length ps:=by
 obtain ⟨cs,h1,h2⟩:=h
 obtain ⟨A,c,rfl,h3⟩:=own_reads_row h1 h2 rfl
 exact ⟨A,c,rfl,own_le h1,h3⟩
theorem rows_C {w0 w : World} {A : Option Addr} {n : Nat} {ps : List S55} (h : ReadsRow (k55.K w0) 6 w A n ps) (hb : Below w0.heap.size w0 w) : Kd.C k55 w A n ps :=
 ⟨h.1,h.2.1,fun hp => by
  obtain ⟨ad,e,hc⟩:=h.2.2 hp
  refine ⟨ad,e,fun j p hj => ?_⟩
  obtain ⟨c,h1,h2,h3⟩:=hc j p hj
  exact ⟨c,h1,k55.K_below hb h2,h3⟩⟩
def tkS (xs : List Int) (F : Int → Bool → ByteArray × Int × Bool) : Nat → List (ByteArray × List Int) × Int × Bool
 | 0 => ([],0,false)
 | n + 1 => if (tkS xs F n).2.1 < xs.length ∧ (tkS xs F n).2.2 = false then ((tkS xs F n).1 ++ [((F (tkS xs F n).2.1 false).1,mid xs (tkS xs F n).2.1 (F (tkS xs F n).2.1 false).2.1)],(F (tkS xs F n).2.1 false).2.1,(F (tkS xs F n).2.1 false).2.2) else tkS xs F n
def TkFs (xs : List Int) (F : Int → Bool → ByteArray × Int × Bool) : Prop:=∀ (i : Int) (o : Bool),0 ≤ i → i < xs.length → TkF 68 [] xs i o (TokP xs i) (F i o)
theorem tkFs (xs : List Int) (hx : Tx xs) : ∃ F,TkFs xs F:=by
 have h : ∀ p : Int × Bool,∃ r,(0 ≤ p.1 → p.1 < xs.length → TkF 68 [] xs p.1 p.2 (TokP xs p.1) r):=by
  intro p
  by_cases hp : 0 ≤ p.1 ∧ p.1 < xs.length
  ·obtain ⟨r,hr⟩:=rs_token p.2 hx hp.1 hp.2
   exact ⟨r,fun _ _ => hr⟩
  ·exact ⟨default,fun h1 h2 => absurd ⟨h1,h2⟩ hp⟩
 refine ⟨fun i o => Classical.choose (h (i,o)),fun i o h0 h1 => Classical.choose_spec (h (i,o)) h0 h1⟩
theorem tkS_step {xs : List Int} {F : Int → Bool → ByteArray × Int × Bool} {n : Nat} (h : (tkS xs F n).2.1 < xs.length) (h2 : (tkS xs F n).2.2 = false) : tkS xs F (n + 1) = ((tkS xs F n).1 ++ [((F (tkS xs F n).2.1 false).1,mid xs (tkS xs F n).2.1 (F (tkS xs F n).2.1 false).2.1)],(F (tkS xs F n).2.1 false).2.1,(F (tkS xs F n).2.1 false).2.2):=by
 show (if _ then _ else _) = _
 rw [if_pos ⟨h,h2⟩]
theorem tkS_stop {xs : List Int} {F : Int → Bool → ByteArray × Int × Bool} {n : Nat} (h : ¬ ((tkS xs F n).2.1 < xs.length ∧ (tkS xs F n).2.2 = false)) : ∀ m,tkS xs F (n + m) = tkS xs F n:=by
 intro m
 induction m with
 | zero => rfl
 | succ m ih =>
  show (if _ then _ else _) = _
  rw [show n.add m = n + m from rfl,ih,if_neg h]
theorem tkS_inv {xs : List Int} {F : Int → Bool → ByteArray × Int × Bool} (hF : TkFs xs F) : ∀ n,TkC xs (tkS xs F n).1 (tkS xs F n).2.1 (tkS xs F n).2.2 ∧ 0 ≤ (tkS xs F n).2.1 ∧ (tkS xs F n).2.1 ≤ xs.length ∧ ((tkS xs F n).1.length : Int) ≤ (tkS xs F n).2.1 ∧ (((tkS xs F n).2.1 < xs.length ∧ (tkS xs F n).2.2 = false) → (n : Int) ≤ (tkS xs F n).2.1):=by
 intro n
 induction n with
 | zero => exact ⟨.nil,Int.le_refl _,by simp [tkS],by simp [tkS],fun _ => by simp [tkS]⟩
 | succ n ih =>
  obtain ⟨i1,i2,i3,i4,i5⟩:=ih
  by_cases h : (tkS xs F n).2.1 < xs.length ∧ (tkS xs F n).2.2 = false
  ·have hf:=hF (tkS xs F n).2.1 false i2 h.1
   rw [tkS_step h.1 h.2]
   rw [h.2] at i1
   have h6:=i5 h
   have h7:=hf.pr.1
   exact ⟨.snoc _ _ _ _ _ i1 i2 hf.le ⟨hf.sz,hf.pr⟩,by show 0 ≤ (F _ _).2.1;omega,hf.le,by simp;omega,fun _ => by show _ ≤ (F _ _).2.1;omega⟩
  ·have:=tkS_stop h 1
   rw [this]
   exact ⟨i1,i2,i3,i4,fun h' => absurd h' h⟩
theorem tkS_end {xs : List Int} {F : Int → Bool → ByteArray × Int × Bool} (hF : TkFs xs F) {n : Nat} (h : ¬ ((tkS xs F n).2.1 < xs.length ∧ (tkS xs F n).2.2 = false)) : tkS xs F (xs.length + 1) = tkS xs F n:=by
 rcases Nat.le_total n (xs.length + 1) with hn|hn
 ·have:=tkS_stop h (xs.length + 1 - n)
  rwa [show n + (xs.length + 1 - n) = xs.length + 1 by omega] at this
 ·have h2 : ¬ ((tkS xs F (xs.length + 1)).2.1 < xs.length ∧ (tkS xs F (xs.length + 1)).2.2 = false):=fun h' => by
   have h3:=(tkS_inv hF (xs.length + 1)).2.2.2.2 h'
   omega
  have:=tkS_stop h2 (n - (xs.length + 1))
  rw [show xs.length + 1 + (n - (xs.length + 1)) = n by omega] at this
  exact this.symm
def TokQ (F : Int → Bool → ByteArray × Int × Bool) (wq w : World) (xs : List Int) (e : Ending) (w' : World) : Prop:=∃ A c ps ok,e = .returned (.tuple #[.slice A ps.length c,.bool ok]) ∧ (ps.length ≤ c ∧ ∀ ad,A = some ad → w.heap.size ≤ ad.block) ∧ ps.length ≤ xs.length ∧ ReadsRow (k55.K wq) 6 w' A ps.length ps ∧ Below w.heap.size w w' ∧ (∀ p ∈ ps,p.f0.size ≤ 16) ∧
 (ok = true → N0 xs) ∧ (N0 xs → Nb xs → ps = (tkS xs F (xs.length + 1)).1.map tkPc ∧ ok = !(tkS xs F (xs.length + 1)).2.2)
theorem IsS115.grownC {w0 W W1 : World} {g : Nat} {xs : List Int} {i : Int} {o : Bool} {v : Value} {n : Nat} {B : Nat} {cs : List Value} (h : IsS115 w0 W g xs i o) (ho : W.ownsRow B 55 6 v n cs) (hg : W.grownBy W1 v.ownBlock) : IsS115 w0 W1 g xs i o:=by
 refine h.grown hg ?_
 obtain ⟨A0,c0,hh,_⟩:=h
 exact own_ne ho hh (by decide)
theorem PcsC.keep {wq w0 w1 w2 : World} {B g : Nat} {v : Value} {ps : List S55} {xs : List Int} {i : Int} {o : Bool} (h : PcsC wq B w1 v ps) (hi : IsS115 w0 w1 g xs i o) (hk : KeepBut w1 w2 g none) : PcsC wq B w2 v ps:=by
 obtain ⟨cs,h1,h2⟩:=h
 obtain ⟨A0,c0,hh,_⟩:=hi
 refine ⟨cs,hk.own h1 (fun e => own_ne h1 hh (by decide) e.symm) ?_,h2⟩
 cases hv : v.ownBlock with
 | none => exact .inl rfl
 | some b => exact .inr (by simp)
theorem PcsC.readAt {w0 w : World} {B n c : Nat} {A : Option Addr} {ps : List S55} (h : PcsC w0 B w (.slice A n c) ps) : n = ps.length ∧ ps.length ≤ c ∧ ReadsRow (k55.K w0) 6 w A ps.length ps:=by
 obtain ⟨A1,c1,e,h1,h2⟩:=h.read
 injection e with e1 e2 e3
 subst e1;subst e2;subst e3
 exact ⟨rfl,h1,h2⟩
theorem PcsC.base {w0 w : World} {B n c : Nat} {ad : Addr} {A : Option Addr} {ps : List S55} (h : PcsC w0 B w (.slice A n c) ps) (ha : Value.slice A n c = .slice (some ad) n c) : B ≤ ad.block:=by
 obtain ⟨cs,⟨_,h1⟩,_⟩:=h
 rw [ha] at h1
 rcases h1 with ⟨h1,_⟩|⟨g,cap,cur,h1,hg,_⟩
 ·injection h1 with h1;cases h1
 ·injection h1 with h1
  injection h1 with h1
  subst h1
  exact hg
theorem PcsC.drewN {w0 w : World} {B : Nat} {v : Value} {ps : List S55} (h : PcsC w0 B w v ps) (n : Nat) : PcsC w0 B (w.drewN n) v ps:=h
theorem tokens_end {F : Int → Bool → ByteArray × Int × Bool} {wq w w4 : World} {g n c m : Nat} {A : Option Addr} {xs : List Int} (hF : TkFs xs F) (hR : Rs w w4 g xs w4 (tkS xs F m).2.1 (tkS xs F m).2.2) (hP : PcsC wq w.heap.size w4 (.slice A n c) ((tkS xs F m).1.map tkPc)) (hn : N0 xs) (he : ¬ ((tkS xs F m).2.1 < xs.length ∧ (tkS xs F m).2.2 = false)) :
  TokQ F wq w xs (.returned (.tuple #[.slice A n c,.bool (!(tkS xs F m).2.2)])) w4:=by
 obtain ⟨e,h2,h3⟩:=hP.readAt
 obtain ⟨i1,i2,i3,i4,i5⟩:=tkS_inv hF m
 refine ⟨A,c,(tkS xs F m).1.map tkPc,!(tkS xs F m).2.2,by rw [e],⟨h2,fun ad ha => hP.base (by rw [ha])⟩,by rw [List.length_map];omega,h3,hR.be,i1.sz,fun _ => hn,fun _ _ => ?_⟩
 rw [tkS_end hF he]
 exact ⟨rfl,rfl⟩
theorem Rs.rebase {w0 ws w : World} {g : Nat} {xs : List Int} {i : Int} {o : Bool} (h : Rs w0 ws g xs w i o) : Rs w0 w g xs w i o:=⟨h.is,h.be,KeepBut.refl _ _ _⟩
def TkI (F : Int → Bool → ByteArray × Int × Bool) (wq w : World) (g : Nat) (xs : List Int) (v : Value) (wr : World) (m : Nat) : Prop:=∃ n,Rs w wr g xs wr (tkS xs F n).2.1 (tkS xs F n).2.2 ∧ PcsC wq w.heap.size wr v ((tkS xs F n).1.map tkPc) ∧ Aside0 (m = ((xs.length : Int) - (tkS xs F n).2.1).toNat + (if (tkS xs F n).2.2 then 0 else 1))
theorem tokens {F : Int → Bool → ByteArray × Int × Bool} {wq w : World} {A : Option Addr} {c : Nat} {xs : List Int} (hF : TkFs xs F) (hq : VB wq A c xs) (hbq : Below wq.heap.size wq w) (hT : TabU w) :
  Calls Tryz.prog 49 #[.slice A xs.length c] w (TokQ F wq w xs):=by
 have h:=hq.below hbq
 have hl:=h.len
 have HVQ:=Aside0.mk hq
 clear hq hbq
 obtain ⟨bz,hbz,hbz2⟩:=Has_f xs 0 (by have:=h.len;omega)
 have HV:=Aside0.mk h
 have HT:=Aside0.mk hT
 have HZ:=Aside0.mk (And.intro hbz hbz2)
 have HX:=Aside0.mk h.tx
 have HF:=Aside0.mk hF
 clear h hT hbz hbz2 hF
 have hB2 : Below w.heap.size w ((w.alloc (.cells #[.slice A xs.length c,.int .i64 0,.bool false] 115)).alloc (.cells #[] 55)):=below_alloc (below_alloc (Below.refl _ _) _) _
 have HB2:=Aside0.mk hB2
 clear hB2
 have hnil : ∀ W : World,ReadsRow (k55.K wq) 6 W none 0 ([] : List S55):=fun W => ⟨rfl,by decide,fun h => absurd h (by decide)⟩
 have HNIL:=Aside0.mk hnil
 clear hnil
 cases bz with
 | true =>
  go_enter Tryz.func49,Tryz.ntmps49
  go_wp2_with (first
   | (go_at_call 53;(with_reducible refine (vb_has (HV.out.below HB2.out) HZ.out.1).mono ?_);rintro e w1 ⟨rfl,hb1⟩;have HB1:=Aside0.mk (HB2.out.trans (hb1.mono HB2.out.size));clear hb1))
  go_ret2
  refine ⟨none,0,[],false,rfl,⟨Nat.le_refl _,fun _ h => by cases h⟩,Nat.zero_le _,HNIL.out _,HB1.out,(fun p hp => by cases hp),(fun h => by cases h),fun hn _ => ?_⟩
  obtain ⟨m,hm,he⟩:=HZ.out.2.1 (by simp)
  exact absurd (show at_ xs (m : Int) = 0 by unfold at_;rw [show ((m : Int)).toNat = m by omega];exact he) (hn m (by omega) (by omega))
 | false =>
  have hn0 : N0 xs:=by
   intro i h0 h1 he
   have:=HZ.out.2.2 ⟨i.toNat,by omega,he⟩
   cases this
  have HN0:=Aside0.mk hn0
  clear hn0
  have hR0 : Rs w ((w.alloc (.cells #[.slice A xs.length c,.int .i64 0,.bool false] 115)).alloc (.cells #[] 55)) w.heap.size xs ((w.alloc (.cells #[.slice A xs.length c,.int .i64 0,.bool false] 115)).alloc (.cells #[] 55)) 0 false :=
   ⟨(IsS115.new w w A c xs 0 false (Below.refl _ _) ⟨HV.out.cap,HV.out.rd⟩).alloc _,HB2.out,KeepBut.refl _ _ _⟩
  have hP0 : PcsC wq w.heap.size ((w.alloc (.cells #[.slice A xs.length c,.int .i64 0,.bool false] 115)).alloc (.cells #[] 55)) (.slice (some ⟨w.heap.size + 1,0,none⟩) 0 0) []:=by
   refine ⟨[],⟨rfl,.inr ⟨w.heap.size + 1,0,#[],rfl,by omega,?_,by simp,by simp [maxLen],by simp,by simp⟩⟩,Reps.none _ _⟩
   have:=heap_alloc_new (w.alloc (.cells #[.slice A xs.length c,.int .i64 0,.bool false] 115)) (.cells #[] 55)
   simpa using this
  have HP0:=Aside0.mk (And.intro hR0 hP0)
  clear hR0 hP0
  go_enter Tryz.func49,Tryz.ntmps49
  go_wp2_with (first
   | (go_at_call 53;(with_reducible refine (vb_has (HV.out.below HB2.out) HZ.out.1).mono ?_);rintro e w1 ⟨rfl,hb1⟩;have HB1:=Aside0.mk hb1;clear hb1)
   | (go_at_call 66;(with_reducible refine (isBroken_any ((HV.out.below HB2.out).below HB1.out) ((HT.out.below HB2.out).below HB1.out)).mono ?_);rintro e w2 ⟨⟨rfl,hnb⟩|rfl,hb2⟩ <;> have HB2':=Aside0.mk (HB1.out.trans (hb2.mono HB1.out.size)) <;> clear hb2))
  ·go_ret2
   exact ⟨none,0,[],false,rfl,⟨Nat.le_refl _,fun _ h => by cases h⟩,Nat.zero_le _,HNIL.out _,HB2.out.trans (HB2'.out.mono HB2.out.size),(fun p hp => by cases hp),(fun h => by cases h),fun _ hn => absurd hn hnb⟩
  have HPL : Aside0 (Rs w w2 w.heap.size xs w2 0 false ∧ PcsC wq w.heap.size w2 (.slice (some ⟨w.heap.size + 1,0,none⟩) 0 0) []):=by
   refine Aside0.mk ⟨⟨HP0.out.1.is.below HB2'.out,HB2.out.trans (HB2'.out.mono HB2.out.size),KeepBut.refl _ _ _⟩,?_⟩
   obtain ⟨cs,h1,h2⟩:=HP0.out.2
   exact ⟨cs,pw_own_below h1 HB2'.out,h2⟩
  clear HP0
  go_loopg [5] (xs.length + 1) (fun gk v5 wr => TkI F wq w w.heap.size xs v5 wr gk)
  case atStart => exact ⟨0,HPL.out.1,HPL.out.2,⟨by simp [tkS]⟩⟩
  case round =>
   clear HPL
   obtain ⟨n,hR,hP,HM⟩:=hrel
   obtain ⟨A5,c5,rfl,hc5,-⟩:=hP.read
   have hinv:=tkS_inv HF.out n
   obtain ⟨i,hi⟩ : ∃ i,(tkS xs F n).2.1 = i:=⟨_,rfl⟩
   obtain ⟨o,ho⟩ : ∃ o,(tkS xs F n).2.2 = o:=⟨_,rfl⟩
   obtain ⟨qs,hqs⟩ : ∃ qs,(tkS xs F n).1 = qs:=⟨_,rfl⟩
   rw [hi,ho] at hR
   rw [hqs] at hP hc5 ⊢
   simp only [List.length_map] at hP hc5 ⊢
   rw [hi,ho,hqs] at hinv
   obtain ⟨hC,h0,h1,hq,-⟩:=hinv
   have HS:=Aside0.mk (And.intro hi (And.intro ho hqs))
   have HR:=Aside0.mk hR
   have HP:=Aside0.mk (And.intro hP (And.intro hC hq))
   clear hR hP hC hq hi ho hqs
   have hend : ¬ (i < xs.length ∧ o = false) → ∀ W A n' c',Rs w W w.heap.size xs W i o → PcsC wq w.heap.size W (.slice A n' c') (qs.map tkPc) → TokQ F wq w xs (.returned (.tuple #[.slice A n' c',.bool (!o)])) W:=by
    intro he W A n' c' r p
    have e:=HS.out
    have:=tokens_end (m:=n) (n:=n') (c:=c') (A:=A) HF.out (by rw [e.1,e.2.1];exact r) (by rw [e.2.2];exact p) HN0.out (by rw [e.1,e.2.1];exact he)
    rwa [e.2.1] at this
   have HEND:=Aside0.mk hend
   clear hend
   by_cases hov : i ≥ xs.length
   ·have hd : decide (i ≥ (xs.length : Int)) = true:=decide_eq_true hov
    go_wp2_with (first
     | (go_at_call 67;(with_reducible refine (rs_over HR.out).mono ?_);rintro e w4 ⟨rfl,hR4⟩;obtain ⟨A4,c4,hc4⟩:=hR4.cells;have g2:=hc4.c2;clear hc4;have HR4:=Aside0.mk hR4;clear hR4))
    go_quiet (fail)
    rename_i nq
    go_wp2_with fail
    go_ret2
    exact HEND.out (by omega) _ _ _ _ ((HR4.out.drewN nq).rebase) ((HP.out.1.keep HR.out.is HR4.out.ke).drewN nq)
   ·have hd : decide (i ≥ (xs.length : Int)) = false:=decide_eq_false hov
    cases o with
    | true =>
     go_wp2_with (first
      | (go_at_call 67;(with_reducible refine (rs_over HR.out).mono ?_);rintro e w4 ⟨rfl,hR4⟩;obtain ⟨A4,c4,hc4⟩:=hR4.cells;have g2:=hc4.c2;clear hc4;have HR4:=Aside0.mk hR4;clear hR4))
     go_quiet (fail)
     rename_i nq
     go_wp2_with fail
     go_ret2
     exact HEND.out (by simp) _ _ _ _ ((HR4.out.drewN nq).rebase) ((HP.out.1.keep HR.out.is HR4.out.ke).drewN nq)
    | false =>
     have hf:=HF.out i false h0 (by omega)
     obtain ⟨kind,hkind⟩ : ∃ k,(F i false).1 = k:=⟨_,rfl⟩
     obtain ⟨i',hi'⟩ : ∃ k,(F i false).2.1 = k:=⟨_,rfl⟩
     obtain ⟨o',ho'⟩ : ∃ k,(F i false).2.2 = k:=⟨_,rfl⟩
     have q1:=hf.ge
     have q2:=hf.le
     have hlt:=hf.pr.1
     have hrun:=hf.run
     rw [hi'] at q1 q2 hlt
     rw [hkind,hi',ho'] at hrun
     have HRUN:=Aside0.mk hrun
     have HK:=Aside0.mk (And.intro hkind (And.intro hi' ho'))
     clear hf hrun hkind hi' ho'
     go_wp2_with (first
      | (go_at_call 67;(with_reducible refine (rs_over HR.out).mono ?_);rintro e w4 ⟨rfl,hR4⟩;obtain ⟨A4,c4,hc4⟩:=hR4.cells;have g2:=hc4.c2;have g1:=hc4.c1;clear hc4;have HR4:=Aside0.mk hR4;clear hR4)
      | (go_at_call 68;(with_reducible refine (HRUN.out _ _ _ _ HR4.out).mono ?_);rintro e w5 ⟨rfl,q5⟩;obtain ⟨A6,c6,hc6⟩:=q5.cells;have d1:=hc6.c1;clear hc6;obtain ⟨A1,cc1,hcut,hcc,hCm⟩:=cut_own (lo:=i) (hi:=i') HVQ.out.rd HVQ.out.cap h0 q1 q2;obtain ⟨cs,ho,hreps⟩:=HP.out.1.keep HR.out.is q5.ke;rw [List.length_map] at ho;have HQ:=Aside0.mk (And.intro q5 (And.intro hcc (And.intro hCm (And.intro ho hreps))));clear q5 hcc hCm ho hreps)
      | (at_builtin;refine print_append_cells (w0:=w) w.heap.size rfl (.tmp 34) (.tmp 44) 26 55 _ 6 128 (by rfl) Tryz.underlying26 info55z' rfl (by decide) (by decide) (.slice A5 qs.length c5) qs.length cs [.string kind,.slice A1 (mid xs i i').length cc1,.slice none 0 0,.slice none 0 0,.slice none 0 0,.string ⟨#[]⟩] (by rfl) (by simp [Act.eval]) rfl (by intro u hu;simp at hu;rcases hu with rfl|rfl|rfl|rfl <;> rfl) HQ.out.2.2.2.1 HQ.out.1.be HQ.out.1.be.size (by have:=HP.out.2.2;omega) ?_;intro v1 w6 hown1 hB1 hg1 hat1;have P1:=Aside0.mk (And.intro hown1 (And.intro hB1 hg1));clear hown1 hB1 hg1 hat1))
     go_roundg (((xs.length : Int) - i').toNat + (if o' then 0 else 1))
     case measure =>
      have e:=HS.out
      have hm:=HM.out
      rw [e.1,e.2.1] at hm
      simp at hm
      split <;> omega
     case rel =>
      obtain ⟨r3,r4,r5,r6,r7⟩:=HQ.out
      obtain ⟨s1,s2,s3⟩:=P1.out
      have hn : Kd.C (Kd.int .u8) wq none 0 []:=⟨rfl,by decide,fun h => absurd h (by decide)⟩
      have e:=HS.out
      have hstep : tkS xs F (n + 1) = (qs ++ [(kind,mid xs i i')],i',o'):=by
       rw [tkS_step (by rw [e.1];omega) (by rw [e.2.1])]
       rw [e.1,e.2.2,HK.out.1,HK.out.2.1,HK.out.2.2]
      refine ⟨n + 1,?_,?_,?_⟩
      ·rw [hstep];exact ⟨IsS115.grownC r3.is r6 s3,s2,KeepBut.refl _ _ _⟩
      ·rw [hstep]
       refine ⟨cs ++ [.string kind,.slice A1 (mid xs i i').length cc1,.slice none 0 0,.slice none 0 0,.slice none 0 0,.string ⟨#[]⟩],?_,?_⟩
       ·simpa using s1
       ·rw [List.map_append]
        exact Reps.snoc r7 (k55_mk wq (tkPc (kind,mid xs i i')) (A1:=A1) (c1:=cc1) r4 r5 (A2:=none) (c2:=0) (Nat.le_refl _) hn (A3:=none) (c3:=0) (Nat.le_refl _) hn (A4:=none) (c4:=0) (Nat.le_refl _) hn) rfl
      ·rw [hstep];exact ⟨rfl⟩
noncomputable def FF (xs : List Int) : Int → Bool → ByteArray × Int × Bool:=by
 classical
 exact if h : Tx xs then Classical.choose (tkFs xs h) else fun _ _ => default
theorem FF_ok {xs : List Int} (h : Tx xs) : TkFs xs (FF xs):=by
 unfold FF
 rw [dif_pos h]
 exact Classical.choose_spec (tkFs xs h)
noncomputable def toks (xs : List Int) : List (ByteArray × List Int):=(tkS xs (FF xs) (xs.length + 1)).1
noncomputable def tokO (xs : List Int) : Bool:=(tkS xs (FF xs) (xs.length + 1)).2.2
theorem toks_C {xs : List Int} (h : Tx xs) (ho : tokO xs = false) : TkC xs (toks xs) xs.length false:=by
 have hF:=FF_ok h
 obtain ⟨i1,i2,i3,i4,i5⟩:=tkS_inv hF (xs.length + 1)
 unfold tokO at ho
 unfold toks
 rw [ho] at i1
 have : (tkS xs (FF xs) (xs.length + 1)).2.1 = xs.length:=by
  rcases Int.lt_or_le (tkS xs (FF xs) (xs.length + 1)).2.1 xs.length with h'|h'
  ·have:=i5 ⟨h',ho⟩
   omega
  ·omega
 rw [this] at i1
 exact i1
end Go.Proofs.YtlglijnaeaonpaaGreatDoor.Lx
end
