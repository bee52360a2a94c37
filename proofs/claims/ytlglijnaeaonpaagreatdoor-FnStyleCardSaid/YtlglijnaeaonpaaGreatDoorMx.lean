/- FnStyle: a part of the proof (Mx). -/
import Derived.Test.YtlglijnaeaonpaaGreatDoorMv
import Derived.Test.YtlglijnaeaonpaaGreatDoorMw
import Derived.StillTailTactics
import Derived.Deep.LoopGhost
import Derived.Deep.DeepCutAuto
import Derived.ArgAppend
import Derived.Test.YtlglijnaeaonpaaGreatDoorMq
import Derived.Deep.SlicePairs
import Derived.ProofKit
section
set_option maxHeartbeats 8000000
set_option maxRecDepth 100000
set_option linter.unusedVariables false
set_option linter.unusedSimpArgs false
namespace Go.Proofs.YtlglijnaeaonpaaGreatDoor.Lx
open Go.RowKit Go.Proofs.YtlglijnaeaonpaaGreatDoorW.PrintWords Go.Proofs.YtlglijnaeaonpaaGreatDoor.PFnStyle
theorem zz_any {w : World} {A : Option Addr} {c : Nat} {ds : List S68} (hd : Kd.C k68 w A ds.length ds) (hc : ds.length ≤ c) :
  ∃ r,Calls Tryz.prog 10 #[.slice A ds.length c] w (fun e w' => e = .returned (.bool r) ∧ Below w.heap.size w w') ∧ (r = true → Fit1 ds):=by
 obtain ⟨r,h1,h2⟩:=zz1_f ds
 exact ⟨r,laws_zzFits1.calls 4294967300 A c ds r w hd hc (h1 _ (Nat.le_refl _)),h2⟩
theorem dok_of {w : World} {A : Option Addr} {c : Nat} {ds : List S68} (h : DL w A c ds) (hv : Vds ds) : ∀ d ∈ ds,Dok d:=by
 intro d hd
 refine ⟨hv.ok d hd,fun x hx => ⟨?_,(h.by_ d hd).2 x hx⟩⟩
 obtain ⟨qs,hq⟩:=(hv.ok d hd).words.ok x hx
 have:=hq.len
 omega
theorem text_any {w : World} {A : Option Addr} {c eT : Nat} {eA : Addr} {ds : List S68} {st : Int} (h : DL w A c ds) (hv : Vds ds) (hs0 : 0 ≤ st) (hs1 : st ≤ 2) (h0 : 0 < w.heap.size) (heof : w.cell? ⟨0,0,none⟩ = some (.iface eT (.pointer (some eA))))
  (heq : ∀ W : World,(binOp .eql 61 (.iface eT (.pointer (some eA))) (.iface eT (.pointer (some eA)))).run Tryz.prog W = .ok (.bool true) W) :
  Calls Tryz.prog 12 #[.slice A ds.length c,.int .i64 st] w fun e w1 => ∃ A1 n1 c1,e = .returned (.slice A1 n1 c1) ∧ Below w.heap.size w w1 ∧
   Calls Tryz.prog 7 #[.slice A1 n1 c1,.bool true] w1 fun e w2 => ∃ v,e = .returned (.tuple #[v,.bool true]) ∧ Pcs w1.heap.size w2 v (ds.map dclPc) ∧ Below w1.heap.size w1 w2:=by
 refine (DeclarationsText_any h hv st hs0 hs1).mono ?_
 rintro e w1 ⟨v,rfl,hown,hb⟩
 obtain ⟨A1,c1,rfl,hrd⟩:=own_reads hown
 have hok:=dok_of h hv
 have hlen:=tx_len (st:=st) hok
 have hl:=hv.len
 exact ⟨A1,_,c1,rfl,hb,rules_any hrd (by omega) (by have:=hb.size;omega) (pw_cell_below hb heof) (good_of (tx_gb hok)) (sheet_of hok) (by rw [List.length_map];omega) heq⟩
theorem style_any {w : World} {A : Option Addr} {c eT : Nat} {eA : Addr} {ds : List S68} {st : Int} (hd : Kd.C k68 w A ds.length ds) (hc : ds.length ≤ c) (hby : ∀ d ∈ ds,(∀ j : Nat,0 ≤ d.f0.getD j 0 ∧ d.f0.getD j 0 ≤ 255) ∧ ∀ x ∈ d.f1,∀ j : Nat,0 ≤ x.getD j 0 ∧ x.getD j 0 ≤ 255)
  (hT : TabU w) (h0 : 0 < w.heap.size) (heof : w.cell? ⟨0,0,none⟩ = some (.iface eT (.pointer (some eA))))
  (heq : ∀ W : World,(binOp .eql 61 (.iface eT (.pointer (some eA))) (.iface eT (.pointer (some eA)))).run Tryz.prog W = .ok (.bool true) W) :
  Calls Tryz.prog 4 #[.slice A ds.length c,.int .i64 st] w fun e w' => e = .returned (.bool true) ∧ Below w.heap.size w w':=by
 obtain ⟨r,hz,hfit⟩:=zz_any hd hc
 have HZ:=Aside0.mk hz
 have HX:=Aside0.mk (And.intro hd (And.intro hc (And.intro hby (And.intro hT (And.intro h0 (And.intro heof heq))))))
 clear hd hc hby hT h0 heof heq hz
 cases r with
 | false =>
  clear hfit
  go_enter Tryz.func4,Tryz.ntmps4
  go_wp2_with (first
   | (go_at_call 10;(with_reducible refine HZ.out.mono ?_);rintro e w1 ⟨rfl,hb1⟩;have HB1:=Aside0.mk hb1;clear hb1))
  go_ret
  exact ⟨rfl,HB1.out⟩
 | true =>
  have hfit:=hfit rfl
  have HF:=Aside0.mk hfit
  clear hfit
  by_cases hs0 : st < 0
  ·have hd0 : decide (st < 0) = true:=decide_eq_true hs0
   go_enter Tryz.func4,Tryz.ntmps4
   go_wp2_with (first
    | (go_at_call 10;(with_reducible refine HZ.out.mono ?_);rintro e w1 ⟨rfl,hb1⟩;have HB1:=Aside0.mk hb1;clear hb1))
   go_ret
   exact ⟨rfl,HB1.out⟩
  ·by_cases hs1 : st > 2
   ·have hd0 : decide (st < 0) = false:=decide_eq_false hs0
    have hd1 : decide (st > 2) = true:=decide_eq_true hs1
    go_enter Tryz.func4,Tryz.ntmps4
    go_wp2_with (first
     | (go_at_call 10;(with_reducible refine HZ.out.mono ?_);rintro e w1 ⟨rfl,hb1⟩;have HB1:=Aside0.mk hb1;clear hb1))
    go_ret
    exact ⟨rfl,HB1.out⟩
   ·have hd0 : decide (st < 0) = false:=decide_eq_false hs0
    have hd1 : decide (st > 2) = false:=decide_eq_false hs1
    have hdl : DL w A c ds:=⟨HX.out.2.1,HX.out.1,HX.out.2.2.1,HF.out⟩
    have hA : ∀ W,Below w.heap.size w W → Calls Tryz.prog 11 #[.slice A ds.length c] W fun e w' => (e = .returned (.bool false) ∧ Below W.heap.size W w') ∨ (e = .returned (.bool true) ∧ Below W.heap.size W w' ∧ Aside0 (Vds ds)):=fun W hb =>
     (AreDeclarations_any (hdl.below hb) (HX.out.2.2.2.1.below hb)).mono fun e w' ⟨r,he,hb',hv⟩ => by
      cases r with
      | false => exact .inl ⟨he,hb'⟩
      | true => exact .inr ⟨he,hb',⟨hv rfl⟩⟩
    have hT : ∀ W,Below w.heap.size w W → Vds ds → Calls Tryz.prog 12 #[.slice A ds.length c,.int .i64 st] W fun e w1 => ∃ A1 n1 c1,e = .returned (.slice A1 n1 c1) ∧ Below W.heap.size W w1 ∧
      Calls Tryz.prog 7 #[.slice A1 n1 c1,.bool true] w1 fun e w2 => ∃ v,e = .returned (.tuple #[v,.bool true]) ∧ Pcs w1.heap.size w2 v (ds.map dclPc) ∧ Below w1.heap.size w1 w2 :=
     fun W hb hv => text_any (hdl.below hb) hv (by omega) (by omega) (Nat.lt_of_lt_of_le HX.out.2.2.2.2.1 hb.size) (pw_cell_below hb HX.out.2.2.2.2.2.1) HX.out.2.2.2.2.2.2
    have hD : ∀ W,Below w.heap.size w W → Vds ds → Calls Tryz.prog 13 #[.slice A ds.length c] W (DpP W (ds.map dclPc)):=fun W hb hv => DeclarationPieces_any (hdl.below hb) hv (HX.out.2.2.2.1.below hb)
    have hS : ∀ {B : Nat} {wq W : World} {va vb : Value},Pcs B W va (ds.map dclPc) → PcsS wq W vb (ds.map dclPc) → Below wq.heap.size wq W → Vds ds → Calls Tryz.prog 8 #[va,vb] W fun e w' => e = .returned (.bool true) ∧ Below W.heap.size W w' :=
     fun ha hb hbq hv => SameParts_true ha hb hbq (fun p hp => by obtain ⟨d,_,rfl⟩:=List.mem_map.1 hp;rfl) (by rw [List.length_map];have:=hv.len;omega)
    have HHA:=Aside0.mk hA
    have HHT:=Aside0.mk hT
    have HHD:=Aside0.mk hD
    have HHS : Aside0 (∀ (B : Nat) (wq W : World) (va vb : Value),Pcs B W va (ds.map dclPc) → PcsS wq W vb (ds.map dclPc) → Below wq.heap.size wq W → Vds ds → Calls Tryz.prog 8 #[va,vb] W fun e w' => e = .returned (.bool true) ∧ Below W.heap.size W w'):=⟨fun _ _ _ _ _ => hS⟩
    clear hA hT hD hS hdl hs0 hs1 HX
    go_enter Tryz.func4,Tryz.ntmps4
    go_wp2_with (first
     | (go_at_call 10;(with_reducible refine HZ.out.mono ?_);rintro e w1 ⟨rfl,hb1⟩;have HB1:=Aside0.mk hb1;clear hb1)
     | (go_at_call 11;(with_reducible refine (HHA.out _ HB1.out).mono ?_);rintro e w2 (⟨rfl,hb2⟩|⟨rfl,hb2,HV⟩) <;> have HB2:=Aside0.mk (HB1.out.trans (hb2.mono HB1.out.size)) <;> clear hb2)
     | (go_at_call 12;(with_reducible refine (HHT.out _ HB2.out HV.out).mono ?_);rintro e w3 ⟨A1,n1,c1,rfl,hb3,hr⟩;have HB3:=Aside0.mk (HB2.out.trans (hb3.mono HB2.out.size));have HR:=Aside0.mk hr;clear hb3 hr)
     | (go_at_call 7;(with_reducible refine HR.out.mono ?_);rintro e w4 ⟨v4,rfl,hp4,hb4⟩;obtain ⟨A4,c4,e4⟩:=hp4.slice_;rw [List.length_map] at e4;subst e4;have HB4:=Aside0.mk (HB3.out.trans (hb4.mono HB3.out.size));have HP4:=Aside0.mk hp4;clear hb4 hp4)
     | (go_at_call 13;(with_reducible refine (HHD.out _ HB4.out HV.out).mono ?_);rintro e w5 ⟨v5,rfl,hp5,hb5⟩;obtain ⟨A5,c5,e5⟩:=hp5.slice;rw [List.length_map] at e5;subst e5;have HB5:=Aside0.mk (And.intro (HB4.out.trans (hb5.mono HB4.out.size)) hb5);have HP5:=Aside0.mk hp5;clear hb5 hp5)
     | (go_at_call 8;(with_reducible refine (HHS.out _ _ _ _ _ (HP4.out.below HB5.out.2) HP5.out HB5.out.2 HV.out).mono ?_);rintro e w6 ⟨rfl,hb6⟩;have HB6:=Aside0.mk (HB5.out.1.trans (hb6.mono HB5.out.1.size));clear hb6))
    ·go_ret
     exact ⟨rfl,HB2.out⟩
    ·go_ret
     exact ⟨rfl,HB6.out⟩
end Go.Proofs.YtlglijnaeaonpaaGreatDoor.Lx
end
section
set_option maxHeartbeats 8000000
set_option maxRecDepth 100000
set_option linter.unusedVariables false
set_option linter.unusedSimpArgs false
namespace Go.Proofs.YtlglijnaeaonpaaGreatDoor.Lx
open Go.RowKit Go.ChangeShapes Go.WideShapes Go.ChangeAt Go.Deep Go.Proofs.YtlglijnaeaonpaaGreatDoorW.PrintWords Go.Proofs.YtlglijnaeaonpaaGreatDoor.PFnStyle
theorem C_mk {α : Type} (d : Kd α) {w : World} {a : Addr} {len : Nat} {xs : List α} (hl : xs.length = len) (hm : len ≤ maxLen) (h : ∀ j p,xs[j]? = some p → ∃ c,c.length = d.sz ∧ d.K w p c ∧ ∀ i u,c[i]? = some u → w.cell? (a.add (j * d.sz + i)) = some u) : Kd.C d w (some a) len xs :=
 ⟨hl,Nat.le_trans hm (by decide),fun _ => ⟨a,rfl,h⟩⟩
theorem C_none {α : Type} (d : Kd α) (w : World) : Kd.C d w none 0 ([] : List α):=⟨rfl,by decide,fun h => absurd h (by decide)⟩
structure ByK (W : World) (v : Value) (xs : List Int) : Prop where
 rd : ∃ A c,v = .slice A xs.length c ∧ xs.length ≤ c ∧ Kd.C (Kd.int .u8) W A xs.length xs
 by_ : ∀ j : Nat,0 ≤ xs.getD j 0 ∧ xs.getD j 0 ≤ 255
variable {H : Type} {enc : TypeId × Value → H} {W : World}
theorem open_by {n : Nat} {v : Value} {y : DataW H × List MemPlace} (h : DataW.trod enc Tryz.prog W 0 (fun _ => true) true n 24 [v] = some y) : ∃ xs,ByK W v xs:=by
 rcases open_ints Tryz.underlying24 Tryz.underlying5 (by kernel_rfl) h with ⟨hcs,_⟩|⟨a,len,cap,zs,hcs,_,hle,hcap,hz,hx,hcell,hwf⟩
 ·injection hcs with hv _
  subst hv
  exact ⟨[],⟨none,0,rfl,Nat.le_refl _,C_none _ _⟩,fun j => by simp⟩
 ·injection hcs with hv _
  subst hv
  simp only [if_true] at hz
  have htl : (zs.take len).length = len:=by rw [List.length_take];omega
  have hby : ∀ z ∈ zs,0 ≤ z ∧ z ≤ 255:=fun z hz' => by
   have:=hwf z hz'
   simp [Lit.wf,IntKind.min,IntKind.max,IntKind.bits,IntKind.signed] at this
   omega
  refine ⟨zs.take len,⟨some a,cap,by rw [htl],by rw [htl];exact hle,?_⟩,fun j => ?_⟩
  ·rw [htl]
   refine C_mk _ htl (by omega) fun j p hj => ?_
   have hj1 : j < len:=by
    have:=(List.getElem?_eq_some_iff.1 hj).1
    omega
   rw [List.getElem?_take,if_pos hj1] at hj
   refine ⟨[.int .u8 p],rfl,rfl,fun i u hu => ?_⟩
   have hj2:=(List.getElem?_eq_some_iff.1 hj).1
   have hc:=hcell j hj2
   rw [List.getD_eq_getElem?_getD,hj] at hc
   match i,hu with
   | 0,hu =>
    injection hu with hu
    subst hu
    show W.cell? (a.add (j * 1 + 0)) = _
    rw [Nat.mul_one,Nat.add_zero]
    exact hc
  ·rw [List.getD_eq_getElem?_getD]
   cases hj : (zs.take len)[j]? with
   | none => simp
   | some z =>
    have:=List.mem_of_mem_take (List.mem_of_getElem? hj)
    exact hby z this
structure WdK (W : World) (v : Value) (ws : List (List Int)) : Prop where
 rd : ∃ A c,v = .slice A ws.length c ∧ ws.length ≤ c ∧ Kd.C (Kd.slice 5 (Kd.int .u8)) W A ws.length ws
 by_ : ∀ x ∈ ws,∀ j : Nat,0 ≤ x.getD j 0 ∧ x.getD j 0 ≤ 255
theorem open_wd {n : Nat} {v : Value} {y : DataW H × List MemPlace} (h : DataW.trod enc Tryz.prog W 0 (fun _ => true) true n 36 [v] = some y) : ∃ ws,WdK W v ws:=by
 rcases open_slice1 Tryz.underlying36 (by kernel_rfl) h with ⟨hcs,_⟩|⟨a,len,cap,m,k,V,D,Pl,hcs,_,hle,hcap,hm,hx,hcell⟩
 ·injection hcs with hv _
  subst hv
  exact ⟨[],⟨none,0,rfl,Nat.le_refl _,C_none _ _⟩,fun x hx => by cases hx⟩
 ·injection hcs with hv _
  subst hv
  simp only [if_true] at hm
  obtain ⟨f,hf⟩:=choose_lt (n:=len) (fun i hi => open_by (hcell i (by omega)).2)
  have htl : ((List.range len).map f).length = len:=by simp
  refine ⟨(List.range len).map f,⟨some a,cap,by rw [htl],by rw [htl];exact hle,?_⟩,fun x hx => ?_⟩
  ·rw [htl]
   refine C_mk _ htl (by omega) fun j p hj => ?_
   have hj1 : j < len:=by
    have:=(List.getElem?_eq_some_iff.1 hj).1
    omega
   have hp : p = f j:=by
    rw [List.getElem?_map,List.getElem?_range hj1] at hj
    injection hj with hj
    exact hj.symm
   subst hp
   obtain ⟨A,c,e,hl,hC⟩:=(hf j hj1).rd
   refine ⟨[V j],rfl,⟨A,c,by rw [e],hl,hC⟩,fun i u hu => ?_⟩
   match i,hu with
   | 0,hu =>
    injection hu with hu
    subst hu
    show W.cell? (a.add (j * 1 + 0)) = _
    rw [Nat.mul_one,Nat.add_zero]
    exact (hcell j (by omega)).1
  ·obtain ⟨i,hi,rfl⟩:=List.mem_map.1 hx
   exact (hf i (List.mem_range.1 hi)).by_
structure DcK (W : World) (v : Value) (ds : List S68) : Prop where
 rd : ∃ A c,v = .slice A ds.length c ∧ ds.length ≤ c ∧ Kd.C k68 W A ds.length ds
 by_ : ∀ d ∈ ds,(∀ j : Nat,0 ≤ d.f0.getD j 0 ∧ d.f0.getD j 0 ≤ 255) ∧ ∀ x ∈ d.f1,∀ j : Nat,0 ≤ x.getD j 0 ∧ x.getD j 0 ≤ 255
theorem open_dc {n : Nat} {v : Value} {y : DataW H × List MemPlace} (h : DataW.trod enc Tryz.prog W 0 (fun _ => true) true n 31 [v] = some y) : ∃ ds,DcK W v ds:=by
 rcases open_slice_pairs Tryz.underlying31 Tryz.underlying68 (by kernel_rfl) rfl rfl (by kernel_rfl) (by kernel_rfl) h with ⟨hcs,_⟩|⟨a,len,cap,m,k,V0,V1,D0,D1,P0,P1,hcs,_,hle,hcap,hm,hx,hcell⟩
 ·injection hcs with hv _
  subst hv
  exact ⟨[],⟨none,0,rfl,Nat.le_refl _,C_none _ _⟩,fun x hx => by cases hx⟩
 ·injection hcs with hv _
  subst hv
  simp only [if_true] at hm
  obtain ⟨f,hf⟩:=choose_lt (n:=len) (fun i hi => open_by (hcell i (by omega)).2.2.1)
  obtain ⟨g,hg⟩:=choose_lt (n:=len) (fun i hi => open_wd (hcell i (by omega)).2.2.2)
  have htl : ((List.range len).map fun i => (⟨f i,g i⟩ : S68)).length = len:=by simp
  refine ⟨(List.range len).map fun i => (⟨f i,g i⟩ : S68),⟨some a,cap,by rw [htl],by rw [htl];exact hle,?_⟩,fun x hx => ?_⟩
  ·rw [htl]
   refine C_mk _ htl (by omega) fun j p hj => ?_
   have hj1 : j < len:=by
    have:=(List.getElem?_eq_some_iff.1 hj).1
    omega
   have hp : p = ⟨f j,g j⟩:=by
    rw [List.getElem?_map,List.getElem?_range hj1] at hj
    injection hj with hj
    exact hj.symm
   subst hp
   obtain ⟨A0,c0,e0,l0,g0⟩:=(hf j hj1).rd
   obtain ⟨A1,c1,e1,l1,g1⟩:=(hg j hj1).rd
   refine ⟨[V0 j,V1 j],rfl,?_,fun i u hu => ?_⟩
   ·rw [e0,e1]
    exact k68_mk W ⟨f j,g j⟩ l0 g0 l1 g1
   ·match i,hu with
    | 0,hu =>
     injection hu with hu
     subst hu
     show W.cell? (a.add (j * 2 + 0)) = _
     rw [Nat.add_zero]
     exact (hcell j (by omega)).1
    | 1,hu =>
     injection hu with hu
     subst hu
     exact (hcell j (by omega)).2.1
  ·obtain ⟨i,hi,rfl⟩:=List.mem_map.1 hx
   exact ⟨(hf i (List.mem_range.1 hi)).by_,(hg i (List.mem_range.1 hi)).by_⟩
end Go.Proofs.YtlglijnaeaonpaaGreatDoor.Lx
end
