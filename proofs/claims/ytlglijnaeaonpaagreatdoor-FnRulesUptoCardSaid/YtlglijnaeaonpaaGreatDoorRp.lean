/- FnRules: a part of the proof (Rp); in it lines that print.sh printed, those that are used. -/
import Derived.Test.YtlglijnaeaonpaaGreatDoorRa
import Derived.Test.YtlglijnaeaonpaaGreatDoorRo
import Derived.Lib.RabinKarpLaws
section
set_option maxHeartbeats 8000000
set_option maxRecDepth 100000
set_option linter.unusedVariables false
set_option linter.unusedSimpArgs false
namespace Go.Proofs.YtlglijnaeaonpaaGreatDoor.bG
open Go.RowKit Go.Proofs.YtlglijnaeaonpaaGreatDoorW.aC Go.Proofs.YtlglijnaeaonpaaGreatDoorW.dQ Go.Proofs.YtlglijnaeaonpaaGreatDoorW.eR
attribute [local go_sem] fZ ga iu iv fk fl gd gg
def ck.l0:Nat→ByteArray→ByteArray→Int→Option (Bool)
 | 0,_,_,_=>none
 | k+1,x0,x1,x5=>if (wrap64 (x5+(x1.size:Int)))≤(x0.size:Int) then (if 0≤x5 then (if x5≤(wrap64 (x5+(x1.size:Int))) then (if (x0.extract (x5:Int).toNat ((wrap64 (x5+(x1.size:Int))):Int).toNat).toList=x1.toList then (some true) else (ck.l0 k x0 x1 (wrap64 (x5+1)))) else (none)) else (none)) else (some false)
def ck.f (k:Nat) (a0:ByteArray) (a1:ByteArray):Option (Bool):=ck.l0 k a0 a1 0
theorem ck.calls (k:Nat) (a0:ByteArray) (a1:ByteArray) (r:Bool) (w:World) (h:ck.f k a0 a1=some r):
  Calls Tryz.prog 69 #[.string a0,.string a1] w fun e w' =>e= .returned (.bool r)∧cS w w':=by
 have H:(ck.l0 k a0 a1 0)=some r:=h
 clear h
 have H':=am H
 clear H
 go_enter Tryz.func69,Tryz.ntmps69
 go_wp2
 go_loopg [5] k (fun kq v5 w' =>∃(jb:Int),v5= .int .i64 jb∧ak (ck.l0 kq a0 a1 jb=some r)∧ak (kq≤k)∧cS w w')
 case atStart=>exact⟨(0),qF,H',⟨Nat.le_refl _⟩,qE⟩
 case round=>
  clear H'
  try clear p2
  obtain⟨jb,rfl,HA,dR,⟨m1,rfl⟩⟩:=hrel
  cases gk with
  | zero=>exact absurd HA.out (by simp [ck.l0])
  | succ k1=>
   have H:=HA.out
   clear HA
   simp only [ck.l0] at H
   by_cases c3:(wrap64 (jb+(a1.size:Int)))≤(a0.size:Int)
   ·rw [if_pos c3] at H
    have jZ:decide ((wrap64 (jb+(a1.size:Int)))≤(a0.size:Int))=true:=decide_eq_true c3
    clear c3
    by_cases c4:0≤jb
    ·rw [if_pos c4] at H
     have eF:=eq_true c4
     have uq:decide (0≤jb)=true:=decide_eq_true c4
     clear c4
     by_cases c5:jb≤(wrap64 (jb+(a1.size:Int)))
     ·rw [if_pos c5] at H
      have df:=eq_true c5
      have iX:decide (jb≤(wrap64 (jb+(a1.size:Int))))=true:=decide_eq_true c5
      have sj:=eq_true (of_decide_eq_true qH:(wrap64 (jb+(a1.size:Int)))≤(a0.size:Int))
      by_cases c7:(a0.extract (jb:Int).toNat ((wrap64 (jb+(a1.size:Int))):Int).toNat).toList=a1.toList
      ·rw [if_pos c7] at H
       have mF:((a0.extract (jb:Int).toNat ((wrap64 (jb+(a1.size:Int))):Int).toNat).toList==a1.toList)=true:=beq_iff_eq.mpr c7
       have NO:((a0.extract (jb:Int).toNat ((wrap64 (jb+(a1.size:Int))):Int).toNat).toList !=a1.toList)=false:=bne_eq_false_iff_eq.mpr c7
       clear c7
       obtain rfl:=Option.some.inj H
       go_wp2
       go_ret
       exact⟨qF,qE⟩
      ·rw [if_neg c7] at H
       have mF:((a0.extract (jb:Int).toNat ((wrap64 (jb+(a1.size:Int))):Int).toNat).toList==a1.toList)=false:=beq_eq_false_iff_ne.mpr c7
       have NO:((a0.extract (jb:Int).toNat ((wrap64 (jb+(a1.size:Int))):Int).toNat).toList !=a1.toList)=true:=bne_iff_ne.mpr c7
       have H':=am H
       clear H
       go_wp2
       go_roundg k1
       case measure=>have:=dR.out;omega
       case rel=>exact⟨(wrap64 (jb+1)),qF,H',⟨by have:=dR.out;omega⟩,qE⟩
     ·rw [if_neg c5] at H
      exact absurd H (by simp)
    ·rw [if_neg c4] at H
     exact absurd H (by simp)
   ·rw [if_neg c3] at H
    have jZ:decide ((wrap64 (jb+(a1.size:Int)))≤(a0.size:Int))=false:=decide_eq_false c3
    clear c3
    obtain rfl:=Option.some.inj H
    go_wp2
    go_ret
    exact⟨qF,qE⟩
mutual
def aG.l0:Nat→List ByteArray→List (qd)→Int→Int→Option (Bool)
 | 0,_,_,_,_=>none
 | k+1,x3,x7,x8,x9=>if x9<x8 then (if 0≤x9 then (if x9<(x7.length:Int) then (if ((av x7 x9).f0).toList=([40]:List UInt8) then (aG.j1 k x3 x7 x8 x9 ((av x7 x9).f0) (((av x7 x9).f0).toList==([40]:List UInt8)) ((av x7 x9).f0) ((av x7 x9).f1) ((av x7 x9).f2) ((av x7 x9).f3) ((av x7 x9).f4) ((av x7 x9).f5)) else (aG.j1 k x3 x7 x8 x9 ((av x7 x9).f0) (((av x7 x9).f0).toList==([102,117,110,99,116,105,111,110]:List UInt8)) ((av x7 x9).f0) ((av x7 x9).f1) ((av x7 x9).f2) ((av x7 x9).f3) ((av x7 x9).f4) ((av x7 x9).f5))) else (none)) else (none)) else (some ((x3.length:Int)==0))
def aG.j1:Nat→List ByteArray→List (qd)→Int→Int→ByteArray→Bool→ByteArray→List Int→List Int→List Int→List Int→ByteArray→Option (Bool)
 | 0,_,_,_,_,_,_,_,_,_,_,_,_=>none
 | k+1,x3,x7,x8,x9,x14,x15,x493000,x493001,x493002,x493003,x493004,x493005=>if x15=true then (if x3.length<8796093022208 then (aG.l0 k (x3++ [(⟨#[41]⟩:ByteArray)]) x7 x8 (wrap64 (x9+1))) else (none)) else (if x14.toList=([91]:List UInt8) then (if x3.length<8796093022208 then (aG.l0 k (x3++ [(⟨#[93]⟩:ByteArray)]) x7 x8 (wrap64 (x9+1))) else (none)) else (if x14.toList=([41]:List UInt8) then (aG.j2 k x3 x7 x8 x9 (x14.toList==([41]:List UInt8)) x493000 x493001 x493002 x493003 x493004 x493005) else (aG.j2 k x3 x7 x8 x9 (x14.toList==([93]:List UInt8)) x493000 x493001 x493002 x493003 x493004 x493005)))
def aG.j2:Nat→List ByteArray→List (qd)→Int→Int→Bool→ByteArray→List Int→List Int→List Int→List Int→ByteArray→Option (Bool)
 | 0,_,_,_,_,_,_,_,_,_,_,_=>none
 | k+1,x3,x7,x8,x9,x26,x493000,x493001,x493002,x493003,x493004,x493005=>if x26=true then (if (x3.length:Int)=0 then (some false) else (if 0≤(wrap64 ((x3.length:Int) - 1)) then (if (wrap64 ((x3.length:Int) - 1))<(x3.length:Int) then (if (ra ByteArray.empty x3 (wrap64 ((x3.length:Int) - 1))).toList=x493000.toList then (if (wrap64 ((x3.length:Int) - 1))≤(x3.length:Int) then (aG.l0 k (x3.take ((wrap64 ((x3.length:Int) - 1)):Int).toNat) x7 x8 (wrap64 (x9+1))) else (none)) else (some false)) else (none)) else (none))) else (aG.l0 k x3 x7 x8 (wrap64 (x9+1)))
end
def aG.f (k:Nat) (l0:List (qd)):Option (Bool):=aG.l0 k (([]:List ByteArray)) l0 (l0.length:Int) 0
theorem aG.calls (k:Nat) (A0:Option Addr) (c0:Nat) (l0:List (qd)) (r:Bool) (w:World) (mE:Kd.C BW w A0 l0.length l0) (gh:l0.length≤c0) (h:aG.f k l0=some r):
  Calls Tryz.prog 70 #[.slice A0 l0.length c0] w fun e w' =>e= .returned (.bool r)∧Below w.heap.size w w':=by
 have aha:=Tryz.underlying55
 have lM:=am mE
 have Xz:=am gh
 clear mE gh
 have HB:=am (Below.refl w.heap.size w)
 have H:(aG.l0 k (([]:List ByteArray)) l0 (l0.length:Int) 0)=some r:=h
 clear h
 obtain⟨ZA,AW⟩:∃y_:List ByteArray,y_=(([]:List ByteArray)):=⟨_,rfl⟩
 replace H:(aG.l0 k ZA l0 (l0.length:Int) 0)=some r:=by first|(rw [AW];with_reducible exact H)|(have lN:=(Option.bind_some _ _).symm.trans H;rw [AW];with_reducible exact lN)|(have lN:=(Option.bind_some _ _).symm.trans H;with_reducible exact lN)|with_reducible exact H|(rw [AW];exact H)|exact H
 have vS:=am AW
 clear AW
 have H':=am H
 clear H
 go_enter Tryz.func70,Tryz.ntmps70
 go_wp2_with (first|((with_reducible refine gH (N:=6) rfl ?_);(try(refine dB (by rfl) ?_;dsimp only));refine Kd.vd Kd.string _ 9 ?hg (N:=6) ?hd (xs:=([]:List ByteArray)) (inner:=[]) (ok:=fun _=>True) (okp:=fun _=>True) ?hr ?hp (fun _ hk=>hk) trivial (Below.refl _ _) (Nat.le_refl _) (by simp) ?_;(case hd=>rfl);(case hg=>rfl);(case hr=>first|(go_simp;done)|(go_simp;rfl));(case hp=>exact(eX.none _ _));intro ZB w2 tA hb JE na;clear JE na;(first|rw [←vS.out] at tA|(simp only [Int.reduceToNat] at tA;rw [←vS.out] at tA));have cR:=am (Kd.lu tA (cC qC));have cM:=am (fc qC hb);clear HB;have KS:=cR;have HB:=cM;clear cR cM;clear hb tA))
 repeat(go_quiet (first|((with_reducible refine gH (N:=6) rfl ?_);(try(refine dB (by rfl) ?_;dsimp only));refine Kd.vd Kd.string _ 9 ?hg (N:=6) ?hd (xs:=([]:List ByteArray)) (inner:=[]) (ok:=fun _=>True) (okp:=fun _=>True) ?hr ?hp (fun _ hk=>hk) trivial (Below.refl _ _) (Nat.le_refl _) (by simp) ?_;(case hd=>rfl);(case hg=>rfl);(case hr=>first|(go_simp;done)|(go_simp;rfl));(case hp=>exact(eX.none _ _));intro ZB w2 tA hb JE na;clear JE na;(first|rw [←vS.out] at tA|(simp only [Int.reduceToNat] at tA;rw [←vS.out] at tA));have cR:=am (Kd.lu tA (cC qC));have cM:=am (fc qC hb);clear HB;have KS:=cR;have HB:=cM;clear cR cM;clear hb tA));try go_wp2_with (first|((with_reducible refine gH (N:=6) rfl ?_);(try(refine dB (by rfl) ?_;dsimp only));refine Kd.vd Kd.string _ 9 ?hg (N:=6) ?hd (xs:=([]:List ByteArray)) (inner:=[]) (ok:=fun _=>True) (okp:=fun _=>True) ?hr ?hp (fun _ hk=>hk) trivial (Below.refl _ _) (Nat.le_refl _) (by simp) ?_;(case hd=>rfl);(case hg=>rfl);(case hr=>first|(go_simp;done)|(go_simp;rfl));(case hp=>exact(eX.none _ _));intro ZB w2 tA hb JE na;clear JE na;(first|rw [←vS.out] at tA|(simp only [Int.reduceToNat] at tA;rw [←vS.out] at tA));have cR:=am (Kd.lu tA (cC qC));have cM:=am (fc qC hb);clear HB;have KS:=cR;have HB:=cM;clear cR cM;clear hb tA)))
 go_loopg [3,9] k (fun kq v3 v9 w' =>∃(bX:List ByteArray) (aI:Int),v9= .int .i64 aI∧ak (aG.l0 kq bX l0 (l0.length:Int) aI=some r)∧ak (kq≤k)∧ak (Kd.R Kd.string 9 w' w.heap.size (fun _=>True) v3 bX)∧ak (Below w.heap.size w w'))
 case atStart=>exact⟨(ZA),(0),qF,H',⟨Nat.le_refl _⟩,⟨by(with_reducible repeat(first|apply Kd.cP|apply Kd.cQ|apply Kd.dA));exact KS.out⟩,⟨qC⟩⟩
 case round=>
  clear H'
  try clear p2
  obtain⟨bX,aI,rfl,HA,dR,ed,HB⟩:=hrel
  cases gk with
  | zero=>exact absurd HA.out (by simp [aG.l0])
  | succ k1=>
   have H:=HA.out
   clear HA
   simp only [aG.l0] at H
   by_cases c4:aI<(l0.length:Int)
   ·rw [if_pos c4] at H
    have eF:decide (aI<(l0.length:Int))=true:=decide_eq_true c4
    clear c4
    by_cases c5:0≤aI
    ·rw [if_pos c5] at H
     have df:decide (0≤aI)=true:=decide_eq_true c5
     clear c5
     by_cases c6:aI<(l0.length:Int)
     ·rw [if_pos c6] at H
      have sj:decide (aI<(l0.length:Int))=true:=decide_eq_true c6
      clear c6
      have HC7:=am H
      clear H
      have KT:0≤(aI:Int):=of_decide_eq_true qH
      have KU:aI<(l0.length:Int):=of_decide_eq_true qH
      obtain⟨agH,eS,eU,fo,fp,fV,fW,gO,gP,afd,pR,pS,pT,pU,pV,pW,FA,FB,FC,FD,FE,FG,FH,FI⟩:=Ch lM.out aI KT KU
      cases afd
      replace pR:=(HB.out.cell (World.block_lt_of_cell? w _ pR)).trans pR
      replace pS:=(HB.out.cell (World.block_lt_of_cell? w _ pS)).trans pS
      replace pT:=(HB.out.cell (World.block_lt_of_cell? w _ pT)).trans pT
      replace pU:=(HB.out.cell (World.block_lt_of_cell? w _ pU)).trans pU
      replace pV:=(HB.out.cell (World.block_lt_of_cell? w _ pV)).trans pV
      replace pW:=(HB.out.cell (World.block_lt_of_cell? w _ pW)).trans pW
      have adD:=am FB
      have adE:=am FA
      clear FB FA
      have adF:=am FD
      have adG:=am FC
      clear FD FC
      have adH:=am FG
      have adI:=am FE
      clear FG FE
      have adJ:=am FI
      have adK:=am FH
      clear FI FH
      replace KT:=eq_true KT
      replace KU:=eq_true KU
      go_upto_if 15 with (first|((with_reducible refine gH (N:=5) rfl ?_);(try(refine dB (by rfl) ?_;dsimp only));refine qm ?hg (N:=5) ?hd (cs:=#[.string (⟨#[]⟩:ByteArray),.slice none 0 0,.slice none 0 0,.slice none 0 0,.slice none 0 0,.string (⟨#[]⟩:ByteArray)]) (t:=55) ?hr ?_;(case hd=>rfl);(case hg=>rfl);(case hr=>first|(go_simp;done)|(go_simp;rfl));intro bW hg w8 AX hb;have cR:=am (Kd.nC (by(with_reducible repeat(first|apply Kd.cP|apply Kd.cQ|apply Kd.dA));exact ed.out) hb);have cM:=am (fc qC hb);have cY:=am (AX);have sS:=am ((by rw [hg];exact(cC qC):w.heap.size≤bW));have Fg:=am ((by rw [hg];exact(cC qC):w.heap.size≤bW));clear ed;clear HB;have ed:=cR;have HB:=cM;have br:=cY;have QP:=sS;have IE:=Fg;clear cR cM cY sS Fg;clear hb AX hg;have gY:w8.cell? ⟨bW,0,none⟩=some (.string (⟨#[]⟩:ByteArray)):=(ao br.out 0).trans rfl;have gZ:w8.cell? ⟨bW,1,none⟩=some (.slice none 0 0):=(ao br.out 1).trans rfl;have hG:w8.cell? ⟨bW,2,none⟩=some (.slice none 0 0):=(ao br.out 2).trans rfl;have xR:w8.cell? ⟨bW,3,none⟩=some (.slice none 0 0):=(ao br.out 3).trans rfl;have xS:w8.cell? ⟨bW,4,none⟩=some (.slice none 0 0):=(ao br.out 4).trans rfl;have xT:w8.cell? ⟨bW,5,none⟩=some (.string (⟨#[]⟩:ByteArray)):=(ao br.out 5).trans rfl;have xU:=ai br.out 0;have hY:=ai br.out 1;have hZ:=ai br.out 2;have xV:=ai br.out 3;have xW:=ai br.out 4;have xX:=ai br.out 5))
      repeat(go_quiet (first|((with_reducible refine gH (N:=5) rfl ?_);(try(refine dB (by rfl) ?_;dsimp only));refine qm ?hg (N:=5) ?hd (cs:=#[.string (⟨#[]⟩:ByteArray),.slice none 0 0,.slice none 0 0,.slice none 0 0,.slice none 0 0,.string (⟨#[]⟩:ByteArray)]) (t:=55) ?hr ?_;(case hd=>rfl);(case hg=>rfl);(case hr=>first|(go_simp;done)|(go_simp;rfl));intro bW hg w8 AX hb;have cR:=am (Kd.nC (by(with_reducible repeat(first|apply Kd.cP|apply Kd.cQ|apply Kd.dA));exact ed.out) hb);have cM:=am (fc qC hb);have cY:=am (AX);have sS:=am ((by rw [hg];exact(cC qC):w.heap.size≤bW));have Fg:=am ((by rw [hg];exact(cC qC):w.heap.size≤bW));clear ed;clear HB;have ed:=cR;have HB:=cM;have br:=cY;have QP:=sS;have IE:=Fg;clear cR cM cY sS Fg;clear hb AX hg;have gY:w8.cell? ⟨bW,0,none⟩=some (.string (⟨#[]⟩:ByteArray)):=(ao br.out 0).trans rfl;have gZ:w8.cell? ⟨bW,1,none⟩=some (.slice none 0 0):=(ao br.out 1).trans rfl;have hG:w8.cell? ⟨bW,2,none⟩=some (.slice none 0 0):=(ao br.out 2).trans rfl;have xR:w8.cell? ⟨bW,3,none⟩=some (.slice none 0 0):=(ao br.out 3).trans rfl;have xS:w8.cell? ⟨bW,4,none⟩=some (.slice none 0 0):=(ao br.out 4).trans rfl;have xT:w8.cell? ⟨bW,5,none⟩=some (.string (⟨#[]⟩:ByteArray)):=(ao br.out 5).trans rfl;have xU:=ai br.out 0;have hY:=ai br.out 1;have hZ:=ai br.out 2;have xV:=ai br.out 3;have xW:=ai br.out 4;have xX:=ai br.out 5));go_upto_if 15 with (first|((with_reducible refine gH (N:=5) rfl ?_);(try(refine dB (by rfl) ?_;dsimp only));refine qm ?hg (N:=5) ?hd (cs:=#[.string (⟨#[]⟩:ByteArray),.slice none 0 0,.slice none 0 0,.slice none 0 0,.slice none 0 0,.string (⟨#[]⟩:ByteArray)]) (t:=55) ?hr ?_;(case hd=>rfl);(case hg=>rfl);(case hr=>first|(go_simp;done)|(go_simp;rfl));intro bW hg w8 AX hb;have cR:=am (Kd.nC (by(with_reducible repeat(first|apply Kd.cP|apply Kd.cQ|apply Kd.dA));exact ed.out) hb);have cM:=am (fc qC hb);have cY:=am (AX);have sS:=am ((by rw [hg];exact(cC qC):w.heap.size≤bW));have Fg:=am ((by rw [hg];exact(cC qC):w.heap.size≤bW));clear ed;clear HB;have ed:=cR;have HB:=cM;have br:=cY;have QP:=sS;have IE:=Fg;clear cR cM cY sS Fg;clear hb AX hg;have gY:w8.cell? ⟨bW,0,none⟩=some (.string (⟨#[]⟩:ByteArray)):=(ao br.out 0).trans rfl;have gZ:w8.cell? ⟨bW,1,none⟩=some (.slice none 0 0):=(ao br.out 1).trans rfl;have hG:w8.cell? ⟨bW,2,none⟩=some (.slice none 0 0):=(ao br.out 2).trans rfl;have xR:w8.cell? ⟨bW,3,none⟩=some (.slice none 0 0):=(ao br.out 3).trans rfl;have xS:w8.cell? ⟨bW,4,none⟩=some (.slice none 0 0):=(ao br.out 4).trans rfl;have xT:w8.cell? ⟨bW,5,none⟩=some (.string (⟨#[]⟩:ByteArray)):=(ao br.out 5).trans rfl;have xU:=ai br.out 0;have hY:=ai br.out 1;have hZ:=ai br.out 2;have xV:=ai br.out 3;have xW:=ai br.out 4;have xX:=ai br.out 5)))
      (try simp only [Act.put,List.setIfInBounds_toArray,List.set_cons_zero,List.set_cons_succ])
      go_cut [15] (fun v15 wc=>∃(kq:Nat) (FJ:Bool),v15= .bool FJ∧ak (aG.j1 kq bX l0 (l0.length:Int) aI ((av l0 aI).f0) FJ ((av l0 aI).f0) ((av l0 aI).f1) ((av l0 aI).f2) ((av l0 aI).f3) ((av l0 aI).f4) ((av l0 aI).f5)=some r)∧ak (kq≤k1)∧ak (Kd.R Kd.string 9 wc w.heap.size (fun _=>True) u3 bX)∧ak (wc.heap[bW]? =some (.cells #[.string ((av l0 aI).f0),(.slice eS ((av l0 aI).f1).length eU),(.slice fo ((av l0 aI).f2).length fp),(.slice fV ((av l0 aI).f3).length fW),(.slice gO ((av l0 aI).f4).length gP),.string ((av l0 aI).f5)] 55 (0,0)))∧ak (Below w.heap.size w wc))
      case first=>
       have H:=HC7.out
       clear HC7
       by_cases eZ:((av l0 aI).f0).toList=([40]:List UInt8)
       ·rw [if_pos eZ] at H
        have mg:(((av l0 aI).f0).toList==([40]:List UInt8))=true:=beq_iff_eq.mpr eZ
        have qT:(((av l0 aI).f0).toList !=([40]:List UInt8))=false:=bne_eq_false_iff_eq.mpr eZ
        clear eZ
        (first|rw [mg]|(simp only [cB,cJ];rw [mg])|skip)
        have H':=am H
        clear H
        go_wp2
        repeat(go_quiet (fail);try go_wp2)
        go_meet
        case rel=>exact⟨_,((((av l0 aI).f0).toList==([40]:List UInt8))),qF,H',⟨by have:=dR.out;first|omega|exact Nat.le_refl _⟩,⟨by(with_reducible repeat(first|apply Kd.cP|apply Kd.cQ|apply Kd.dA));exact Kd.oJ (Kd.me (p:=⟨bW,5,none⟩) (Kd.me (p:=⟨bW,4,none⟩) (Kd.me (p:=⟨bW,3,none⟩) (Kd.me (p:=⟨bW,2,none⟩) (Kd.me (p:=⟨bW,1,none⟩) (Kd.me (p:=⟨bW,0,none⟩) (Kd.wk ed.out br.out (by decide)) (fun _ hk=>hk.2) (.string ((av l0 aI).f0))) (fun _ hk=>hk.2) (.slice eS ((av l0 aI).f1).length eU)) (fun _ hk=>hk.2) (.slice fo ((av l0 aI).f2).length fp)) (fun _ hk=>hk.2) (.slice fV ((av l0 aI).f3).length fW)) (fun _ hk=>hk.2) (.slice gO ((av l0 aI).f4).length gP)) (fun _ hk=>hk.2) (.string ((av l0 aI).f5))) (fun _ hk=>trivial)⟩,⟨by(with_reducible repeat(first|refine cg ?_ _|refine cL ?_|refine bm ?_ _));refine gr (cs:=#[.string ((av l0 aI).f0),.slice eS ((av l0 aI).f1).length eU,.slice fo ((av l0 aI).f2).length fp,.slice fV ((av l0 aI).f3).length fW,.slice gO ((av l0 aI).f4).length gP,.string (⟨#[]⟩:ByteArray)]) ?_ 5 _ rfl;(with_reducible repeat(first|refine cg ?_ _|refine cL ?_|refine bm ?_ _));refine gr (cs:=#[.string ((av l0 aI).f0),.slice eS ((av l0 aI).f1).length eU,.slice fo ((av l0 aI).f2).length fp,.slice fV ((av l0 aI).f3).length fW,.slice none 0 0,.string (⟨#[]⟩:ByteArray)]) ?_ 4 _ rfl;(with_reducible repeat(first|refine cg ?_ _|refine cL ?_|refine bm ?_ _));refine gr (cs:=#[.string ((av l0 aI).f0),.slice eS ((av l0 aI).f1).length eU,.slice fo ((av l0 aI).f2).length fp,.slice none 0 0,.slice none 0 0,.string (⟨#[]⟩:ByteArray)]) ?_ 3 _ rfl;(with_reducible repeat(first|refine cg ?_ _|refine cL ?_|refine bm ?_ _));refine gr (cs:=#[.string ((av l0 aI).f0),.slice eS ((av l0 aI).f1).length eU,.slice none 0 0,.slice none 0 0,.slice none 0 0,.string (⟨#[]⟩:ByteArray)]) ?_ 2 _ rfl;(with_reducible repeat(first|refine cg ?_ _|refine cL ?_|refine bm ?_ _));refine gr (cs:=#[.string ((av l0 aI).f0),.slice none 0 0,.slice none 0 0,.slice none 0 0,.slice none 0 0,.string (⟨#[]⟩:ByteArray)]) ?_ 1 _ rfl;(with_reducible repeat(first|refine cg ?_ _|refine cL ?_|refine bm ?_ _));refine gr (cs:=#[.string (⟨#[]⟩:ByteArray),.slice none 0 0,.slice none 0 0,.slice none 0 0,.slice none 0 0,.string (⟨#[]⟩:ByteArray)]) ?_ 0 _ rfl;(with_reducible repeat(first|refine cg ?_ _|refine cL ?_|refine bm ?_ _));exact br.out⟩,⟨qD⟩⟩
       ·rw [if_neg eZ] at H
        have mg:(((av l0 aI).f0).toList==([40]:List UInt8))=false:=beq_eq_false_iff_ne.mpr eZ
        have qT:(((av l0 aI).f0).toList !=([40]:List UInt8))=true:=bne_iff_ne.mpr eZ
        (first|rw [mg]|(simp only [cB,cJ];rw [mg])|skip)
        have H':=am H
        clear H
        go_wp2
        repeat(go_quiet (fail);try go_wp2)
        go_meet
        case rel=>exact⟨_,((((av l0 aI).f0).toList==([102,117,110,99,116,105,111,110]:List UInt8))),qF,H',⟨by have:=dR.out;first|omega|exact Nat.le_refl _⟩,⟨by(with_reducible repeat(first|apply Kd.cP|apply Kd.cQ|apply Kd.dA));exact Kd.oJ (Kd.me (p:=⟨bW,5,none⟩) (Kd.me (p:=⟨bW,4,none⟩) (Kd.me (p:=⟨bW,3,none⟩) (Kd.me (p:=⟨bW,2,none⟩) (Kd.me (p:=⟨bW,1,none⟩) (Kd.me (p:=⟨bW,0,none⟩) (Kd.wk ed.out br.out (by decide)) (fun _ hk=>hk.2) (.string ((av l0 aI).f0))) (fun _ hk=>hk.2) (.slice eS ((av l0 aI).f1).length eU)) (fun _ hk=>hk.2) (.slice fo ((av l0 aI).f2).length fp)) (fun _ hk=>hk.2) (.slice fV ((av l0 aI).f3).length fW)) (fun _ hk=>hk.2) (.slice gO ((av l0 aI).f4).length gP)) (fun _ hk=>hk.2) (.string ((av l0 aI).f5))) (fun _ hk=>trivial)⟩,⟨by(with_reducible repeat(first|refine cg ?_ _|refine cL ?_|refine bm ?_ _));refine gr (cs:=#[.string ((av l0 aI).f0),.slice eS ((av l0 aI).f1).length eU,.slice fo ((av l0 aI).f2).length fp,.slice fV ((av l0 aI).f3).length fW,.slice gO ((av l0 aI).f4).length gP,.string (⟨#[]⟩:ByteArray)]) ?_ 5 _ rfl;(with_reducible repeat(first|refine cg ?_ _|refine cL ?_|refine bm ?_ _));refine gr (cs:=#[.string ((av l0 aI).f0),.slice eS ((av l0 aI).f1).length eU,.slice fo ((av l0 aI).f2).length fp,.slice fV ((av l0 aI).f3).length fW,.slice none 0 0,.string (⟨#[]⟩:ByteArray)]) ?_ 4 _ rfl;(with_reducible repeat(first|refine cg ?_ _|refine cL ?_|refine bm ?_ _));refine gr (cs:=#[.string ((av l0 aI).f0),.slice eS ((av l0 aI).f1).length eU,.slice fo ((av l0 aI).f2).length fp,.slice none 0 0,.slice none 0 0,.string (⟨#[]⟩:ByteArray)]) ?_ 3 _ rfl;(with_reducible repeat(first|refine cg ?_ _|refine cL ?_|refine bm ?_ _));refine gr (cs:=#[.string ((av l0 aI).f0),.slice eS ((av l0 aI).f1).length eU,.slice none 0 0,.slice none 0 0,.slice none 0 0,.string (⟨#[]⟩:ByteArray)]) ?_ 2 _ rfl;(with_reducible repeat(first|refine cg ?_ _|refine cL ?_|refine bm ?_ _));refine gr (cs:=#[.string ((av l0 aI).f0),.slice none 0 0,.slice none 0 0,.slice none 0 0,.slice none 0 0,.string (⟨#[]⟩:ByteArray)]) ?_ 1 _ rfl;(with_reducible repeat(first|refine cg ?_ _|refine cL ?_|refine bm ?_ _));refine gr (cs:=#[.string (⟨#[]⟩:ByteArray),.slice none 0 0,.slice none 0 0,.slice none 0 0,.slice none 0 0,.string (⟨#[]⟩:ByteArray)]) ?_ 0 _ rfl;(with_reducible repeat(first|refine cg ?_ _|refine cL ?_|refine bm ?_ _));exact br.out⟩,⟨qD⟩⟩
      case rest=>
       clear HC7
       try clear c1
       try clear p2
       try clear c4
       try clear eF
       try clear p4
       try clear q4
       try clear ZC
       try clear c5
       try clear df
       try clear c6
       try clear sj
       try clear c7
       try clear eZ
       try clear mg
       try clear qT
       try clear gY
       try clear gZ
       try clear hG
       try clear xR
       try clear xS
       try clear xT
       try clear xU
       try clear hY
       try clear hZ
       try clear xV
       try clear xW
       try clear xX
       try clear pR
       try clear pS
       try clear pT
       try clear pU
       try clear pV
       try clear pW
       try clear p2
       try clear KT
       try clear KU
       obtain⟨kq,FJ,rfl,HA,MF,ed,br,HB⟩:=hcut
       cases kq with
       | zero=>exact absurd HA.out (by simp [aG.j1])
       | succ Oz=>
        have H:=HA.out
        clear HA
        simp only [aG.j1] at H
        by_cases kJ:FJ=true
        ·subst kJ
         have H1:(if bX.length<8796093022208 then (aG.l0 Oz (bX++ [(⟨#[41]⟩:ByteArray)]) l0 (l0.length:Int) (wrap64 (aI+1))) else (none))=some r:=by rw [if_pos rfl] at H;exact H
         clear H
         have H:=H1
         clear H1
         by_cases ln:bX.length<8796093022208
         ·rw [if_pos ln] at H
          have KW:=am ln
          clear ln
          obtain⟨ZD,AY⟩:∃y_:List ByteArray,y_=(bX++ [(⟨#[41]⟩:ByteArray)]):=⟨_,rfl⟩
          replace H:(aG.l0 Oz ZD l0 (l0.length:Int) (wrap64 (aI+1)))=some r:=by first|(rw [AY];with_reducible exact H)|(have lN:=(Option.bind_some _ _).symm.trans H;rw [AY];with_reducible exact lN)|(have lN:=(Option.bind_some _ _).symm.trans H;with_reducible exact lN)|with_reducible exact H|(rw [AY];exact H)|exact H
          have KX:=am AY
          clear AY
          have H':=am H
          clear H
          go_wp2_with (first|((with_reducible refine eD (b:=.append) (xs:=#[.tmp 18,.tmp 19]) rfl ?_);(try(refine dB (by rfl) ?_;dsimp only));at_builtin;refine Kd.jl Kd.string (w0:=w) w.heap.size rfl (.tmp 18) (.tmp 19) 73 9 (.string ⟨#[]⟩) 16 rfl Tryz.underlying73 si rfl (by decide) (by omega) u3 bX (⟨#[41]⟩:ByteArray) [.string (⟨#[41]⟩:ByteArray)] (fun _=>True) (fun _=>False) rfl rfl ?aP (fun _ hk=>hk.elim) ?aF ?aO ?aB ?aS ?aL ?_;(case aP=>exact rfl);(case aB=>exact qD);(case aF=>exact(fun _ _=>trivial));(case aO=>exact(by(with_reducible repeat(first|apply Kd.cP|apply Kd.cQ|apply Kd.dA));exact ed.out));(case aS=>exact(cC qD));(case aL=>have:=KW.out;omega);intro ZE Qh ho hb hg dz;rw [←KX.out] at ho;have cR:=am (cE (g:=bW) (o:=.cells #[.string ((av l0 aI).f0),.slice eS ((av l0 aI).f1).length eU,.slice fo ((av l0 aI).f2).length fp,.slice fV ((av l0 aI).f3).length fW,.slice gO ((av l0 aI).f4).length gP,.string ((av l0 aI).f5)] 55 (0,0)) (by(with_reducible repeat(first|refine cg ?_ _|refine cL ?_|refine bm ?_ _));exact br.out) hg (Kd.Gi ed.out br.out (by decide)));have cM:=am (hb);have cY:=am (ho);clear br;clear HB;clear ed;have br:=cR;have HB:=cM;have KY:=cY;clear cR cM cY;clear ho hb hg dz))
          repeat(go_quiet (first|((with_reducible refine eD (b:=.append) (xs:=#[.tmp 18,.tmp 19]) rfl ?_);(try(refine dB (by rfl) ?_;dsimp only));at_builtin;refine Kd.jl Kd.string (w0:=w) w.heap.size rfl (.tmp 18) (.tmp 19) 73 9 (.string ⟨#[]⟩) 16 rfl Tryz.underlying73 si rfl (by decide) (by omega) u3 bX (⟨#[41]⟩:ByteArray) [.string (⟨#[41]⟩:ByteArray)] (fun _=>True) (fun _=>False) rfl rfl ?aP (fun _ hk=>hk.elim) ?aF ?aO ?aB ?aS ?aL ?_;(case aP=>exact rfl);(case aB=>exact qD);(case aF=>exact(fun _ _=>trivial));(case aO=>exact(by(with_reducible repeat(first|apply Kd.cP|apply Kd.cQ|apply Kd.dA));exact ed.out));(case aS=>exact(cC qD));(case aL=>have:=KW.out;omega);intro ZE Qh ho hb hg dz;rw [←KX.out] at ho;have cR:=am (cE (g:=bW) (o:=.cells #[.string ((av l0 aI).f0),.slice eS ((av l0 aI).f1).length eU,.slice fo ((av l0 aI).f2).length fp,.slice fV ((av l0 aI).f3).length fW,.slice gO ((av l0 aI).f4).length gP,.string ((av l0 aI).f5)] 55 (0,0)) (by(with_reducible repeat(first|refine cg ?_ _|refine cL ?_|refine bm ?_ _));exact br.out) hg (Kd.Gi ed.out br.out (by decide)));have cM:=am (hb);have cY:=am (ho);clear br;clear HB;clear ed;have br:=cR;have HB:=cM;have KY:=cY;clear cR cM cY;clear ho hb hg dz));try go_wp2_with (first|((with_reducible refine eD (b:=.append) (xs:=#[.tmp 18,.tmp 19]) rfl ?_);(try(refine dB (by rfl) ?_;dsimp only));at_builtin;refine Kd.jl Kd.string (w0:=w) w.heap.size rfl (.tmp 18) (.tmp 19) 73 9 (.string ⟨#[]⟩) 16 rfl Tryz.underlying73 si rfl (by decide) (by omega) u3 bX (⟨#[41]⟩:ByteArray) [.string (⟨#[41]⟩:ByteArray)] (fun _=>True) (fun _=>False) rfl rfl ?aP (fun _ hk=>hk.elim) ?aF ?aO ?aB ?aS ?aL ?_;(case aP=>exact rfl);(case aB=>exact qD);(case aF=>exact(fun _ _=>trivial));(case aO=>exact(by(with_reducible repeat(first|apply Kd.cP|apply Kd.cQ|apply Kd.dA));exact ed.out));(case aS=>exact(cC qD));(case aL=>have:=KW.out;omega);intro ZE Qh ho hb hg dz;rw [←KX.out] at ho;have cR:=am (cE (g:=bW) (o:=.cells #[.string ((av l0 aI).f0),.slice eS ((av l0 aI).f1).length eU,.slice fo ((av l0 aI).f2).length fp,.slice fV ((av l0 aI).f3).length fW,.slice gO ((av l0 aI).f4).length gP,.string ((av l0 aI).f5)] 55 (0,0)) (by(with_reducible repeat(first|refine cg ?_ _|refine cL ?_|refine bm ?_ _));exact br.out) hg (Kd.Gi ed.out br.out (by decide)));have cM:=am (hb);have cY:=am (ho);clear br;clear HB;clear ed;have br:=cR;have HB:=cM;have KY:=cY;clear cR cM cY;clear ho hb hg dz)))
          go_roundg Oz
          case measure=>have:=dR.out;have:=MF.out;omega
          case rel=>exact⟨(ZD),(wrap64 (aI+1)),qF,H',⟨by have:=dR.out;have:=MF.out;omega⟩,⟨by(with_reducible repeat(first|apply Kd.cP|apply Kd.cQ|apply Kd.dA));exact KY.out⟩,⟨qD⟩⟩
         ·rw [if_neg ln] at H
          exact absurd H (by simp)
        ·replace kJ:=Bool.eq_false_iff.mpr kJ
         subst kJ
         have H1:(if ((av l0 aI).f0).toList=([91]:List UInt8) then (if bX.length<8796093022208 then (aG.l0 Oz (bX++ [(⟨#[93]⟩:ByteArray)]) l0 (l0.length:Int) (wrap64 (aI+1))) else (none)) else (if ((av l0 aI).f0).toList=([41]:List UInt8) then (aG.j2 Oz bX l0 (l0.length:Int) aI (((av l0 aI).f0).toList==([41]:List UInt8)) ((av l0 aI).f0) ((av l0 aI).f1) ((av l0 aI).f2) ((av l0 aI).f3) ((av l0 aI).f4) ((av l0 aI).f5)) else (aG.j2 Oz bX l0 (l0.length:Int) aI (((av l0 aI).f0).toList==([93]:List UInt8)) ((av l0 aI).f0) ((av l0 aI).f1) ((av l0 aI).f2) ((av l0 aI).f3) ((av l0 aI).f4) ((av l0 aI).f5))))=some r:=by rw [if_neg (show ¬(false=true) by decide)] at H;exact H
         clear H
         have H:=H1
         clear H1
         by_cases mi:((av l0 aI).f0).toList=([91]:List UInt8)
         ·rw [if_pos mi] at H
          have mj:(((av l0 aI).f0).toList==([91]:List UInt8))=true:=beq_iff_eq.mpr mi
          have ml:(((av l0 aI).f0).toList !=([91]:List UInt8))=false:=bne_eq_false_iff_eq.mpr mi
          clear mi
          by_cases ox:bX.length<8796093022208
          ·rw [if_pos ox] at H
           have KZ:=am ox
           clear ox
           obtain⟨ZF,AZ⟩:∃y_:List ByteArray,y_=(bX++ [(⟨#[93]⟩:ByteArray)]):=⟨_,rfl⟩
           replace H:(aG.l0 Oz ZF l0 (l0.length:Int) (wrap64 (aI+1)))=some r:=by first|(rw [AZ];with_reducible exact H)|(have lN:=(Option.bind_some _ _).symm.trans H;rw [AZ];with_reducible exact lN)|(have lN:=(Option.bind_some _ _).symm.trans H;with_reducible exact lN)|with_reducible exact H|(rw [AZ];exact H)|exact H
           have La:=am AZ
           clear AZ
           have H':=am H
           clear H
           go_wp2_with (first|((with_reducible refine eD (b:=.append) (xs:=#[.tmp 23,.tmp 24]) rfl ?_);(try(refine dB (by rfl) ?_;dsimp only));at_builtin;refine Kd.jl Kd.string (w0:=w) w.heap.size rfl (.tmp 23) (.tmp 24) 73 9 (.string ⟨#[]⟩) 16 rfl Tryz.underlying73 si rfl (by decide) (by omega) u3 bX (⟨#[93]⟩:ByteArray) [.string (⟨#[93]⟩:ByteArray)] (fun _=>True) (fun _=>False) rfl rfl ?aP (fun _ hk=>hk.elim) ?aF ?aO ?aB ?aS ?aL ?_;(case aP=>exact rfl);(case aB=>exact qD);(case aF=>exact(fun _ _=>trivial));(case aO=>exact(by(with_reducible repeat(first|apply Kd.cP|apply Kd.cQ|apply Kd.dA));exact ed.out));(case aS=>exact(cC qD));(case aL=>have:=KZ.out;omega);intro ZG M1 ho hb hg dz;rw [←La.out] at ho;have cR:=am (cE (g:=bW) (o:=.cells #[.string ((av l0 aI).f0),.slice eS ((av l0 aI).f1).length eU,.slice fo ((av l0 aI).f2).length fp,.slice fV ((av l0 aI).f3).length fW,.slice gO ((av l0 aI).f4).length gP,.string ((av l0 aI).f5)] 55 (0,0)) (by(with_reducible repeat(first|refine cg ?_ _|refine cL ?_|refine bm ?_ _));exact br.out) hg (Kd.Gi ed.out br.out (by decide)));have cM:=am (hb);have cY:=am (ho);clear br;clear HB;clear ed;have br:=cR;have HB:=cM;have Lb:=cY;clear cR cM cY;clear ho hb hg dz))
           repeat(go_quiet (first|((with_reducible refine eD (b:=.append) (xs:=#[.tmp 23,.tmp 24]) rfl ?_);(try(refine dB (by rfl) ?_;dsimp only));at_builtin;refine Kd.jl Kd.string (w0:=w) w.heap.size rfl (.tmp 23) (.tmp 24) 73 9 (.string ⟨#[]⟩) 16 rfl Tryz.underlying73 si rfl (by decide) (by omega) u3 bX (⟨#[93]⟩:ByteArray) [.string (⟨#[93]⟩:ByteArray)] (fun _=>True) (fun _=>False) rfl rfl ?aP (fun _ hk=>hk.elim) ?aF ?aO ?aB ?aS ?aL ?_;(case aP=>exact rfl);(case aB=>exact qD);(case aF=>exact(fun _ _=>trivial));(case aO=>exact(by(with_reducible repeat(first|apply Kd.cP|apply Kd.cQ|apply Kd.dA));exact ed.out));(case aS=>exact(cC qD));(case aL=>have:=KZ.out;omega);intro ZG M1 ho hb hg dz;rw [←La.out] at ho;have cR:=am (cE (g:=bW) (o:=.cells #[.string ((av l0 aI).f0),.slice eS ((av l0 aI).f1).length eU,.slice fo ((av l0 aI).f2).length fp,.slice fV ((av l0 aI).f3).length fW,.slice gO ((av l0 aI).f4).length gP,.string ((av l0 aI).f5)] 55 (0,0)) (by(with_reducible repeat(first|refine cg ?_ _|refine cL ?_|refine bm ?_ _));exact br.out) hg (Kd.Gi ed.out br.out (by decide)));have cM:=am (hb);have cY:=am (ho);clear br;clear HB;clear ed;have br:=cR;have HB:=cM;have Lb:=cY;clear cR cM cY;clear ho hb hg dz));try go_wp2_with (first|((with_reducible refine eD (b:=.append) (xs:=#[.tmp 23,.tmp 24]) rfl ?_);(try(refine dB (by rfl) ?_;dsimp only));at_builtin;refine Kd.jl Kd.string (w0:=w) w.heap.size rfl (.tmp 23) (.tmp 24) 73 9 (.string ⟨#[]⟩) 16 rfl Tryz.underlying73 si rfl (by decide) (by omega) u3 bX (⟨#[93]⟩:ByteArray) [.string (⟨#[93]⟩:ByteArray)] (fun _=>True) (fun _=>False) rfl rfl ?aP (fun _ hk=>hk.elim) ?aF ?aO ?aB ?aS ?aL ?_;(case aP=>exact rfl);(case aB=>exact qD);(case aF=>exact(fun _ _=>trivial));(case aO=>exact(by(with_reducible repeat(first|apply Kd.cP|apply Kd.cQ|apply Kd.dA));exact ed.out));(case aS=>exact(cC qD));(case aL=>have:=KZ.out;omega);intro ZG M1 ho hb hg dz;rw [←La.out] at ho;have cR:=am (cE (g:=bW) (o:=.cells #[.string ((av l0 aI).f0),.slice eS ((av l0 aI).f1).length eU,.slice fo ((av l0 aI).f2).length fp,.slice fV ((av l0 aI).f3).length fW,.slice gO ((av l0 aI).f4).length gP,.string ((av l0 aI).f5)] 55 (0,0)) (by(with_reducible repeat(first|refine cg ?_ _|refine cL ?_|refine bm ?_ _));exact br.out) hg (Kd.Gi ed.out br.out (by decide)));have cM:=am (hb);have cY:=am (ho);clear br;clear HB;clear ed;have br:=cR;have HB:=cM;have Lb:=cY;clear cR cM cY;clear ho hb hg dz)))
           go_roundg Oz
           case measure=>have:=dR.out;have:=MF.out;omega
           case rel=>exact⟨(ZF),(wrap64 (aI+1)),qF,H',⟨by have:=dR.out;have:=MF.out;omega⟩,⟨by(with_reducible repeat(first|apply Kd.cP|apply Kd.cQ|apply Kd.dA));exact Lb.out⟩,⟨qD⟩⟩
          ·rw [if_neg ox] at H
           exact absurd H (by simp)
         ·rw [if_neg mi] at H
          have mj:(((av l0 aI).f0).toList==([91]:List UInt8))=false:=beq_eq_false_iff_ne.mpr mi
          have ml:(((av l0 aI).f0).toList !=([91]:List UInt8))=true:=bne_iff_ne.mpr mi
          have Ug:=am H
          clear H
          go_upto_if 26 with (fail)
          repeat(go_quiet (fail);go_upto_if 26 with (fail))
          go_cut [26] (fun v26 wc=>∃(kq:Nat) (xY:Bool),v26= .bool xY∧ak (aG.j2 kq bX l0 (l0.length:Int) aI xY ((av l0 aI).f0) ((av l0 aI).f1) ((av l0 aI).f2) ((av l0 aI).f3) ((av l0 aI).f4) ((av l0 aI).f5)=some r)∧ak (kq≤Oz)∧ak (Kd.R Kd.string 9 wc w.heap.size (fun _=>True) u3 bX)∧ak (wc.heap[bW]? =some (.cells #[.string ((av l0 aI).f0),(.slice eS ((av l0 aI).f1).length eU),(.slice fo ((av l0 aI).f2).length fp),(.slice fV ((av l0 aI).f3).length fW),(.slice gO ((av l0 aI).f4).length gP),.string ((av l0 aI).f5)] 55 (0,0)))∧ak (Below w.heap.size w wc))
          case first=>
           have H:=Ug.out
           clear Ug
           by_cases uJ:((av l0 aI).f0).toList=([41]:List UInt8)
           ·rw [if_pos uJ] at H
            have tB:(((av l0 aI).f0).toList==([41]:List UInt8))=true:=beq_iff_eq.mpr uJ
            have QQ:(((av l0 aI).f0).toList !=([41]:List UInt8))=false:=bne_eq_false_iff_eq.mpr uJ
            clear uJ
            (first|rw [tB]|(simp only [cB,cJ];rw [tB])|skip)
            have H':=am H
            clear H
            go_wp2
            repeat(go_quiet (fail);try go_wp2)
            go_meet
            case rel=>exact⟨_,((((av l0 aI).f0).toList==([41]:List UInt8))),qF,H',⟨by have:=dR.out;have:=MF.out;first|omega|exact Nat.le_refl _⟩,⟨by(with_reducible repeat(first|apply Kd.cP|apply Kd.cQ|apply Kd.dA));exact ed.out⟩,⟨by(with_reducible repeat(first|refine cg ?_ _|refine cL ?_|refine bm ?_ _));exact br.out⟩,⟨qD⟩⟩
           ·rw [if_neg uJ] at H
            have tB:(((av l0 aI).f0).toList==([41]:List UInt8))=false:=beq_eq_false_iff_ne.mpr uJ
            have QQ:(((av l0 aI).f0).toList !=([41]:List UInt8))=true:=bne_iff_ne.mpr uJ
            (first|rw [tB]|(simp only [cB,cJ];rw [tB])|skip)
            have H':=am H
            clear H
            go_wp2
            repeat(go_quiet (fail);try go_wp2)
            go_meet
            case rel=>exact⟨_,((((av l0 aI).f0).toList==([93]:List UInt8))),qF,H',⟨by have:=dR.out;have:=MF.out;first|omega|exact Nat.le_refl _⟩,⟨by(with_reducible repeat(first|apply Kd.cP|apply Kd.cQ|apply Kd.dA));exact ed.out⟩,⟨by(with_reducible repeat(first|refine cg ?_ _|refine cL ?_|refine bm ?_ _));exact br.out⟩,⟨qD⟩⟩
          case rest=>
           clear Ug
           try clear c1
           try clear p2
           try clear c4
           try clear eF
           try clear p4
           try clear q4
           try clear ZC
           try clear c5
           try clear df
           try clear c6
           try clear sj
           try clear p6
           try clear c7
           try clear eZ
           try clear mg
           try clear qT
           try clear kJ
           try clear ln
           try clear mi
           try clear mj
           try clear ml
           try clear ox
           try clear uJ
           try clear tB
           try clear QQ
           try clear gY
           try clear gZ
           try clear hG
           try clear xR
           try clear xS
           try clear xT
           try clear xU
           try clear hY
           try clear hZ
           try clear xV
           try clear xW
           try clear xX
           try clear pR
           try clear pS
           try clear pT
           try clear pU
           try clear pV
           try clear pW
           try clear p2
           try clear p4
           try clear KT
           try clear q4
           try clear KU
           obtain⟨kq,xY,rfl,HA,OA,ed,br,HB⟩:=hcut
           cases kq with
           | zero=>exact absurd HA.out (by simp [aG.j2])
           | succ Ha=>
            have H:=HA.out
            clear HA
            simp only [aG.j2] at H
            by_cases EC:xY=true
            ·subst EC
             have H1:(if (bX.length:Int)=0 then (some false) else (if 0≤(wrap64 ((bX.length:Int) - 1)) then (if (wrap64 ((bX.length:Int) - 1))<(bX.length:Int) then (if (ra ByteArray.empty bX (wrap64 ((bX.length:Int) - 1))).toList=((av l0 aI).f0).toList then (if (wrap64 ((bX.length:Int) - 1))≤(bX.length:Int) then (aG.l0 Ha (bX.take ((wrap64 ((bX.length:Int) - 1)):Int).toNat) l0 (l0.length:Int) (wrap64 (aI+1))) else (none)) else (some false)) else (none)) else (none)))=some r:=by rw [if_pos rfl] at H;exact H
             clear H
             have H:=H1
             clear H1
             by_cases pq:(bX.length:Int)=0
             ·rw [if_pos pq] at H
              have Lc:((bX.length:Int)==0)=true:=beq_iff_eq.mpr pq
              have Ld:((bX.length:Int) !=0)=false:=bne_eq_false_iff_eq.mpr pq
              clear pq
              obtain rfl:=Option.some.inj H
              obtain⟨ahb,ahc,afe⟩:=Kd.nD ed.out
              subst afe
              go_wp2
              repeat(go_quiet (fail);try go_wp2)
              go_ret
              exact⟨qG,qD⟩
             ·rw [if_neg pq] at H
              have Lc:((bX.length:Int)==0)=false:=beq_eq_false_iff_ne.mpr pq
              have Ld:((bX.length:Int) !=0)=true:=bne_iff_ne.mpr pq
              have agI:¬(bX= []):=fun h_=>pq (by rw [h_];rfl)
              obtain⟨gU,FL⟩:∃j_:Int,(wrap64 ((bX.length:Int) - 1))=j_:=⟨_,rfl⟩
              replace H:(if 0≤(gU) then (if (gU)<(bX.length:Int) then (if (ra ByteArray.empty bX (gU)).toList=((av l0 aI).f0).toList then (if (gU)≤(bX.length:Int) then (aG.l0 Ha (bX.take ((gU):Int).toNat) l0 (l0.length:Int) (wrap64 (aI+1))) else (none)) else (some false)) else (none)) else (none))=some r:=by first|(rw [FL] at H;exact H)|(simp only [FL] at H⊢;exact H)
              have aff:(IntKind.i64.wrap ((bX.length:Int) - 1))=gU:=(cB _).trans FL
              by_cases CT:0≤(gU)
              ·rw [if_pos CT] at H
               have pB:decide (0≤(gU))=true:=decide_eq_true CT
               clear CT
               by_cases mJ:(gU)<(bX.length:Int)
               ·rw [if_pos mJ] at H
                have mL:decide ((gU)<(bX.length:Int))=true:=decide_eq_true mJ
                clear mJ
                by_cases Uh:(ra ByteArray.empty bX (gU)).toList=((av l0 aI).f0).toList
                ·rw [if_pos Uh] at H
                 have ZH:((ra ByteArray.empty bX (gU)).toList==((av l0 aI).f0).toList)=true:=beq_iff_eq.mpr Uh
                 have ZI:((ra ByteArray.empty bX (gU)).toList !=((av l0 aI).f0).toList)=false:=bne_eq_false_iff_eq.mpr Uh
                 clear Uh
                 by_cases Mx:(gU)≤(bX.length:Int)
                 ·rw [if_pos Mx] at H
                  have agJ:=eq_true Mx
                  have agK:decide ((gU)≤(bX.length:Int))=true:=decide_eq_true Mx
                  clear Mx
                  obtain⟨Ui,Ba⟩:∃y_:List ByteArray,y_=(bX.take ((gU):Int).toNat):=⟨_,rfl⟩
                  replace H:(aG.l0 Ha Ui l0 (l0.length:Int) (wrap64 (aI+1)))=some r:=by first|(rw [Ba];with_reducible exact H)|(have lN:=(Option.bind_some _ _).symm.trans H;rw [Ba];with_reducible exact lN)|(have lN:=(Option.bind_some _ _).symm.trans H;with_reducible exact lN)|with_reducible exact H|(rw [Ba];exact H)|exact H
                  have QR:=am Ba
                  clear Ba
                  have H':=am H
                  clear H
                  obtain⟨ahd,afg,afh⟩:=Kd.nD ed.out
                  subst afh
                  have DD:0≤((gU):Int):=of_decide_eq_true qH
                  have DE:(gU)<(bX.length:Int):=of_decide_eq_true qH
                  obtain⟨QS,Uj,OB⟩:=Kd.u9 (Kd.mD ed.out).2.2 (gU) DD DE
                  cases Uj
                  replace DD:=eq_true DD
                  replace DE:=eq_true DE
                  have adL:wc.cell? ⟨bW,0,none⟩=some (.string ((av l0 aI).f0)):=(ao br.out 0).trans rfl
                  have adM:wc.cell? ⟨bW,1,none⟩=some (.slice eS ((av l0 aI).f1).length eU):=(ao br.out 1).trans rfl
                  have adN:wc.cell? ⟨bW,2,none⟩=some (.slice fo ((av l0 aI).f2).length fp):=(ao br.out 2).trans rfl
                  have adO:wc.cell? ⟨bW,3,none⟩=some (.slice fV ((av l0 aI).f3).length fW):=(ao br.out 3).trans rfl
                  have adP:wc.cell? ⟨bW,4,none⟩=some (.slice gO ((av l0 aI).f4).length gP):=(ao br.out 4).trans rfl
                  have adQ:wc.cell? ⟨bW,5,none⟩=some (.string ((av l0 aI).f5)):=(ao br.out 5).trans rfl
                  have adR:=ai br.out 0
                  have adS:=ai br.out 1
                  have adT:=ai br.out 2
                  have adU:=ai br.out 3
                  have adV:=ai br.out 4
                  have adW:=ai br.out 5
                  have q29:((gU):Int)≤((bX.length:Int):Int):=of_decide_eq_true qH
                  obtain⟨ahe,QT,_,ZJ,_⟩:=info_parts si
                  have Uk:=RZ (P:=Tryz.prog) 73 9 .i64 Tryz.underlying73 QT (some QS) bX.length afg (gU) (of_decide_eq_true qH) q29 (Kd.mD ed.out).2.1
                  have OC:=Kd.R0 (m:=((gU):Int).toNat) ed.out (by omega)
                  have ZK:Ui.length=((gU):Int).toNat:=(by rw [QR.out,List.length_take];omega)
                  rw [←QR.out] at OC
                  rw [←ZK] at OC Uk
                  clear ZK QT ZJ ed
                  have ZL:=am OC
                  clear OC
                  replace q29:=eq_true q29
                  go_wp2
                  repeat(go_quiet (fail);try go_wp2)
                  go_roundg Ha
                  case measure=>have:=dR.out;have:=MF.out;have:=OA.out;omega
                  case rel=>exact⟨(Ui),(wrap64 (aI+1)),qF,H',⟨by have:=dR.out;have:=MF.out;have:=OA.out;omega⟩,⟨by(with_reducible repeat(first|apply Kd.cP|apply Kd.cQ|apply Kd.dA));exact ZL.out⟩,⟨qD⟩⟩
                 ·rw [if_neg Mx] at H
                  exact absurd H (by simp)
                ·rw [if_neg Uh] at H
                 have ZH:((ra ByteArray.empty bX (gU)).toList==((av l0 aI).f0).toList)=false:=beq_eq_false_iff_ne.mpr Uh
                 have ZI:((ra ByteArray.empty bX (gU)).toList !=((av l0 aI).f0).toList)=true:=bne_iff_ne.mpr Uh
                 obtain rfl:=Option.some.inj H
                 obtain⟨ahf,ahg,afi⟩:=Kd.nD ed.out
                 subst afi
                 have DD:0≤((gU):Int):=of_decide_eq_true qH
                 have DE:(gU)<(bX.length:Int):=of_decide_eq_true qH
                 obtain⟨QS,Uj,OB⟩:=Kd.u9 (Kd.mD ed.out).2.2 (gU) DD DE
                 cases Uj
                 replace DD:=eq_true DD
                 replace DE:=eq_true DE
                 have adX:wc.cell? ⟨bW,0,none⟩=some (.string ((av l0 aI).f0)):=(ao br.out 0).trans rfl
                 have adY:wc.cell? ⟨bW,1,none⟩=some (.slice eS ((av l0 aI).f1).length eU):=(ao br.out 1).trans rfl
                 have adZ:wc.cell? ⟨bW,2,none⟩=some (.slice fo ((av l0 aI).f2).length fp):=(ao br.out 2).trans rfl
                 have aea:wc.cell? ⟨bW,3,none⟩=some (.slice fV ((av l0 aI).f3).length fW):=(ao br.out 3).trans rfl
                 have aeb:wc.cell? ⟨bW,4,none⟩=some (.slice gO ((av l0 aI).f4).length gP):=(ao br.out 4).trans rfl
                 have aec:wc.cell? ⟨bW,5,none⟩=some (.string ((av l0 aI).f5)):=(ao br.out 5).trans rfl
                 have aed:=ai br.out 0
                 have aee:=ai br.out 1
                 have aef:=ai br.out 2
                 have aeg:=ai br.out 3
                 have aeh:=ai br.out 4
                 have aei:=ai br.out 5
                 go_wp2
                 repeat(go_quiet (fail);try go_wp2)
                 go_ret
                 exact⟨by first|rfl|(simp [gy,gz]<;>rfl)|(simp only [←FL];first|rfl|(simp [gy,gz]<;>rfl))|(simp [*,gy,gz]<;>rfl),qD⟩
               ·rw [if_neg mJ] at H
                exact absurd H (by simp)
              ·rw [if_neg CT] at H
               exact absurd H (by simp)
            ·replace EC:=Bool.eq_false_iff.mpr EC
             subst EC
             have H1:(aG.l0 Ha bX l0 (l0.length:Int) (wrap64 (aI+1)))=some r:=by rw [if_neg (show ¬(false=true) by decide)] at H;exact H
             clear H
             have H:=H1
             clear H1
             have H':=am H
             clear H
             go_wp2
             repeat(go_quiet (fail);try go_wp2)
             go_roundg Ha
             case measure=>have:=dR.out;have:=MF.out;have:=OA.out;omega
             case rel=>exact⟨(bX),(wrap64 (aI+1)),qF,H',⟨by have:=dR.out;have:=MF.out;have:=OA.out;omega⟩,⟨by(with_reducible repeat(first|apply Kd.cP|apply Kd.cQ|apply Kd.dA));exact ed.out⟩,⟨qD⟩⟩
     ·rw [if_neg c6] at H
      exact absurd H (by simp)
    ·rw [if_neg c5] at H
     exact absurd H (by simp)
   ·rw [if_neg c4] at H
    have eF:decide (aI<(l0.length:Int))=false:=decide_eq_false c4
    clear c4
    obtain rfl:=Option.some.inj H
    obtain⟨ahh,ahi,afj⟩:=Kd.nD ed.out
    subst afj
    go_wp2
    repeat(go_quiet (fail);try go_wp2)
    go_ret
    exact⟨qG,qC⟩
end Go.Proofs.YtlglijnaeaonpaaGreatDoor.bG
end
section
set_option maxHeartbeats 8000000
set_option maxRecDepth 100000
set_option linter.unusedVariables false
set_option linter.unusedSimpArgs false
namespace Go.Proofs.YtlglijnaeaonpaaGreatDoor.Lx
open Go.RowKit Go.Proofs.YtlglijnaeaonpaaGreatDoorW.aC Go.Proofs.YtlglijnaeaonpaaGreatDoor.bG
def pX (s p:List UInt8):Nat→Nat→Bool
 | 0,_=>false
 | d+1,j=>if j+p.length≤s.length then (if (s.drop j).take p.length=p then true else pX s p d (j+1)) else false
def mw (s p:List UInt8):Bool:=pX s p (s.length+1) 0
theorem Hb (s p:ByteArray) (hs:s.size≤1000000) (hp:p.size≤1000000):∀(d k j:Nat),j≤s.size+1→s.size+1 - j≤d→d+1≤k→ck.l0 k s p (j:Int)=some (pX s.data.toList p.data.toList d j):=by
 have e1:s.data.toList.length=s.size:=Array.length_toList
 have e2:p.data.toList.length=p.size:=Array.length_toList
 intro d
 induction d with
 | zero=>
  intro k j hj hd hk
  obtain⟨k,rfl⟩:∃m,k=m+1:=⟨k - 1,by omega⟩
  simp only [ck.l0,pX]
  rw [fX (by omega) (by omega),if_neg (by omega)]
 | succ d ih=>
  intro k j hj hd hk
  obtain⟨k,rfl⟩:∃m,k=m+1:=⟨k - 1,by omega⟩
  simp only [ck.l0,pX]
  rw [fX (x:=(j:Int)+(p.size:Int)) (by omega) (by omega),e1,e2]
  by_cases h1:j+p.size≤s.size
  ·rw [if_pos (by omega),if_pos (by omega),if_pos (by omega),if_pos h1]
   have e3:(s.extract (j:Int).toNat ((j:Int)+(p.size:Int)).toNat).toList=(s.data.toList.drop j).take p.size:=by
    rw [show ((j:Int)+(p.size:Int)).toNat=j+p.size by omega,show ((j:Int)).toNat=j by omega,ext_win]
    unfold Go.Lib.RK.win
    rw [show j+p.size - j=p.size by omega]
   rw [e3,ByteArray.toList_eq p]
   by_cases h2:(s.data.toList.drop j).take p.size=p.data.toList
   ·rw [if_pos h2,if_pos h2]
   ·rw [if_neg h2,if_neg h2,fX (by omega) (by omega)]
    have:=ih k (j+1) (by omega) (by omega) (by omega)
    rwa [show ((j+1:Nat):Int)=(j:Int)+1 by omega] at this
  ·rw [if_neg (by omega),if_neg h1]
theorem Hc (s p:ByteArray) (hs:s.size≤1000000) (hp:p.size≤1000000) (k:Nat) (hk:s.size+2≤k):ck.f k s p=some (mw s.data.toList p.data.toList):=by
 have e1:s.data.toList.length=s.size:=Array.length_toList
 unfold ck.f mw
 rw [e1]
 exact Hb s p hs hp (s.size+1) k 0 (by omega) (by omega) (by omega)
def lT (k:ByteArray):Prop:=k.data.toList= [40]∨k.data.toList= [102,117,110,99,116,105,111,110]
instance:DecidablePred lT:=fun k=>by unfold lT;infer_instance
inductive xZ:List ByteArray→List ByteArray→Prop where
 | nil:xZ [] []
 | par (st:List ByteArray) (k:ByteArray) (r:List ByteArray) (hk:lT k) (h:xZ (st++ [⟨#[41]⟩]) r):xZ st (k::r)
 | QU (st:List ByteArray) (k:ByteArray) (r:List ByteArray) (hk:k.data.toList= [91]) (h:xZ (st++ [⟨#[93]⟩]) r):xZ st (k::r)
 | cls (st:List ByteArray) (c k:ByteArray) (r:List ByteArray) (hk:k.data.toList= [41]∨k.data.toList= [93]) (h:xZ st r):xZ (st++ [c]) (k::r)
 | uP (st:List ByteArray) (k:ByteArray) (r:List ByteArray) (h1:¬lT k) (h2:k.data.toList≠ [91]) (h3:k.data.toList≠ [41]) (h4:k.data.toList≠ [93]) (h:xZ st r):xZ st (k::r)
theorem Le (ps:List qd) (hl:ps.length≤2147483647):∀(d:Nat) (st:List ByteArray) (j:Nat),j≤ps.length→ps.length - j≤d→st.length≤j→∃r,(∀k,3*d+3≤k→aG.l0 k st ps (ps.length:Int) (j:Int)=some r)∧(r=true→xZ st ((ps.drop j).map qd.f0)):=by
 intro d
 have oh:∀(st:List ByteArray) (j:Nat),ps.length≤j→∃r,(∀k,3*0+1≤k→aG.l0 k st ps (ps.length:Int) (j:Int)=some r)∧(r=true→xZ st ((ps.drop j).map qd.f0)):=by
  intro st j hj
  refine⟨(st.length:Int)==0,fun k hk=> ?_,fun h=> ?_⟩
  ·obtain⟨k,rfl⟩:∃m,k=m+1:=⟨k - 1,by omega⟩
   simp only [aG.l0]
   rw [if_neg (by omega)]
  ·have:st.length=0:=by simpa using h
   rw [List.eq_nil_of_length_eq_zero this,List.drop_eq_nil_of_le hj]
   exact .nil
 induction d with
 | zero=>
  intro st j h1 h2 h3
  obtain⟨r,hr,te⟩:=oh st j (by omega)
  exact⟨r,fun k hk=>hr k (by omega),te⟩
 | succ d ih=>
  intro st j h1 h2 h3
  by_cases hj:j<ps.length
  ·obtain⟨x,hx⟩:∃x,ps[j]? =some x:=⟨_,List.getElem?_eq_getElem hj⟩
   have oT:av ps (j:Int)=x:=by
    unfold av
    rw [List.getD_eq_getElem?_getD,show ((j:Int)).toNat=j by omega,hx];rfl
   have ZM:ps.drop j=x::ps.drop (j+1):=by
    rw [List.drop_eq_getElem_cons hj]
    rw [List.getElem?_eq_getElem hj] at hx
    injection hx with hx
    rw [hx]
   have hw:wrap64 ((j:Int)+1)=((j+1:Nat):Int):=by rw [fX (by omega) (by omega)];omega
   rw [ZM,List.map_cons]
   have dy:∀k,aG.l0 (k+1) st ps (ps.length:Int) (j:Int)=aG.j1 k st ps (ps.length:Int) (j:Int) x.f0 (decide (lT x.f0)) x.f0 x.f1 x.f2 x.f3 x.f4 x.f5:=by
    intro k
    simp only [aG.l0]
    rw [if_pos (by omega),if_pos (by omega),if_pos (by omega),oT]
    unfold lT
    rw [ByteArray.toList_eq]
    by_cases J2:x.f0.data.toList= [40]
    ·rw [if_pos J2]
     simp [J2]
    ·rw [if_neg J2]
     congr 1
     rw [Bool.eq_iff_iff]
     simp [J2]
   by_cases ho:lT x.f0
   ·obtain⟨r,hr,te⟩:=ih (st++ [⟨#[41]⟩]) (j+1) (by omega) (by omega) (by simp;omega)
    refine⟨r,fun k hk=> ?_,fun h=> .par st _ _ ho (te h)⟩
    obtain⟨k,rfl⟩:∃m,k=m+2:=⟨k - 2,by omega⟩
    rw [dy,decide_eq_true ho]
    simp only [aG.j1,if_true]
    rw [if_pos (by omega),hw]
    exact hr k (by omega)
   ·by_cases QW:x.f0.data.toList= [91]
    ·obtain⟨r,hr,te⟩:=ih (st++ [⟨#[93]⟩]) (j+1) (by omega) (by omega) (by simp;omega)
     refine⟨r,fun k hk=> ?_,fun h=> .QU st _ _ QW (te h)⟩
     obtain⟨k,rfl⟩:∃m,k=m+2:=⟨k - 2,by omega⟩
     rw [dy,decide_eq_false ho]
     simp only [aG.j1]
     rw [if_neg (by decide),ByteArray.toList_eq,if_pos QW,if_pos (by omega),hw]
     exact hr k (by omega)
    ·have pJ:∀k,aG.l0 (k+2) st ps (ps.length:Int) (j:Int)=aG.j2 k st ps (ps.length:Int) (j:Int) (decide (x.f0.data.toList= [41]∨x.f0.data.toList= [93])) x.f0 x.f1 x.f2 x.f3 x.f4 x.f5:=by
      intro k
      rw [dy,decide_eq_false ho]
      simp only [aG.j1]
      rw [if_neg (by decide),ByteArray.toList_eq,if_neg QW]
      by_cases QX:x.f0.data.toList= [41]
      ·rw [if_pos QX]
       simp [QX]
      ·rw [if_neg QX]
       congr 1
       rw [Bool.eq_iff_iff]
       simp [QX]
     by_cases hc:x.f0.data.toList= [41]∨x.f0.data.toList= [93]
     ·by_cases hs:st.length=0
      ·refine⟨false,fun k hk=> ?_,fun h=>by cases h⟩
       obtain⟨k,rfl⟩:∃m,k=m+3:=⟨k - 3,by omega⟩
       rw [show k+3=k+1+2 by omega,pJ,decide_eq_true hc]
       simp only [aG.j2,if_true]
       rw [if_pos (by omega)]
      ·have Ul:∃jD c,st=jD ++ [c]:=by
        rcases List.eq_nil_or_concat st with h|⟨l,b,h⟩
        ·rw [h] at hs;exact absurd rfl hs
        ·exact⟨l,b,by rw [h,List.concat_eq_append]⟩
       obtain⟨jD,c,rfl⟩:=Ul
       have hlen:(jD ++ [c]).length=jD.length+1:=by simp
       have hw2:wrap64 (((jD ++ [c]).length:Int) - 1)=(jD.length:Int):=by rw [hlen,fX (by omega) (by omega)];omega
       have QY:ra ByteArray.empty (jD ++ [c]) (jD.length:Int)=c:=by
        unfold ra
        rw [List.getD_eq_getElem?_getD,show ((jD.length:Int)).toNat=jD.length by omega,List.getElem?_append_right (Nat.le_refl _),Nat.sub_self]
        rfl
       have Lf:(jD ++ [c]).take jD.length=jD:=by simp
       by_cases he:c.toList=x.f0.toList
       ·obtain⟨r,hr,te⟩:=ih jD (j+1) (by omega) (by omega) (by omega)
        refine⟨r,fun k hk=> ?_,fun h=> .cls jD c _ _ hc (te h)⟩
        obtain⟨k,rfl⟩:∃m,k=m+3:=⟨k - 3,by omega⟩
        rw [show k+3=k+1+2 by omega,pJ,decide_eq_true hc]
        simp only [aG.j2,if_true]
        rw [if_neg (by omega),hw2,if_pos (by omega),if_pos (by omega),QY,if_pos he,if_pos (by omega),show ((jD.length:Int)).toNat=jD.length by omega,Lf,hw]
        exact hr k (by omega)
       ·refine⟨false,fun k hk=> ?_,fun h=>by cases h⟩
        obtain⟨k,rfl⟩:∃m,k=m+3:=⟨k - 3,by omega⟩
        rw [show k+3=k+1+2 by omega,pJ,decide_eq_true hc]
        simp only [aG.j2,if_true]
        rw [if_neg (by omega),hw2,if_pos (by omega),if_pos (by omega),QY,if_neg he]
     ·obtain⟨r,hr,te⟩:=ih st (j+1) (by omega) (by omega) (by omega)
      refine⟨r,fun k hk=> ?_,fun h=> .uP st _ _ ho QW (fun e=>hc (.inl e)) (fun e=>hc (.inr e)) (te h)⟩
      obtain⟨k,rfl⟩:∃m,k=m+3:=⟨k - 3,by omega⟩
      rw [show k+3=k+1+2 by omega,pJ,decide_eq_false hc]
      simp only [aG.j2]
      rw [if_neg (by decide),hw]
      exact hr k (by omega)
  ·obtain⟨r,hr,te⟩:=oh st j (by omega)
   exact⟨r,fun k hk=>hr k (by omega),te⟩
theorem Lg (ps:List qd) (hl:ps.length≤2147483647):∃r,(∀k,3*ps.length+3≤k→aG.f k ps=some r)∧(r=true→xZ [] (ps.map qd.f0)):=by
 obtain⟨r,h1,h2⟩:=Le ps hl ps.length [] 0 (by omega) (by omega) (by simp)
 exact⟨r,fun k hk=>h1 k hk,h2⟩
end Go.Proofs.YtlglijnaeaonpaaGreatDoor.Lx
end
