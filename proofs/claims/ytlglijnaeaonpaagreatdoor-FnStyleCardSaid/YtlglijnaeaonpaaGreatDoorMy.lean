/- FnStyle: a part of the proof (My). -/
import Derived.Test.YtlglijnaeaonpaaGreatDoorCards
import Derived.Test.YtlglijnaeaonpaaGreatDoorTie
import Derived.Test.YtlglijnaeaonpaaGreatDoorMx
import Derived.ProofKit
import Derived.OpenShut
import Derived.OpenVars
import Derived.LaidMore
import Derived.Lay
import Derived.LaidEql
import Derived.SevenTiedAt
import Derived.Stop.Joined
import Derived.Stop.LaidErr
import Derived.Lib.LaidU8
section
set_option maxHeartbeats 8000000
set_option maxRecDepth 100000
set_option linter.unusedVariables false
set_option linter.unusedSimpArgs false
namespace Go.Proofs.YtlglijnaeaonpaaGreatDoor.FnStyle
open Go.ChangeShapes Go.WideShapes Go.ChangeAt Go.RowKit Go.Proofs.YtlglijnaeaonpaaGreatDoor.Lx
theorem own : ownKnob Tryz.prog.godebug = none:=by kernel_rfl
theorem laidOut : laidOutB Tryz.prog = true:=by kernel_rfl
theorem memFirst : ("unicode/utf8.first",Rows.laid_unicode_utf8_first) ∈ Rows.fnStyleRow.laid:=.tail _ (.tail _ (.tail _ (.tail _ (.tail _ (.tail _ (.tail _ (.head _)))))))
theorem memAccept : ("unicode/utf8.acceptRanges",Rows.laid_unicode_utf8_acceptRanges) ∈ Rows.fnStyleRow.laid:=.tail _ (.tail _ (.tail _ (.head _)))
theorem u8_range {z : Int} (h : (Lit.int .u8 z).wf = true) : 0 ≤ z ∧ z ≤ 255:=by
 simp [Lit.wf,IntKind.min,IntKind.max,IntKind.bits,IntKind.signed] at h
 omega
theorem tabU {W : World} (h : laidMet Tryz.prog Rows.fnStyleRow.laid W) : TabU W:=by
 have c5 : Tryz.prog.cellsOf 5 = 1:=by kernel_rfl
 refine ⟨fun x hx => ?_,fun j hj => ?_⟩
 ·obtain ⟨g,t,cs,fuel,p,hg,hty,hvar,hd⟩:=Lib.laidMet.reads h memFirst
  obtain rfl:=Option.some.inj ((show Tryz.prog.globalNamed "unicode/utf8.first" = some 2 by kernel_rfl).symm.trans hg)
  obtain rfl:=Option.some.inj ((show (Tryz.prog.globals[2]?).map (·.type) = some 144 by kernel_rfl).symm.trans hty)
  obtain ⟨fuel',d,q,hdi,he⟩:=Lib.array_elem Tryz.underlying144 (show DataW.trod _ _ _ _ _ _ _ _ _ = some (.agg _,p) from hd) x hx
  rw [c5,Nat.mul_one] at he
  obtain ⟨z,hz,_,hwf⟩:=DataW.trod_int Tryz.underlying5 he
  have hr:=u8_range hwf
  have e0:=congrArg (·[0]?) hz
  simp only [List.getElem?_take,List.getElem?_drop] at e0
  refine ⟨z.toNat,by omega,?_⟩
  rw [World.var?_cell hg hvar x,← Array.getElem?_toList,show ((z.toNat : Nat) : Int) = z by omega]
  simpa using e0
 ·obtain ⟨g,t,cs,fuel,p,hg,hty,hvar,hd⟩:=Lib.laidMet.reads h memAccept
  obtain rfl:=Option.some.inj ((show Tryz.prog.globalNamed "unicode/utf8.acceptRanges" = some 3 by kernel_rfl).symm.trans hg)
  obtain rfl:=Option.some.inj ((show (Tryz.prog.globals[3]?).map (·.type) = some 147 by kernel_rfl).symm.trans hty)
  obtain ⟨fuel',d,q,hdi,he⟩:=Lib.array_elem Tryz.underlying147 (show DataW.trod _ _ _ _ _ _ _ _ _ = some (.agg _,p) from hd) j hj
  rw [show Tryz.prog.cellsOf 146 = 2 by kernel_rfl] at he
  obtain ⟨xs,n,_,hx,hl,hxl,hall⟩:=DataW.trod_struct Tryz.underlying146 he
  have a0:=hall 0 ⟨ "lo",5,0,false,"","unicode/utf8",0⟩ rfl
  have a1:=hall 1 ⟨ "hi",5,1,false,"","unicode/utf8",1⟩ rfl
  obtain ⟨b0,hb0⟩ : ∃ b,xs[0]? = some b:=⟨_,List.getElem?_eq_getElem (show 0 < xs.length by rw [hxl];decide)⟩
  obtain ⟨b1,hb1⟩ : ∃ b,xs[1]? = some b:=⟨_,List.getElem?_eq_getElem (show 1 < xs.length by rw [hxl];decide)⟩
  rw [hb0] at a0
  rw [hb1] at a1
  dsimp only at a0 a1
  rw [c5] at a0 a1
  obtain ⟨z0,hz0,_,_⟩:=DataW.trod_int Tryz.underlying5 a0
  obtain ⟨z1,hz1,_,_⟩:=DataW.trod_int Tryz.underlying5 a1
  have e0:=congrArg (·[0]?) hz0
  have e1:=congrArg (·[0]?) hz1
  simp only [List.getElem?_take,List.getElem?_drop] at e0 e1
  refine ⟨z0,z1,?_,?_⟩
  ·rw [World.var?_cell hg hvar (j * 2),← Array.getElem?_toList]
   simpa using e0
  ·rw [World.var?_cell hg hvar (j * 2 + 1),← Array.getElem?_toList]
   simpa using e1
theorem star : "*" ++ "errors.errorString" = "*errors.errorString":=by decide
theorem row198 (u : TypeId) (h : Tryz.prog.typeName? 3 u = some "*errors.errorString") : u = 198 :=
 typeName_ptr_named (nm:= "errors.errorString") (by rw [star];kernel_rfl) (by kernel_rfl) (by decide) u (by rw [star];exact h)
theorem eof {W : World} (h : laidMet Tryz.prog Rows.fnStyleRow.laid W) : ∃ a : Addr,W.cell? ⟨0,0,none⟩ = some (.iface 198 (.pointer (some a))) ∧ 0 < W.heap.size:=by
 obtain ⟨a,s,hv,_⟩:=laid_sentinel (g:=0) (ti:=61) (ts:=9) (laidMet.tail (laidMet.tail (laidMet.tail (laidMet.tail h)))) (by kernel_rfl) (by kernel_rfl) Tryz.underlying61 row198 Tryz.underlying198 Tryz.underlying212 rfl rfl Tryz.underlying9 (by kernel_rfl) (by kernel_rfl)
 have hc : W.cell? ⟨0,0,none⟩ = some (.iface 198 (.pointer (some a))):=by
  have:=World.var?_cell (show Tryz.prog.globalNamed "io.EOF" = some 0 by kernel_rfl) hv 0
  simpa using this
 exact ⟨a,hc,World.block_lt_of_cell? W ⟨0,0,none⟩ hc⟩
theorem eq198 (a : Addr) (W : World) : (binOp .eql 61 (.iface 198 (.pointer (some a))) (.iface 198 (.pointer (some a)))).run Tryz.prog W = .ok (.bool true) W:=by
 have h1 : (Tryz.prog.info? 198).map (·.comparable) = some true:=by kernel_rfl
 have h2 : (Tryz.prog.info? 212).map (fun _ => ()) = some ():=by kernel_rfl
 obtain ⟨i,hi,hc⟩:=Option.map_eq_some_iff.1 h1
 obtain ⟨j,hj,_⟩:=Option.map_eq_some_iff.1 h2
 exact run_eql_iface_ptr_same W a Tryz.underlying61 Tryz.underlying198 hi hc hj
theorem contract (H : Type) (enc : TypeId × Value → H) (W : World) (base : Nat) (args : Array Value) (ds gs : List (DataW H)) (before : List MemPlace)
  (hval : ∀ (j : Nat) t v,Tryz.f4.params[j]? = some t → args[j]? = some v → Value.okWide Tryz.prog W .any base t v)
  (hW : DataW.Whole enc Tryz.prog Tryz.f4.params.toList Rows.fnStyleSpec.vars false W args.toList ds gs before) (hL : laidMetH Tryz.prog Rows.fnStyleRow.laid W) :
  Calls Tryz.prog 4 args W fun e W' => ∃ v,e = .returned v ∧ Rows.fnStyleSpec.post enc Tryz.prog Tryz.f4 false true false false W args v W':=by
 have hW':=hW
 obtain ⟨p,q,hA0,hV0,rfl,hfz,hnd⟩:=hW
 have hA : DataW.TrodAll enc Tryz.prog W 0 (fun _ => true) true Tryz.f4.params.toList args.toList ds p:=hA0
 have hV : DataW.TrodVars enc Tryz.prog W (fun _ => true) ["loop.example/pub-g01476/pub/tdcss._Hash_table"] gs q:=hV0
 rw [Tryz.params4] at hA hval
 obtain ⟨v0,v1,d0,d1,p0,p1,hargs,rfl,rfl,h0,h1⟩:=trodAll_two hA
 obtain rfl : args = #[v0,v1]:=by cases args;simp_all
 obtain ⟨n,rfl,rfl,rfl,hwn⟩:=open_int Tryz.underlying3 (hval 1 3 v1 rfl rfl) h1
 obtain ⟨a0,len0,cap0,rfl⟩:=okWide_slice Tryz.underlying31 (hval 0 31 v0 rfl rfl)
 have k0:=h0
 have lt0 : ∀ x ∈ p0,x.block < W.heap.size:=by obtain ⟨m,hm⟩:=k0;exact DataW.trod_lt m _ _ _ hm
 obtain ⟨fuel,hf⟩:=h0
 obtain ⟨l,hl⟩:=open_dc hf
 obtain ⟨A,c,e,hlc,hrd⟩:=hl.rd
 injection e with e1 e2 e3
 subst e1;subst e2;subst e3
 have hL2 : laidMet Tryz.prog Rows.fnStyleRow.laid W:=by
  rwa [MakeChecks.laidMetH_plain _ _ _ (by kernel_rfl)] at hL
 obtain ⟨a,heof,hpos⟩:=eof hL2
 obtain ⟨g1,rfl⟩ : ∃ g1,gs = [g1]:=by
  match gs,hV with
  | [g1],_ => exact ⟨g1,rfl⟩
 refine (style_any hrd hlc hl.by_ (tabU hL2) hpos heof (eq198 a)).mono fun e W' ⟨he,hb⟩ => ?_
 subst he
 exact ⟨_,rfl,_,_,_,[],_,_,hW',trodAll_mk1 (shut_bool Tryz.underlying4 _),trodAll_cons_mk (Below.trod laidOut (by kernel_rfl) (of_decide_eq_true (by kernel_rfl)) k0 hb lt0) (trodAll_cons_mk (shut_int Tryz.underlying3 hwn) trodAll_mk0),hb.trodVars laidOut (by kernel_rfl) hV,hb.frame _,fun h => by cases h⟩
theorem lifted (os : Os) (started : os.Started) (H : Type) (enc : TypeId × Value → H) :
  ReturnsInHanded {} Tryz.checked os 4 .any (fun w args => (Rows.fnStyleSpec.pre enc Tryz.prog Tryz.f4 Rows.fnStyleRow.domain false w args ∧ laidMetH Tryz.prog Rows.fnStyleRow.laid w) ∧ sizedMet enc Tryz.prog Tryz.f4 (OpenSpec.ofChange Rows.fnStyleSpec) false w args)
   (Rows.fnStyleSpec.post enc Tryz.prog Tryz.f4 false true false false):=by
 refine returnsInHanded_of_change_and (C:=Tryz.checked) (X:=fun w _ => laidMetH Tryz.prog Rows.fnStyleRow.laid w) (fun _ _ _ hh h => h.of_heap hh) own started (by kernel_rfl) Tryz.func4
  (ChangeSpec.witness_shaped (enc:=enc) (C:=Tryz.checked) (os:=os) (X:=fun w _ => laidMetH Tryz.prog Rows.fnStyleRow.laid w) false (World.laidAll Tryz.prog os Rows.fnStyleRow.laid) #[.slice none 0 0,.int .i64 0] 8 (World.laidAll_os _ _ _)
   (World.shaped_of_ZipB (by kernel_rfl) (by kernel_rfl)) (by kernel_rfl) (by kernel_rfl) (by kernel_rfl)
   (by rw [MakeChecks.laidMetH_plain _ _ _ (by kernel_rfl)];exact laidMet_laidAll _ (by kernel_rfl) (by kernel_rfl))) ?_
 intro W base args ds gs before hval hW _ _ hL _
 exact contract H enc W base args ds gs before hval hW hL
theorem said : Rows.FnStyleSaid :=
 OpenClaim.holds_of_wide 4 Tryz.f4 rfl rfl rfl rfl rfl rfl rfl ⟨rfl,rfl,rfl,rfl,rfl⟩ rfl rfl rfl rfl rfl (by kernel_rfl) Tryz.func4 (by kernel_rfl)
  (of_decide_eq_true (by kernel_rfl)) (by unfold Func.isWrapper;first|(rw [if_pos (by decide +kernel)];kernel_rfl)|(rw [if_neg (by decide +kernel)];exact ⟨rfl,rfl⟩))
  (fun os started H enc _ => lifted os started H enc)
theorem plain (f : FuncId) (fn : Func) (hf : Tryz.pinned.checked.prog.funcNamed "loop.example/pub-g01476/laws.FnStyle" = some f) (hfn : Tryz.pinned.checked.prog.funcs[f]? = some fn) :
  true = Tryz.pinned.checked.prog.looks [] ∧ ∀ (j : Nat) t,fn.params[j]? = some t → Tryz.pinned.checked.prog.wantsStandIn t = false:=by
 obtain rfl : f = 4:=Option.some.inj ((show Tryz.prog.funcNamed "loop.example/pub-g01476/laws.FnStyle" = some 4 by kernel_rfl).symm.trans hf) |>.symm
 obtain rfl : fn = Tryz.f4:=(Option.some.inj (Tryz.func4.symm.trans hfn)).symm
 refine ⟨by kernel_rfl,fun j t ht => ?_⟩
 rw [Tryz.params4] at ht
 have hm : t ∈ [31,3]:=by simpa using Array.mem_of_getElem? ht
 have hall : ([31,3].all fun u => !Tryz.prog.wantsStandIn u) = true:=by kernel_rfl
 exact (show Tryz.prog.wantsStandIn t = false by simpa using List.all_eq_true.1 hall t hm)
theorem card : Rows.FnStyleCardSaid :=
 Claim7.holds_tied_plain_at .later [] _ _ _ _ said (fun _ h => by cases h) (by kernel_rfl) (fun _ h => by cases h) fnStyle_row_tie rfl ⟨rfl,rfl⟩ (by kernel_rfl) rfl plain (by kernel_rfl)
end Go.Proofs.YtlglijnaeaonpaaGreatDoor.FnStyle
namespace Go.Proofs.YtlglijnaeaonpaaGreatDoor
theorem fnStyle_card_holds : Rows.FnStyleCardSaid:=FnStyle.card
end Go.Proofs.YtlglijnaeaonpaaGreatDoor
end
