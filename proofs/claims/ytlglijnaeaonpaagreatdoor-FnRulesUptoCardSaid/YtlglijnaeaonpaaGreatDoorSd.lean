/- FnRules: a part of the proof (Sd). -/
import Derived.Test.YtlglijnaeaonpaaGreatDoorCards
import Derived.Test.YtlglijnaeaonpaaGreatDoorTie
import Derived.Test.YtlglijnaeaonpaaGreatDoorSc
import Derived.ProofKit
import Derived.OpenShut
import Derived.OpenVars
import Derived.LaidMore
import Derived.Lay
import Derived.LaidEql
import Derived.SevenTiedAt
import Derived.Stop.Joined
import Derived.Stop.LaidErr
import Derived.Lib.LaidU8
import Derived.Lib.LaidTab
import Derived.Deep.DeepHandedRow
import Derived.JoinedCond
section
set_option maxHeartbeats 8000000
set_option maxRecDepth 100000
set_option linter.unusedVariables false
set_option linter.unusedSimpArgs false
namespace Go.Proofs.YtlglijnaeaonpaaGreatDoor.bY
open Go.ChangeShapes Go.WideShapes Go.ChangeAt Go.RowKit Go.Proofs.YtlglijnaeaonpaaGreatDoor.Lx
theorem own:ownKnob Tryz.prog.godebug=none:=by kernel_rfl
theorem laidOut:laidOutB Tryz.prog=true:=by kernel_rfl
theorem Mn:("unicode/utf8.first",Rows.laid_unicode_utf8_first)∈Rows.fnRulesUptoRow.laid:=.tail _ (.tail _ (.tail _ (.tail _ (.tail _ (.tail _ (.tail _ (.head _)))))))
theorem Ig:("unicode/utf8.acceptRanges",Rows.laid_unicode_utf8_acceptRanges)∈Rows.fnRulesUptoRow.laid:=.tail _ (.tail _ (.tail _ (.head _)))
theorem Mo {z:Int} (h:(Lit.int .u8 z).wf=true):0≤z∧z≤255:=by
 simp [Lit.wf,IntKind.min,IntKind.max,IntKind.bits,IntKind.signed] at h
 omega
theorem ago {W:World} (h:laidMet Tryz.prog Rows.fnRulesUptoRow.laid W):fU W:=by
 have c5:Tryz.prog.cellsOf 5=1:=by kernel_rfl
 refine⟨fun x hx=> ?_,fun j hj=> ?_⟩
 ·obtain⟨g,t,cs,fuel,p,hg,hty,Qb,hd⟩:=Lib.laidMet.reads h Mn
  obtain rfl:=Option.some.inj ((show Tryz.prog.globalNamed "unicode/utf8.first" =some 2 by kernel_rfl).symm.trans hg)
  obtain rfl:=Option.some.inj ((show (Tryz.prog.globals[2]?).map (·.type)=some 144 by kernel_rfl).symm.trans hty)
  obtain⟨abw,d,q,hdi,he⟩:=Lib.array_elem Tryz.underlying144 (show DataW.trod _ _ _ _ _ _ _ _ _=some (.agg _,p) from hd) x hx
  rw [c5,Nat.mul_one] at he
  obtain⟨z,hz,_,hwf⟩:=DataW.trod_int Tryz.underlying5 he
  have hr:=Mo hwf
  have e0:=congrArg (·[0]?) hz
  simp only [List.getElem?_take,List.getElem?_drop] at e0
  refine⟨z.toNat,by omega,?_⟩
  rw [World.var?_cell hg Qb x,←Array.getElem?_toList,show ((z.toNat:Nat):Int)=z by omega]
  simpa using e0
 ·obtain⟨g,t,cs,fuel,p,hg,hty,Qb,hd⟩:=Lib.laidMet.reads h Ig
  obtain rfl:=Option.some.inj ((show Tryz.prog.globalNamed "unicode/utf8.acceptRanges" =some 3 by kernel_rfl).symm.trans hg)
  obtain rfl:=Option.some.inj ((show (Tryz.prog.globals[3]?).map (·.type)=some 147 by kernel_rfl).symm.trans hty)
  obtain⟨abw,d,q,hdi,he⟩:=Lib.array_elem Tryz.underlying147 (show DataW.trod _ _ _ _ _ _ _ _ _=some (.agg _,p) from hd) j hj
  rw [show Tryz.prog.cellsOf 146=2 by kernel_rfl] at he
  obtain⟨xs,n,_,hx,hl,o9,fi⟩:=DataW.trod_struct Tryz.underlying146 he
  have a0:=fi 0 ⟨ "lo",5,0,false,"","unicode/utf8",0⟩ rfl
  have a1:=fi 1 ⟨ "hi",5,1,false,"","unicode/utf8",1⟩ rfl
  obtain⟨b0,qS⟩:∃b,xs[0]? =some b:=⟨_,List.getElem?_eq_getElem (show 0<xs.length by rw [o9];decide)⟩
  obtain⟨b1,eW⟩:∃b,xs[1]? =some b:=⟨_,List.getElem?_eq_getElem (show 1<xs.length by rw [o9];decide)⟩
  rw [qS] at a0
  rw [eW] at a1
  dsimp only at a0 a1
  rw [c5] at a0 a1
  obtain⟨z0,sa,_,_⟩:=DataW.trod_int Tryz.underlying5 a0
  obtain⟨z1,o0,_,_⟩:=DataW.trod_int Tryz.underlying5 a1
  have e0:=congrArg (·[0]?) sa
  have e1:=congrArg (·[0]?) o0
  simp only [List.getElem?_take,List.getElem?_drop] at e0 e1
  refine⟨z0,z1,?_,?_⟩
  ·rw [World.var?_cell hg Qb (j*2),←Array.getElem?_toList]
   simpa using e0
  ·rw [World.var?_cell hg Qb (j*2+1),←Array.getElem?_toList]
   simpa using e1
theorem star: "*" ++ "errors.errorString" = "*errors.errorString":=by decide
theorem VP (u:TypeId) (h:Tryz.prog.typeName? 3 u=some "*errors.errorString"):u=198:=
 typeName_ptr_named (nm:= "errors.errorString") (by rw [star];kernel_rfl) (by kernel_rfl) (by decide) u (by rw [star];exact h)
theorem eof {W:World} (h:laidMet Tryz.prog Rows.fnRulesUptoRow.laid W):∃a:Addr,W.cell? ⟨0,0,none⟩=some (.iface 198 (.pointer (some a)))∧0<W.heap.size:=by
 obtain⟨a,s,hv,_⟩:=laid_sentinel (g:=0) (ti:=61) (ts:=9) (laidMet.tail (laidMet.tail (laidMet.tail (laidMet.tail h)))) (by kernel_rfl) (by kernel_rfl) Tryz.underlying61 VP Tryz.underlying198 Tryz.underlying212 rfl rfl Tryz.underlying9 (by kernel_rfl) (by kernel_rfl)
 have hc:W.cell? ⟨0,0,none⟩=some (.iface 198 (.pointer (some a))):=by
  have:=World.var?_cell (show Tryz.prog.globalNamed "io.EOF" =some 0 by kernel_rfl) hv 0
  simpa using this
 exact⟨a,hc,World.block_lt_of_cell? W ⟨0,0,none⟩ hc⟩
theorem abx (a:Addr) (W:World):(binOp .eql 61 (.iface 198 (.pointer (some a))) (.iface 198 (.pointer (some a)))).run Tryz.prog W= .ok (.bool true) W:=by
 have h1:(Tryz.prog.info? 198).map (·.comparable)=some true:=by kernel_rfl
 have h2:(Tryz.prog.info? 212).map (fun _=>())=some ():=by kernel_rfl
 obtain⟨i,hi,hc⟩:=Option.map_eq_some_iff.1 h1
 obtain⟨j,hj,_⟩:=Option.map_eq_some_iff.1 h2
 exact run_eql_iface_ptr_same W a Tryz.underlying61 Tryz.underlying198 hi hc hj
theorem agp {W:World} (h:laidMet Tryz.prog Rows.fnRulesUptoRow.laid W):ld W∧1<W.heap.size:=by
 have hg:Tryz.prog.globalNamed "loop.example/pub-g01476/pub/tdcss._Hash_table" =some 1:=by kernel_rfl
 have ht:Lib.TabIs Tryz.prog W "loop.example/pub-g01476/pub/tdcss._Hash_table" .u32 [4361,11012,9733,2057,8,0,6408,8453]:=
  Lib.tabIs_of_head (rest:=[("unicode/utf8.first",Rows.laid_unicode_utf8_first)]) hg (by kernel_rfl) Tryz.underlying134 Tryz.underlying121 (by kernel_rfl) (by kernel_rfl) (laidMet.tail (laidMet.tail (laidMet.tail (laidMet.tail (laidMet.tail (laidMet.tail h))))))
 have c:=fun (i:Nat) (hi:i<8)=>ht.cell hg i hi
 have c0:=c 0 (by decide)
 exact⟨⟨c0,c 1 (by decide),c 2 (by decide),c 3 (by decide),c 4 (by decide),c 5 (by decide),c 6 (by decide),c 7 (by decide)⟩,World.block_lt_of_cell? W ⟨1,0,none⟩ c0⟩
theorem Mp (H:Type) (enc:TypeId×Value→H) (W:World) (base:Nat) (args:Array Value) (ds gs:List (DataW H)) (before:List MemPlace)
  (Mq:∀(j:Nat) t v,Tryz.f3.params[j]? =some t→args[j]? =some v→Value.okWide Tryz.prog W .any base t v)
  (hW:DataW.Whole enc Tryz.prog Tryz.f3.params.toList Rows.fnRulesSpec.vars false W args.toList ds gs before) (hL:laidMetH Tryz.prog Rows.fnRulesUptoRow.laid W) (hk:Rows.uptoSmall H (ds++gs)=true):
  Calls Tryz.prog 3 args W fun e W' =>∃v,e= .returned v∧Rows.fnRulesSpec.post enc Tryz.prog Tryz.f3 false true false false W args v W':=by
 have hW':=hW
 obtain⟨p,q,hA0,hV0,rfl,hfz,hnd⟩:=hW
 have hA:DataW.TrodAll enc Tryz.prog W 0 (fun _=>true) true Tryz.f3.params.toList args.toList ds p:=hA0
 have hV:DataW.TrodVars enc Tryz.prog W (fun _=>true) ["loop.example/pub-g01476/pub/tdcss._Hash_table"] gs q:=hV0
 rw [Tryz.params3] at hA Mq
 obtain⟨v0,v1,d0,d1,p0,p1,Eb,rfl,rfl,h0,h1⟩:=trodAll_two hA
 obtain rfl:args= #[v0,v1]:=by cases args;simp_all
 obtain⟨n,rfl,rfl,rfl,hwn⟩:=open_int Tryz.underlying3 (Mq 1 3 v1 rfl rfl) h1
 obtain⟨a0,ahD,ahE,rfl⟩:=okWide_slice Tryz.underlying22 (Mq 0 22 v0 rfl rfl)
 have k0:=h0
 have lt0:∀x∈p0,x.block<W.heap.size:=by obtain⟨m,hm⟩:=k0;exact DataW.trod_lt m _ _ _ hm
 have aby:Rows.uptoBulkAll ([d0,.lit (.int .i64 n)]++gs)≤1048576:=of_decide_eq_true hk
 have qS:Rows.uptoBulk d0≤1048576:=Nat.le_trans (yA (List.mem_append.2 (.inl (.head _)))) aby
 obtain⟨fuel,hf⟩:=h0
 obtain⟨A,c,ps,e,FQ⟩:=P8 4 (y:=(d0,p0)) hf qS
 injection e with e1 e2 e3
 subst e1;subst e2;subst e3
 have hL2:laidMet Tryz.prog Rows.fnRulesUptoRow.laid W:=by
  rwa [MakeChecks.laidMetH_plain _ _ _ (by kernel_rfl)] at hL
 obtain⟨a,qO,OS⟩:=eof hL2
 obtain⟨hh,hh1⟩:=agp hL2
 obtain⟨g1,rfl⟩:∃g1,gs= [g1]:=by
  match gs,hV with
  | [g1],_=>exact⟨g1,rfl⟩
 refine(Qa FQ (ago hL2) hh hh1 qO (abx a)).mono fun e W' ⟨he,hb⟩=> ?_
 subst he
 exact⟨_,rfl,_,_,_,[],_,_,hW',trodAll_mk1 (shut_bool Tryz.underlying4 _),trodAll_cons_mk (Below.trod laidOut (by kernel_rfl) (of_decide_eq_true (by kernel_rfl)) k0 hb lt0) (trodAll_cons_mk (shut_int Tryz.underlying3 hwn) trodAll_mk0),hb.trodVars laidOut (by kernel_rfl) hV,hb.frame _,fun h=>by cases h⟩
noncomputable def wit (os:Os):World:=(World.laidAll Tryz.prog os Rows.fnRulesUptoRow.laid).forCall (fun _ _=>0) ⟨#[],#[.slice none 0 0,.int .i64 0],[]⟩
theorem witness (os:Os) (H:Type) (enc:TypeId×Value→H):
  ∃(w:World) (tape:Tape) (i:Input),w.os=os∧(w.forCall tape i).Shaped Tryz.checked.prog∧i.vars= []∧Input.okWide Tryz.checked.prog (w.forCall tape i) .any w.heap.size 3 i∧
   (Rows.OpenSpec.upto Rows.fnRulesSpec).preRow enc Tryz.checked.prog Tryz.f3 Rows.fnRulesUptoRow.domain false Rows.fnRulesUptoRow.laid (w.forCall tape i).memory i.args∧(({}:Assume)).holds Tryz.checked.prog (lone (Frame.enter Tryz.checked.prog 3 i.args .normal) [] (w.forCall tape i)):=by
 have hx:∃x:List (DataW H)×List (DataW H)×List MemPlace,DataW.whole enc Tryz.prog (wit os).memory Tryz.f3.params.toList Rows.fnRulesSpec.vars false #[Value.slice none 0 0,.int .i64 0].toList 8=some x∧Rows.uptoSmall H (x.1++x.2.1)=true:=by
  have key:((DataW.whole enc Tryz.prog (wit os).memory Tryz.f3.params.toList Rows.fnRulesSpec.vars false #[Value.slice none 0 0,.int .i64 0].toList 8).map fun x=>Rows.uptoSmall H (x.1++x.2.1))=some true:=by kernel_rfl
  obtain⟨x,h1,h2⟩:=Option.map_eq_some_iff.1 key
  exact⟨x,h1,h2⟩
 obtain⟨x,G7,DB⟩:=hx
 have sd:Input.okWideB Tryz.prog (wit os) 3 ⟨#[],#[.slice none 0 0,.int .i64 0],[]⟩=true:=by kernel_rfl
 refine⟨World.laidAll Tryz.prog os Rows.fnRulesUptoRow.laid,fun _ _=>0,⟨#[],#[.slice none 0 0,.int .i64 0],[]⟩,World.laidAll_os _ _ _,World.shaped_of_ZipB (by kernel_rfl) (by kernel_rfl),(Input.okWide_of_okWideB (base:=0) sd).1,(Input.okWide_of_okWideB sd).2,
  OpenSpec.preRow_of_cond 8 G7 rfl (fun k hk=>by cases hk;exact DB) (by kernel_rfl) (by rw [MakeChecks.laidMetH_plain _ _ _ (by kernel_rfl)];exact laidMet_laidAll _ (by kernel_rfl) (by kernel_rfl)),?_⟩
 simp only [Assume.holds]
 exact⟨by simp,by simp,fun _=>Modest.zero,by simp,by simp⟩
theorem lifted (os:Os) (started:os.Started) (H:Type) (enc:TypeId×Value→H) (F:Stop.Interp):
  ReturnsInHanded {} Tryz.checked os 3 .any ((Rows.OpenSpec.upto Rows.fnRulesSpec).preRow enc Tryz.prog Tryz.f3 Rows.fnRulesUptoRow.domain false Rows.fnRulesUptoRow.laid) (((Rows.OpenSpec.upto Rows.fnRulesSpec).at F).post enc Tryz.prog Tryz.f3 false true false false):=by
 refine returnsInHanded_of_row (C:=Tryz.checked) (s:=Rows.OpenSpec.upto Rows.fnRulesSpec) own started (by kernel_rfl) Tryz.func3 (witness os H enc) ?_
 intro W base args ds gs before Mq hW _ abz _ hL _ _
 exact Mp H enc W base args ds gs before Mq hW hL (abz _ rfl)
theorem said:Rows.FnRulesUptoSaid:=
 OpenClaim.holds_of_cond 3 Tryz.f3 rfl rfl rfl rfl rfl rfl rfl ⟨rfl,rfl,rfl,rfl,rfl⟩ rfl rfl rfl rfl rfl (by kernel_rfl) Tryz.func3 (by kernel_rfl)
  (of_decide_eq_true (by kernel_rfl)) (by unfold Func.isWrapper;first|(rw [if_pos (by decide+kernel)];kernel_rfl)|(rw [if_neg (by decide+kernel)];exact⟨rfl,rfl⟩))
  (fun os started H enc _ F=>by rw [OpenClaim.pre_eq_preRow];exact lifted os started H enc F)
theorem plain (f:FuncId) (fn:Func) (hf:Tryz.pinned.checked.prog.funcNamed "loop.example/pub-g01476/laws.FnRules" =some f) (hfn:Tryz.pinned.checked.prog.funcs[f]? =some fn):
  true=Tryz.pinned.checked.prog.looks []∧∀(j:Nat) t,fn.params[j]? =some t→Tryz.pinned.checked.prog.wantsStandIn t=false:=by
 obtain rfl:f=3:=Option.some.inj ((show Tryz.prog.funcNamed "loop.example/pub-g01476/laws.FnRules" =some 3 by kernel_rfl).symm.trans hf) |>.symm
 obtain rfl:fn=Tryz.f3:=(Option.some.inj (Tryz.func3.symm.trans hfn)).symm
 refine⟨by kernel_rfl,fun j t ht=> ?_⟩
 rw [Tryz.params3] at ht
 have hm:t∈ [22,3]:=by simpa using Array.mem_of_getElem? ht
 have fi:([22,3].all fun u=> !Tryz.prog.wantsStandIn u)=true:=by kernel_rfl
 exact(show Tryz.prog.wantsStandIn t=false by simpa using List.all_eq_true.1 fi t hm)
theorem agq:Rows.FnRulesUptoCardSaid:=
 Claim7.holds_tied_plain_at .later [] _ _ _ _ said (fun _ h=>by cases h) (by kernel_rfl) (fun _ h=>by cases h) fnRulesUpto_row_tie rfl ⟨rfl,rfl⟩ (by kernel_rfl) rfl plain (by kernel_rfl)
end Go.Proofs.YtlglijnaeaonpaaGreatDoor.bY
namespace Go.Proofs.YtlglijnaeaonpaaGreatDoor
theorem fnRulesUpto_card_holds:Rows.FnRulesUptoCardSaid:=bY.agq
end Go.Proofs.YtlglijnaeaonpaaGreatDoor
end
