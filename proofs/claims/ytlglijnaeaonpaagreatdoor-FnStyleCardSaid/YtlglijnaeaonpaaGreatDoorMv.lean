/- FnStyle: a part of the proof (Mv). -/
import Derived.Test.YtlglijnaeaonpaaGreatDoorMt
import Derived.Test.YtlglijnaeaonpaaGreatDoorMu
import Derived.Test.YtlglijnaeaonpaaGreatDoorMi
import Derived.StillTailTactics
import Derived.Lib.SlBytesConst
import Derived.Deep.LoopGhost
import Derived.Deep.DeepCutAuto
import Derived.Deep.RegionHeld3
import Derived.ArgAppend
section
set_option maxHeartbeats 8000000
set_option maxRecDepth 100000
set_option linter.unusedVariables false
set_option linter.unusedSimpArgs false
namespace Go.Proofs.YtlglijnaeaonpaaGreatDoor.Lx
open Go.RowKit Go.Proofs.YtlglijnaeaonpaaGreatDoorW.PrintWords
variable {w0 w : World} {c : Cfg} {p : Int} {B : Nat} {gp : Nat} {v : PV} {ts : List Tk} {ds : List Int} {q : Int} {xs : List Int}
inductive Sheet (bs : List Int) : Int → List Pc → Prop where
 | nil {p q : Int} {xs : List Int} {ws : Bool} (h : PopR bs p 0 q xs ws) : Sheet bs p []
 | cons {p q1 q q2 k2 : Int} {xs xs2 : List Int} {ws ws2 : Bool} {cl : Tk} {b : Bool} {rest : List (Tk × Bool)} {ps : List Pc} (h1 : PopR bs p 1 q1 xs ws) (hx : ∀ x ∈ xs,0 ≤ x ∧ x ≤ 255) (hcl : cl.tt = 23) (hal : rest.length < 10000000)
   (hb : (bars (flat rest)).length ≤ 100000000000) (hs : Strm bs q 0 q1 ((cl,b) :: rest)) (h2 : PopR bs q k2 q2 xs2 ws2) (hk2 : k2 = 24 ∨ k2 = 0) (ht : Sheet bs q2 ps) : Sheet bs p (⟨declB,xs.map low,bars (flat rest)⟩ :: ps)
theorem bars_nonws {a b : List Tk} (h : nonws a = nonws b) : bars a = bars b:=by unfold bars;rw [h]
def Vok (v : PV) : Prop:=v.pe = false ∧ v.kw = false ∧ v.lvl = 0
theorem sheet_round {ws : Bool} {cl : Tk} {b : Bool} {rest : List (Tk × Bool)} {k2 q1 q2 : Int} {xs2 : List Int} {ws2 : Bool} (h : Ps B w0 c gp w p v ts [38] ds) (h0 : 0 < B) (hv : Vok v) (hpop : PopR c.bs p 1 q1 xs ws)
  (hal : rest.length < 10000000) (hcl : cl.tt = 23) (hx : ∀ x ∈ xs,0 ≤ x ∧ x ≤ 255) (hb : (bars (flat rest)).length ≤ 100000000000) (hs : Strm c.bs q 0 q1 ((cl,b) :: rest)) (hpop2 : PopR c.bs q k2 q2 xs2 ws2) (hk2 : k2 = 24 ∨ k2 = 0) :
  Calls Tryz.prog 21 #[.pointer (some ⟨gp,0,none⟩)] w fun e w' => ∃ v' ts',e = .returned (.tuple #[.int .u32 8,.int .u32 1,v'.data]) ∧ Vok v' ∧ nonws ts' = nonws (flat rest) ∧ ts'.length ≤ 100000000 ∧ (bars ts').length ≤ 100000000000 ∧ Pk B w0 c gp w w' q2 v' ts' [38] (xs.map low):=by
 refine (nextDecl h h0 hv.1 hv.2.1 hv.2.2 hpop hal hcl hx hs hpop2 hk2).mono ?_
 rintro e w' ⟨v',ts',rfl,b1,b2,b3,b4,⟨b5,b6⟩,b7⟩
 exact ⟨v',ts',rfl,⟨b1,b2,b3⟩,b5,b6,by rw [bars_nonws b5];exact hb,b7⟩
end Go.Proofs.YtlglijnaeaonpaaGreatDoor.Lx
end
section
set_option maxHeartbeats 8000000
set_option maxRecDepth 100000
set_option linter.unusedVariables false
set_option linter.unusedSimpArgs false
namespace Go.Proofs.YtlglijnaeaonpaaGreatDoor.Lx
open Go.RowKit Go.Proofs.YtlglijnaeaonpaaGreatDoorW.PrintWords Go.Proofs.YtlglijnaeaonpaaGreatDoor.PFnStyle
theorem kVal_kc {k : ByteArray} {t : Int} (h : Kc k t) (hs : hasL kVal.data.toList ([32] ++ k.data.toList ++ [32]) = true) :
  ((IsOp k ∧ (t = 28 ∨ t = 2)) ∨ (k.data.toList = [41] ∧ t = 29) ∨ (¬ IsOp k ∧ k.data.toList ≠ [91] ∧ k.data.toList ≠ [41] ∧ k.data.toList ≠ [93] ∧ Oth t)) ∧ t ≠ 20 ∧ t ≠ 32:=by
 have no : ∀ {k : ByteArray} {P : Prop},hasL kVal.data.toList ([32] ++ k.data.toList ++ [32]) = false → hasL kVal.data.toList ([32] ++ k.data.toList ++ [32]) = true → P:=by
  intro k P h1 h2;rw [h1] at h2;cases h2
 cases h with
 | fn => exact ⟨.inl ⟨by decide,.inr rfl⟩,by decide,by decide⟩
 | lp => exact ⟨.inl ⟨by decide,.inl rfl⟩,by decide,by decide⟩
 | rp => exact ⟨.inr (.inl ⟨rfl,rfl⟩),by decide,by decide⟩
 | ident => exact ⟨.inr (.inr ⟨by decide,by decide,by decide,by decide,by unfold Oth;decide⟩),by decide,by decide⟩
 | hash => exact ⟨.inr (.inr ⟨by decide,by decide,by decide,by decide,by unfold Oth;decide⟩),by decide,by decide⟩
 | str => exact ⟨.inr (.inr ⟨by decide,by decide,by decide,by decide,by unfold Oth;decide⟩),by decide,by decide⟩
 | url => exact ⟨.inr (.inr ⟨by decide,by decide,by decide,by decide,by unfold Oth;decide⟩),by decide,by decide⟩
 | num => exact ⟨.inr (.inr ⟨by decide,by decide,by decide,by decide,by unfold Oth;decide⟩),by decide,by decide⟩
 | pct => exact ⟨.inr (.inr ⟨by decide,by decide,by decide,by decide,by unfold Oth;decide⟩),by decide,by decide⟩
 | dim => exact ⟨.inr (.inr ⟨by decide,by decide,by decide,by decide,by unfold Oth;decide⟩),by decide,by decide⟩
 | comma => exact ⟨.inr (.inr ⟨by decide,by decide,by decide,by decide,by unfold Oth;decide⟩),by decide,by decide⟩
 | at_ => exact no (by kernel_rfl) hs
 | lb => exact no (by kernel_rfl) hs
 | rb => exact no (by kernel_rfl) hs
 | lc => exact no (by kernel_rfl) hs
 | rc => exact no (by kernel_rfl) hs
 | colon => exact no (by kernel_rfl) hs
 | semi => exact no (by kernel_rfl) hs
 | m1 => exact no (by kernel_rfl) hs
 | m2 => exact no (by kernel_rfl) hs
 | m3 => exact no (by kernel_rfl) hs
 | m4 => exact no (by kernel_rfl) hs
 | m5 => exact no (by kernel_rfl) hs
theorem tokR_kc {xs : List Int} {i i' : Int} {k : ByteArray} (h : TokR xs i k i') (hs : hasL kVal.data.toList ([32] ++ k.data.toList ++ [32]) = true) : ∃ t,Kc k t ∧ Tok (xs ++ [0]) i t i':=by
 have no : ∀ {k : ByteArray} {P : Prop},hasL kVal.data.toList ([32] ++ k.data.toList ++ [32]) = false → hasL kVal.data.toList ([32] ++ k.data.toList ++ [32]) = true → P:=by
  intro k P h1 h2;rw [h1] at h2;cases h2
 rcases h with h|h|⟨rfl,_⟩
 ·exact h
 ·cases h with
  | blank => exact no (by kernel_rfl) hs
  | com => exact no (by kernel_rfl) hs
  | ran => exact no (by kernel_rfl) hs
  | cdc => exact no (by kernel_rfl) hs
  | cdo => exact no (by kernel_rfl) hs
  | col => exact no (by kernel_rfl) hs
 ·exact no (by kernel_rfl) hs
theorem Tok.nws {bs : List Int} {p k e : Int} (h : Tok bs p k e) (hk : k ≠ 20) : ¬ Ws (at_ bs p):=by
 cases h with
 | ws _ => exact absurd rfl hk
 | colon h => unfold Ws;omega
 | semi h => unfold Ws;omega
 | comma h => unfold Ws;omega
 | bracket t h => unfold Bk at h;unfold Ws;omega
 | hash h h1 => unfold Ws;omega
 | string r h0 h1 h2 ha h3 => unfold Ws;omega
 | atw h h1 => unfold Ws;omega
 | mat t h h1 => unfold Mt at h;unfold Ws;omega
 | star h h1 => unfold Ws;omega
 | dot h h1 => unfold Ws;omega
 | gt h => unfold Ws;omega
 | num q k2 e2 h hu hf => unfold Dg at hf;unfold Ws;omega
 | like k2 e2 h hl hf hm =>
  unfold Idt Sn at h
  unfold Ws
  omega
inductive TL (xs : List Int) : Int → List (ByteArray × List Int) → Prop where
 | nil : TL xs xs.length []
 | cons {i i' t : Int} {kind : ByteArray} {r : List (ByteArray × List Int)} (h0 : 0 ≤ i) (h1 : i < i') (h2 : i' ≤ xs.length) (hk : Kc kind t) (ht : Tok (xs ++ [0]) i t i') (hr : TL xs i' r) : TL xs i ((kind,mid xs i i') :: r)
theorem TkC.tl {xs : List Int} {ps : List (ByteArray × List Int)} {i : Int} {o : Bool} (h : TkC xs ps i o) (hn : N0 xs) (hb : Nb xs) : o = false → (∀ q ∈ ps,hasL kVal.data.toList ([32] ++ q.1.data.toList ++ [32]) = true) → ∀ r,TL xs i r → TL xs 0 (ps ++ r):=by
 induction h with
 | nil => intro _ _ r hr;exact hr
 | snoc ps i kind i' o' h h0 h1 hk2 ih =>
  intro ho hk r hr
  obtain ⟨t,hkc,ht⟩:=tokR_kc (hk2.2.2 hb hn ho) (hk (kind,mid xs i i') (by simp))
  rw [List.append_assoc]
  exact ih rfl (fun q hq => hk q (by simp [hq])) _ (.cons h0 hk2.2.1 h1 hkc ht hr)
theorem TL.head {xs : List Int} {i : Int} {qs : List (ByteArray × List Int)} (h : TL xs i qs) (hne : qs ≠ []) : ∃ i' t kind d,Kc kind t ∧ Tok (xs ++ [0]) i t i' ∧ (kind,d) ∈ qs:=by
 cases h with
 | nil => exact absurd rfl hne
 | cons h0 h1 h2 hk ht hr => exact ⟨_,_,_,_,hk,ht,List.mem_cons_self ..⟩
theorem LvB.nil_ {st : List ByteArray} (h : LvB st []) : st = []:=by cases h;rfl
theorem word_strm {x bs : List Int} {o q : Int} (hI : Ins x bs o) {qs : List (ByteArray × List Int)} {i : Int} (h : TL x i qs) : (∀ q ∈ qs,hasL kVal.data.toList ([32] ++ q.1.data.toList ++ [32]) = true) → ∀ st,LvB st (qs.map (·.1)) → ∀ r,Strm bs q 0 (o + x.length) r →
  ∃ ts : List Tk,ts.map Tk.bs = qs.map (·.2) ∧ (∀ t ∈ ts,t.tt ≠ 20) ∧ Strm bs q st.length (o + i) (ts.map (fun t => (t,false)) ++ r):=by
 induction h with
 | nil =>
  intro _ st hl r hr
  have:=hl.nil_
  subst this
  exact ⟨[],rfl,(fun t ht => by cases ht),hr⟩
 | @cons i i' t kind r0 h0 h1 h2 hk ht hr ih =>
  intro hs st hl r hR
  have hm:=hs _ (List.mem_cons_self ..)
  have hkk:=kVal_kc hk hm
  have hsh:=ht.shift hI h0 hkk.2.1
  have hpop : PopR bs (o + i) t (o + i') (mid x i i') false :=
   ⟨hkk.2.1,hkk.2.2,.inl ⟨rfl,.inl ⟨hsh.1,by rw [mid_seg h0 (by omega) h2,seg_shift hI h0 (by omega) h2]⟩⟩⟩
  have ih':=ih (fun q hq => hs q (List.mem_cons_of_mem _ hq))
  have fin : ∀ (st' : List ByteArray),LvB st' (r0.map (·.1)) → (∀ rs,Strm bs q st'.length (o + i') rs → Strm bs q st.length (o + i) ((⟨t,mid x i i'⟩,false) :: rs)) → ∃ ts : List Tk,ts.map Tk.bs = ((kind,mid x i i') :: r0).map (·.2) ∧ (∀ t ∈ ts,t.tt ≠ 20) ∧ Strm bs q st.length (o + i) (ts.map (fun t => (t,false)) ++ r):=by
   intro st' hl' hc
   obtain ⟨ts,e1,e2,e3⟩:=ih' st' hl' r hR
   refine ⟨⟨t,mid x i i'⟩ :: ts,by simp [e1],?_,hc _ e3⟩
   intro z hz
   rcases List.mem_cons.1 hz with rfl|hz
   ·exact hkk.2.1
   ·exact e2 z hz
  simp only [List.map_cons] at hl
  rcases hkk.1 with ⟨hop,ht'⟩|⟨h41,rfl⟩|⟨n1,n2,n3,n4,ho⟩
  ·have hO : Opn t:=by unfold Opn;omega
   cases hl with
   | par _ _ _ _ h => exact fin _ h fun rs hrs => .opn _ _ _ _ _ _ hpop hO (by simpa using hrs)
   | brk _ _ _ hk' _ => exfalso;unfold IsOp at hop;rw [hk'] at hop;simp at hop
   | cls _ _ _ _ hk' _ => exfalso;unfold IsOp at hop;rcases hk' with e|e <;> rw [e] at hop <;> simp at hop
   | oth _ _ _ h1' _ _ _ _ => exact absurd hop h1'
  ·cases hl with
   | par _ _ _ hk' _ => exfalso;unfold IsOp at hk';rw [h41] at hk';simp at hk'
   | brk _ _ _ hk' _ => exfalso;rw [h41] at hk';simp at hk'
   | cls st' c _ _ _ h =>
    refine fin _ h fun rs hrs => ?_
    rw [List.length_append]
    exact .cls _ _ _ _ _ _ hpop (by unfold Cls;exact .inl rfl) hrs
   | oth _ _ _ _ _ h3 _ _ => exact absurd h41 h3
  ·cases hl with
   | par _ _ _ hk' _ => exact absurd hk' n1
   | brk _ _ _ hk' _ => exact absurd hk' n2
   | cls _ _ _ _ hk' _ => rcases hk' with e|e;exact absurd e n3;exact absurd e n4
   | oth _ _ _ _ _ _ _ h => exact fin _ h fun rs hrs => .oth _ _ _ _ _ _ hpop ho hrs
theorem PopR.ws_ {bs : List Int} {p o k q : Int} {xs : List Int} (h : PopR bs o k q xs false) (hw : Ws (at_ bs p)) (hr : run Ws bs p = o) : PopR bs p k q xs true:=by
 obtain ⟨h1,h2,h3⟩:=h
 refine ⟨h1,h2,.inr ⟨rfl,hw,?_⟩⟩
 rw [hr]
 rcases h3 with ⟨_,h3⟩|⟨h3,_⟩
 ·exact h3
 ·cases h3
theorem Strm.ws_ {bs : List Int} {q p o : Int} {lvl : Nat} {t : Tk} {r : List (Tk × Bool)} (h : Strm bs q lvl o ((t,false) :: r)) (hw : Ws (at_ bs p)) (hr : run Ws bs p = o) : Strm bs q lvl p ((t,true) :: r):=by
 cases h with
 | opn _ _ q1 _ _ _ h hk h2 => exact .opn _ _ _ _ _ _ (h.ws_ hw hr) hk h2
 | cls _ _ q1 _ _ _ h hk h2 => exact .cls _ _ _ _ _ _ (h.ws_ hw hr) hk h2
 | oth _ _ q1 _ _ _ h hk h2 => exact .oth _ _ _ _ _ _ (h.ws_ hw hr) hk h2
theorem at_mid (pre x suf : List Int) (i : Int) (h0 : 0 ≤ i) (h1 : i < x.length) : at_ (pre ++ x ++ suf) (pre.length + i) = at_ x i:=by
 unfold at_
 rw [show ((pre.length : Int) + i).toNat = pre.length + i.toNat by omega,List.getD_eq_getElem?_getD,List.getD_eq_getElem?_getD,List.append_assoc,List.getElem?_append_right (by omega),Nat.add_sub_cancel_left,List.getElem?_append_left (by omega)]
theorem at_next (pre suf : List Int) (t : Int) : at_ (pre ++ t :: suf) pre.length = t:=by
 simp [at_]
theorem ins_of {pre x suf : List Int} {t : Int} (ht : StpE t) : Ins x (pre ++ x ++ t :: suf) pre.length:=by
 refine ⟨by omega,by simp;omega,fun i h0 h1 => at_mid _ _ _ i h0 h1,?_⟩
 have:=at_next (pre ++ x) suf t
 rw [List.length_append] at this
 rw [show ((pre.length : Int) + x.length) = ((pre.length + x.length : Nat) : Int) by omega,this]
 exact ht
theorem mem_at {x : List Int} {i : Int} (h0 : 0 ≤ i) (h1 : i < x.length) : at_ x i ∈ x:=by
 unfold at_
 rw [List.getD_eq_getElem?_getD,List.getElem?_eq_getElem (by omega)]
 exact List.getElem_mem _
theorem run_gap {pre g suf : List Int} (hg : ∀ b ∈ g,Ws b) (hn : ¬ Ws (at_ (pre ++ g ++ suf) ((pre.length : Int) + g.length))) : run Ws (pre ++ g ++ suf) pre.length = (pre.length : Int) + g.length :=
 run_uniq (by omega) (by omega) (by simp;omega) (fun i a b => by
  have:=at_mid pre g suf (i - pre.length) (by omega) (by omega)
  rw [show (pre.length : Int) + (i - pre.length) = i by omega] at this
  rw [this]
  exact hg _ (mem_at (by omega) (by omega))) (.inr hn)
theorem ws_gap {pre g suf : List Int} (hg : ∀ b ∈ g,Ws b) (h : g ≠ []) : Ws (at_ (pre ++ g ++ suf) pre.length):=by
 have hp : 0 < g.length:=List.length_pos_iff.2 h
 have:=at_mid pre g suf 0 (by omega) (by omega)
 rw [show (pre.length : Int) + 0 = pre.length by omega] at this
 rw [this]
 exact hg _ (mem_at (by omega) (by omega))
theorem one_word {pre g x suf : List Int} {t q : Int} {r : List (Tk × Bool)} {bs : List Int} (hbs : bs = pre ++ g ++ x ++ t :: suf) (hx : ∃ qs,Vw kVal x qs) (hg : ∀ b ∈ g,Ws b) (ht : StpE t) (hr : Strm bs q 0 ((pre.length : Int) + g.length + x.length) r) :
  ∃ rs : List (Tk × Bool),rs.map (·.1.bs) = (toks x).map (·.2) ∧ (∀ z ∈ rs,z.1.tt ≠ 20) ∧ Strm bs q 0 pre.length (rs ++ r):=by
 subst hbs
 obtain ⟨qs,hv⟩:=hx
 have hI : Ins x (pre ++ g ++ x ++ t :: suf) ((pre.length : Int) + g.length):=by
  have:=ins_of (pre:=pre ++ g) (x:=x) (suf:=suf) ht
  rw [List.length_append] at this
  rwa [show ((pre.length + g.length : Nat) : Int) = (pre.length : Int) + g.length by omega] at this
 have htl:=hv.tk.tl hv.n0 hv.nb rfl hv.ks [] .nil
 rw [List.append_nil] at htl
 obtain ⟨ts,e1,e2,e3⟩:=word_strm hI htl hv.ks [] hv.cl r hr
 rw [← hv.eq]
 rw [Int.add_zero] at e3
 cases hg' : g with
 | nil =>
  subst hg'
  refine ⟨ts.map (fun t => (t,false)),by simp [← e1],fun z hz => ?_,by simpa using e3⟩
  obtain ⟨y,hy,rfl⟩:=List.mem_map.1 hz
  exact e2 y hy
 | cons b0 g0 =>
  cases ts with
  | nil =>
   exfalso
   have:=hv.ne
   cases qs with
   | nil => exact this rfl
   | cons a b => simp at e1
  | cons t0 ts' =>
   have hne : g ≠ []:=by rw [hg'];simp
   have hnw : ¬ Ws (at_ (pre ++ g ++ x ++ t :: suf) ((pre.length : Int) + g.length)):=by
    have hp:=hv.pos
    have:=hI.eq 0 (by omega) (by omega)
    rw [Int.add_zero] at this
    rw [this,← at_snoc]
    obtain ⟨i',t',kind,d,hk,ht2,hm⟩:=htl.head hv.ne
    exact ht2.nws (kVal_kc hk (hv.ks _ hm)).2.1
   have hw:=ws_gap (pre:=pre) (g:=g) (suf:=x ++ t :: suf) hg hne
   have hrun:=run_gap (pre:=pre) (g:=g) (suf:=x ++ t :: suf) hg (by simpa [List.append_assoc] using hnw)
   rw [← List.append_assoc] at hw hrun
   rw [← hg']
   simp only [List.map_cons,List.cons_append] at e3
   refine ⟨(t0,true) :: ts'.map (fun t => (t,false)),by simp [← e1],fun z hz => ?_,e3.ws_ hw hrun⟩
   rcases List.mem_cons.1 hz with rfl|hz
   ·exact e2 _ (List.mem_cons_self ..)
   ·obtain ⟨y,hy,rfl⟩:=List.mem_map.1 hz
    exact e2 y (List.mem_cons_of_mem _ hy)
theorem stp_head {ws : List (List Int)} {t : Int} {suf : List Int} (ht : StpE t) : ∃ t' suf',wordsL ws ++ t :: suf = t' :: suf' ∧ StpE t':=by
 cases ws with
 | nil => exact ⟨t,suf,rfl,ht⟩
 | cons x r => exact ⟨32,x ++ (wordsL r ++ t :: suf),by simp [wordsL],by unfold StpE;omega⟩
theorem words_strm {bs : List Int} {t : Int} {suf : List Int} (ht : StpE t) : ∀ (ws : List (List Int)) (pre : List Int),bs = pre ++ wordsL ws ++ t :: suf → (∀ x ∈ ws,∃ qs,Vw kVal x qs) →
  ∃ rs : List (Tk × Bool),rs.map (·.1.bs) = tokD ws ∧ (∀ z ∈ rs,z.1.tt ≠ 20) ∧ Strm bs ((pre.length : Int) + (wordsL ws).length) 0 pre.length rs:=by
 intro ws
 induction ws with
 | nil =>
  intro pre hb _
  refine ⟨[],rfl,(fun z hz => by cases hz),?_⟩
  rw [show ((pre.length : Int) + (wordsL []).length) = pre.length by simp [wordsL]]
  exact .done
 | cons x ws ih =>
  intro pre hb hw
  have e : wordsL (x :: ws) = [32] ++ x ++ wordsL ws:=by simp [wordsL]
  obtain ⟨rs,h1,h2,h3⟩:=ih (pre ++ [32] ++ x) (by rw [hb,e];simp) (fun y hy => hw y (List.mem_cons_of_mem _ hy))
  obtain ⟨t',suf',e',ht'⟩:=stp_head (ws:=ws) (suf:=suf) ht
  have hlen : ((pre ++ [32] ++ x).length : Int) = (pre.length : Int) + ([32] : List Int).length + x.length:=by simp;omega
  rw [hlen] at h3
  obtain ⟨rs2,k1,k2,k3⟩:=one_word (pre:=pre) (g:=[32]) (x:=x) (suf:=suf') (t:=t') (bs:=bs) (by rw [hb,e,← e'];simp) (hw x (List.mem_cons_self ..)) (by intro b hb;simp at hb;subst hb;exact .inl rfl) ht' h3
  refine ⟨rs2 ++ rs,by rw [List.map_append,k1,h1];simp [tokD],fun z hz => ?_,?_⟩
  ·rcases List.mem_append.1 hz with hz|hz
   ·exact k2 z hz
   ·exact h2 z hz
  ·rw [e]
   have : ((pre.length : Int) + ([32] ++ x ++ wordsL ws).length) = (pre.length : Int) + ([32] : List Int).length + x.length + (wordsL ws).length:=by simp;omega
   rw [this]
   exact k3
theorem nonws_flat : ∀ (rs : List (Tk × Bool)),(∀ z ∈ rs,z.1.tt ≠ 20) → nonws (flat rs) = rs.map (·.1):=by
 intro rs
 induction rs with
 | nil => intro _;rfl
 | cons z r ih =>
  intro h
  obtain ⟨t,b⟩:=z
  have h1:=h (t,b) (List.mem_cons_self ..)
  have h2:=ih (fun y hy => h y (List.mem_cons_of_mem _ hy))
  have ht : (!(t.tt == 20)) = true:=by simpa using h1
  unfold nonws at *
  cases b with
  | false =>
   show List.filter _ (t :: flat r) = _
   rw [List.filter_cons,if_pos ht,h2]
   rfl
  | true =>
   show List.filter _ (⟨20,[32]⟩ :: t :: flat r) = _
   rw [List.filter_cons,if_neg (by decide),List.filter_cons,if_pos ht,h2]
   rfl
theorem bars_flat {rs : List (Tk × Bool)} {ws : List (List Int)} (h : ∀ z ∈ rs,z.1.tt ≠ 20) (h1 : rs.map (·.1.bs) = ws) : bars (flat rs) = barW ws:=by
 unfold bars barW
 rw [nonws_flat rs h,← h1,List.flatMap_map,List.flatMap_map]
def coreT (st : Int) (d : S68) : List Int:=d.f0 ++ [58] ++ gapL st ++ (wordsL d.f1).drop 1
theorem txOne_t {st : Int} {d : S68} : txOne st true d = coreT st d:=by simp [txOne,coreT]
theorem txOne_f {st : Int} {d : S68} : txOne st false d = [59] ++ gapL st ++ coreT st d:=by simp [txOne,coreT]
theorem gapL_ws (st : Int) : ∀ b ∈ gapL st,Ws b:=by
 intro b hb
 unfold gapL at hb
 unfold Ws
 split at hb
 ·cases hb
 ·split at hb
  ·simp at hb;omega
  ·simp at hb;omega
theorem seg1 {bs : List Int} {p : Int} (h0 : 0 ≤ p) (h1 : p < bs.length) : seg bs p (p + 1) = [at_ bs p]:=by
 have h2:=seg_length (bs:=bs) (s:=p) (p:=p + 1) h0 (by omega) (by omega)
 have h3:=seg_at (bs:=bs) (s:=p) (p:=p + 1) h0 0 (by omega)
 rw [show p + 1 - p = 1 by omega] at h2
 match hs : seg bs p (p + 1),h2,h3 with
 | [a],_,h3 =>
  have : a = at_ bs (p + (0 : Nat)):=by simpa using h3
  rw [this]
  simp
theorem Prp.at_pb {nm : List Int} (h : Prp nm) {i : Int} (h0 : 0 ≤ i) (h1 : i < nm.length) : Pb (at_ nm i):=by
 have:=h.by_ i.toNat (by omega)
 exact this
theorem name_tok {nm : List Int} (h : Prp nm) : Tok (nm ++ [0]) 0 1 nm.length:=by
 have hp:=h.pos
 have e0 : run Nm (nm ++ [0]) 0 = nm.length:=run_uniq (by omega) (by omega) (by simp;omega) (fun i a b => by
  rw [at_snoc]
  have:=h.at_pb a b
  unfold Pb at this
  unfold Nm
  omega) (.inr (by rw [at_snoc,at_past (Int.le_refl _)];decide))
 have h1 : Pb (at_ nm 0):=h.at_pb (by omega) (by omega)
 have h2 : at_ nm 0 ≠ 45:=h.fst
 have h3 : Pb (at_ nm 1) ∨ at_ nm 1 = 0:=by
  rcases Int.lt_or_le 1 nm.length with h'|h'
  ·exact .inl (h.at_pb (by omega) h')
  ·exact .inr (at_past h')
 unfold Pb at h1 h3
 refine .like _ _ (.inl ?_) (.inl ⟨?_,rfl,e0.symm⟩) (fun _ h43 => ?_) (fun h45 => ?_)
 ·rw [at_snoc];unfold Sn;omega
 ·rw [e0,at_snoc,at_past (Int.le_refl _)];decide
 ·rw [at_snoc] at h43
  rw [show (0 : Int) + 1 = 1 by omega] at h43
  omega
 ·rw [at_snoc] at h45
  omega
theorem PopR.gap {bs pre g suf nm : List Int} {k q : Int} (hbs : bs = pre ++ g ++ suf) (hg : ∀ b ∈ g,Ws b) (ht : Tok bs ((pre.length : Int) + g.length) k q) (hk : k ≠ 20) (hk2 : k ≠ 32) (hx : nm = seg bs ((pre.length : Int) + g.length) q) : ∃ ws,PopR bs pre.length k q nm ws:=by
 subst hbs
 by_cases h : g = []
 ·subst h
  refine ⟨false,hk,hk2,.inl ⟨rfl,.inl ⟨by simpa using ht,by simpa using hx⟩⟩⟩
 ·exact ⟨true,hk,hk2,.inr ⟨rfl,ws_gap hg h,by rw [run_gap hg (ht.nws hk)];exact .inl ⟨ht,hx⟩⟩⟩
theorem name_pop {bs pre g nm suf : List Int} (hn : Prp nm) (hbs : bs = pre ++ g ++ nm ++ 58 :: suf) (hg : ∀ b ∈ g,Ws b) : ∃ ws,PopR bs pre.length 1 ((pre.length : Int) + g.length + nm.length) nm ws:=by
 have hI : Ins nm bs ((pre.length : Int) + g.length):=by
  have:=ins_of (pre:=pre ++ g) (x:=nm) (suf:=suf) (t:=58) (by unfold StpE;omega)
  rw [List.length_append,← hbs] at this
  rwa [show ((pre.length + g.length : Nat) : Int) = (pre.length : Int) + g.length by omega] at this
 have ht:=(name_tok hn).shift hI (by omega) (by omega)
 rw [Int.add_zero] at ht
 refine PopR.gap (suf:=nm ++ 58 :: suf) (by rw [hbs];simp) hg ht.1 (by omega) (by omega) ?_
 have:=seg_shift hI (p:=0) (q:=nm.length) (by omega) (by omega) (by omega)
 rw [Int.add_zero] at this
 rw [this]
 simp [seg]
theorem colon_strm {bs pre suf : List Int} {st t : Int} {ws : List (List Int)} (hbs : bs = pre ++ [58] ++ gapL st ++ (wordsL ws).drop 1 ++ t :: suf) (hne : ws ≠ []) (hw : ∀ x ∈ ws,∃ qs,Vw kVal x qs) (ht : StpE t) :
  ∃ rest : List (Tk × Bool),rest.map (·.1.bs) = tokD ws ∧ (∀ z ∈ rest,z.1.tt ≠ 20) ∧ Strm bs ((pre.length : Int) + 1 + (gapL st).length + ((wordsL ws).drop 1).length) 0 pre.length ((⟨23,[58]⟩,false) :: rest):=by
 obtain ⟨x,ws,rfl⟩ : ∃ x r,ws = x :: r:=by cases ws with|nil => exact absurd rfl hne|cons x r => exact ⟨x,r,rfl⟩
 have e : (wordsL (x :: ws)).drop 1 = x ++ wordsL ws:=by simp [wordsL]
 rw [e] at hbs ⊢
 obtain ⟨rs,h1,h2,h3⟩:=words_strm (bs:=bs) (suf:=suf) ht ws (pre ++ [58] ++ gapL st ++ x) (by rw [hbs];simp) (fun y hy => hw y (List.mem_cons_of_mem _ hy))
 obtain ⟨t',suf',e',ht'⟩:=stp_head (ws:=ws) (suf:=suf) ht
 have hlen : ((pre ++ [58] ++ gapL st ++ x).length : Int) = ((pre ++ [58]).length : Int) + (gapL st).length + x.length:=by simp;omega
 rw [hlen] at h3
 obtain ⟨rs2,k1,k2,k3⟩:=one_word (pre:=pre ++ [58]) (g:=gapL st) (x:=x) (suf:=suf') (t:=t') (bs:=bs) (by rw [hbs,← e'];simp) (hw x (List.mem_cons_self ..)) (gapL_ws st) ht' h3
 refine ⟨rs2 ++ rs,by rw [List.map_append,k1,h1];simp [tokD],fun z hz => ?_,?_⟩
 ·rcases List.mem_append.1 hz with hz|hz
  ·exact k2 z hz
  ·exact h2 z hz
 ·have ep : ((pre ++ [58]).length : Int) = (pre.length : Int) + 1:=by simp
  have eq : (pre.length : Int) + 1 + (gapL st).length + (x ++ wordsL ws).length = ((pre ++ [58]).length : Int) + (gapL st).length + x.length + (wordsL ws).length:=by simp;omega
  rw [eq]
  have hat : at_ bs pre.length = 58:=by
   have:=at_next pre (gapL st ++ (x ++ wordsL ws) ++ t :: suf) 58
   rw [hbs]
   simpa using this
  have hlt : (pre.length : Int) < bs.length:=by rw [hbs];simp;omega
  rw [ep] at k3
  refine .oth _ _ _ _ _ _ ⟨by decide,by decide,.inl ⟨rfl,.inl ⟨.colon hat,?_⟩⟩⟩ (by unfold Oth;decide) (by rw [ep];exact k3)
  rw [seg1 (by omega) hlt,hat]
def Dok (d : S68) : Prop:=Vd d ∧ ∀ x ∈ d.f1,Tx x
theorem Dok.bars_le {d : S68} (h : Dok d) : (tokD d.f1).length ≤ 480 ∧ (barW (tokD d.f1)).length ≤ 100000:=by
 have hw : ∀ x ∈ d.f1,(toks x).length ≤ 60 ∧ ∀ q ∈ toks x,q.2.length ≤ 60:=fun x hx => by
  obtain ⟨qs,hv⟩:=h.1.words.ok x hx
  exact hv.toks_le (h.2 x hx)
 have h1:=tokD_len (fun x hx => (hw x hx).1)
 have h2:=h.1.words.len
 have h3 : (barW (tokD d.f1)).length ≤ (60 + 1) * (tokD d.f1).length:=barW_len fun y hy => by
  unfold tokD at hy
  obtain ⟨x,hx,hy⟩:=List.mem_flatMap.1 hy
  obtain ⟨q,hq,rfl⟩:=List.mem_map.1 hy
  exact (hw x hx).2 q hq
 have h4 : 60 * d.f1.length ≤ 480:=by omega
 exact ⟨by omega,by omega⟩
theorem Dok.lowr {d : S68} (h : Dok d) : d.f0.map low = d.f0 ∧ ∀ x ∈ d.f0,0 ≤ x ∧ x ≤ 255:=by
 have hp : ∀ x ∈ d.f0,Pb x:=fun x hx => by
  obtain ⟨i,hi,rfl⟩:=List.getElem_of_mem hx
  have:=h.1.name.by_ i hi
  rwa [List.getD_eq_getElem?_getD,List.getElem?_eq_getElem hi] at this
 refine ⟨?_,fun x hx => by have:=hp x hx;unfold Pb at this;omega⟩
 have : ∀ x ∈ d.f0,low x = id x:=fun x hx => by
  have:=hp x hx
  unfold Pb at this
  unfold low
  rw [if_neg (by omega)]
  rfl
 rw [List.map_congr_left this,List.map_id]
def txRest (st : Int) (r : List S68) : List Int:=r.flatMap (fun d => [59] ++ gapL st ++ coreT st d)
theorem sheet_from {bs : List Int} {st : Int} : ∀ (r : List S68) (d : S68) (pre g : List Int),bs = pre ++ g ++ coreT st d ++ txRest st r ++ [0] → (∀ b ∈ g,Ws b) → Dok d → (∀ y ∈ r,Dok y) → Sheet bs pre.length ((d :: r).map dclPc):=by
 intro r
 induction r with
 | nil =>
  intro d pre g hbs hg hd _
  obtain ⟨ws,hn⟩:=name_pop (bs:=bs) (pre:=pre) (g:=g) (suf:=gapL st ++ (wordsL d.f1).drop 1 ++ [0]) hd.1.name (by rw [hbs];simp [coreT,txRest]) hg
  obtain ⟨rest,e1,e2,e3⟩:=colon_strm (bs:=bs) (pre:=pre ++ g ++ d.f0) (st:=st) (t:=0) (suf:=[]) (ws:=d.f1) (by rw [hbs];simp [coreT,txRest]) hd.1.ne hd.1.words.ok (by unfold StpE;omega)
  have el : ((pre ++ g ++ d.f0).length : Int) = (pre.length : Int) + g.length + d.f0.length:=by simp;omega
  rw [el] at e3
  have hb:=hd.bars_le
  have eb:=bars_flat e2 e1
  have hend : PopR bs ((pre.length : Int) + g.length + d.f0.length + 1 + (gapL st).length + ((wordsL d.f1).drop 1).length) 0 ((pre.length : Int) + g.length + d.f0.length + 1 + (gapL st).length + ((wordsL d.f1).drop 1).length) [] false:=by
   refine ⟨by decide,by decide,.inl ⟨rfl,.inr ⟨?_,rfl,rfl,rfl⟩⟩⟩
   rw [hbs]
   simp [coreT,txRest]
   omega
  have hl:=congrArg List.length e1
  rw [List.length_map] at hl
  have hlow:=hd.lowr
  have key:=Sheet.cons hn hlow.2 (cl:=⟨23,[58]⟩) rfl (by omega) (by rw [eb];omega) e3 hend (.inr rfl) (.nil hend)
  rw [hlow.1,eb] at key
  exact key
 | cons d2 r ih =>
  intro d pre g hbs hg hd hr
  obtain ⟨ws,hn⟩:=name_pop (bs:=bs) (pre:=pre) (g:=g) (suf:=gapL st ++ (wordsL d.f1).drop 1 ++ txRest st (d2 :: r) ++ [0]) hd.1.name (by rw [hbs];simp [coreT]) hg
  obtain ⟨rest,e1,e2,e3⟩:=colon_strm (bs:=bs) (pre:=pre ++ g ++ d.f0) (st:=st) (t:=59) (suf:=gapL st ++ coreT st d2 ++ txRest st r ++ [0]) (ws:=d.f1) (by rw [hbs];simp [coreT,txRest]) hd.1.ne hd.1.words.ok (by unfold StpE;omega)
  have el : ((pre ++ g ++ d.f0).length : Int) = (pre.length : Int) + g.length + d.f0.length:=by simp;omega
  rw [el] at e3
  have hb:=hd.bars_le
  have eb:=bars_flat e2 e1
  have ih':=ih d2 (pre ++ g ++ coreT st d ++ [59]) (gapL st) (by rw [hbs];simp [txRest]) (gapL_ws st) (hr d2 (List.mem_cons_self ..)) (fun y hy => hr y (List.mem_cons_of_mem _ hy))
  have eq : (pre.length : Int) + g.length + d.f0.length + 1 + (gapL st).length + ((wordsL d.f1).drop 1).length = (pre ++ g ++ coreT st d).length:=by simp [coreT];omega
  rw [eq] at e3
  have hat : at_ bs (pre ++ g ++ coreT st d).length = 59:=by
   have:=at_next (pre ++ g ++ coreT st d) (gapL st ++ coreT st d2 ++ txRest st r ++ [0]) 59
   rw [hbs]
   simpa [txRest] using this
  have hlt : ((pre ++ g ++ coreT st d).length : Int) < bs.length:=by rw [hbs];simp;omega
  have hsemi : PopR bs (pre ++ g ++ coreT st d).length 24 (((pre ++ g ++ coreT st d).length : Int) + 1) [59] false :=
   ⟨by decide,by decide,.inl ⟨rfl,.inl ⟨.semi hat,by rw [seg1 (by omega) hlt,hat]⟩⟩⟩
  have e59 : ((pre ++ g ++ coreT st d ++ [59]).length : Int) = ((pre ++ g ++ coreT st d).length : Int) + 1:=by rw [List.length_append];rfl
  rw [e59] at ih'
  have hl:=congrArg List.length e1
  rw [List.length_map] at hl
  have hlow:=hd.lowr
  have key:=Sheet.cons hn hlow.2 (cl:=⟨23,[58]⟩) rfl (by omega) (by rw [eb];omega) e3 hsemi (.inl rfl) ih'
  rw [hlow.1,eb] at key
  exact key
theorem txAll_eq {st : Int} {d : S68} {r : List S68} : txAll st (d :: r) = coreT st d ++ txRest st r:=by
 rw [show txAll st (d :: r) = txOne st true d ++ r.flatMap (txOne st false) from rfl]
 unfold txRest
 rw [txOne_t]
 congr 1
 have : txOne st false = fun d => [59] ++ gapL st ++ coreT st d:=funext fun d => txOne_f
 rw [this]
theorem sheet_of {st : Int} {ds : List S68} (h : ∀ d ∈ ds,Dok d) : Sheet (txAll st ds ++ [0]) 0 (ds.map dclPc):=by
 cases ds with
 | nil => exact .nil (q:=0) (xs:=[]) (ws:=false) ⟨by decide,by decide,.inl ⟨rfl,.inr ⟨rfl,rfl,rfl,rfl⟩⟩⟩
 | cons d r =>
  have:=sheet_from (bs:=txAll st (d :: r) ++ [0]) (st:=st) r d [] [] (by rw [txAll_eq];simp) (fun b hb => by cases hb) (h d (List.mem_cons_self ..)) (fun y hy => h y (List.mem_cons_of_mem _ hy))
  exact this
def Gb (b : Int) : Prop:=0 < b ∧ b ≤ 255 ∧ b ≠ 92
theorem word_gb {x : List Int} (hx : ∃ qs,Vw kVal x qs) (ht : Tx x) : ∀ b ∈ x,Gb b:=by
 obtain ⟨qs,hv⟩:=hx
 intro b hb
 obtain ⟨i,hi,rfl⟩:=List.getElem_of_mem hb
 have h1:=ht.byte i
 have h2:=hv.n0 i (by omega) (by omega)
 have h3:=hv.nb i
 unfold at_ at h2 h3
 rw [show ((i : Int)).toNat = i by omega] at h2 h3
 rw [List.getD_eq_getElem?_getD,List.getElem?_eq_getElem hi] at h1 h2 h3
 simp only [Option.getD_some] at h1 h2 h3
 unfold Gb
 omega
theorem core_gb {st : Int} {d : S68} (h : Dok d) : ∀ b ∈ coreT st d,Gb b:=by
 intro b hb
 unfold coreT at hb
 simp only [List.mem_append,or_assoc] at hb
 rcases hb with hb|hb|hb|hb
 ·have:=h.lowr.2 b hb
  obtain ⟨i,hi,rfl⟩:=List.getElem_of_mem hb
  have:=h.1.name.by_ i hi
  rw [List.getD_eq_getElem?_getD,List.getElem?_eq_getElem hi] at this
  simp only [Option.getD_some] at this
  unfold Pb at this
  unfold Gb
  omega
 ·simp at hb;unfold Gb;omega
 ·have:=gapL_ws st b hb
  unfold Ws at this
  unfold Gb
  omega
 ·have:=List.mem_of_mem_drop hb
  unfold wordsL at this
  obtain ⟨x,hx,hb2⟩:=List.mem_flatMap.1 this
  rcases List.mem_cons.1 hb2 with rfl|hb2
  ·unfold Gb;omega
  ·exact word_gb (h.1.words.ok x hx) (h.2 x hx) b hb2
theorem tx_gb {st : Int} {ds : List S68} (h : ∀ d ∈ ds,Dok d) : ∀ b ∈ txAll st ds,Gb b:=by
 cases ds with
 | nil => intro b hb;cases hb
 | cons d r =>
  intro b hb
  rw [txAll_eq] at hb
  rcases List.mem_append.1 hb with hb|hb
  ·exact core_gb (h d (List.mem_cons_self ..)) b hb
  ·unfold txRest at hb
   obtain ⟨y,hy,hb2⟩:=List.mem_flatMap.1 hb
   simp only [List.mem_append,or_assoc] at hb2
   rcases hb2 with hb2|hb2|hb2
   ·simp at hb2;unfold Gb;omega
   ·have:=gapL_ws st b hb2
    unfold Ws at this
    unfold Gb
    omega
   ·exact core_gb (h y (List.mem_cons_of_mem _ hy)) b hb2
theorem good_of {xs : List Int} (h : ∀ b ∈ xs,Gb b) : Good (xs ++ [0]):=by
 refine ⟨fun j hj => ?_,?_,by simp⟩
 ·have hj' : j < xs.length:=by simp at hj;exact hj
  rw [List.getD_eq_getElem?_getD,List.getElem?_append_left hj',List.getElem?_eq_getElem hj']
  exact h _ (List.getElem_mem _)
 ·simp
theorem core_len {st : Int} {d : S68} (h : Dok d) : (coreT st d).length ≤ 600:=by
 have h1:=h.1.name.len
 have h2:=gap_len st
 have h3:=wordsL_le (ws:=d.f1) fun x hx => by
  obtain ⟨qs,hv⟩:=h.1.words.ok x hx
  exact hv.len
 have h4:=h.1.words.len
 unfold coreT
 simp
 omega
theorem tx_len {st : Int} {ds : List S68} (h : ∀ d ∈ ds,Dok d) : (txAll st ds).length ≤ 1000 * ds.length:=by
 cases ds with
 | nil => simp [txAll]
 | cons d r =>
  rw [txAll_eq,List.length_append]
  have h1:=core_len (st:=st) (h d (List.mem_cons_self ..))
  have h2 : ∀ l : List S68,(∀ y ∈ l,Dok y) → (txRest st l).length ≤ 1000 * l.length:=by
   intro l
   induction l with
   | nil => intro _;simp [txRest]
   | cons y l ih =>
    intro hl
    have h3:=ih fun z hz => hl z (List.mem_cons_of_mem _ hz)
    have h4:=core_len (st:=st) (hl y (List.mem_cons_self ..))
    have h5:=gap_len st
    unfold txRest at *
    simp only [List.flatMap_cons,List.length_append,List.length_cons,List.length_nil]
    omega
  have h3:=h2 r fun y hy => h y (List.mem_cons_of_mem _ hy)
  rw [List.length_cons]
  omega
end Go.Proofs.YtlglijnaeaonpaaGreatDoor.Lx
end
section
set_option maxHeartbeats 8000000
set_option maxRecDepth 100000
set_option linter.unusedVariables false
set_option linter.unusedSimpArgs false
namespace Go.Proofs.YtlglijnaeaonpaaGreatDoor.Lx
open Go.RowKit Go.Proofs.YtlglijnaeaonpaaGreatDoorW.PrintWords
theorem PopR.end_ {bs : List Int} {p q : Int} {xs : List Int} {ws : Bool} (h : PopR bs p 0 q xs ws) : q + 1 = bs.length:=by
 have tk : ∀ (p' k : Int),k = 0 → Tok bs p' k q → False:=by
  intro p' k hk h
  cases h with
  | bracket t hh => unfold Bk at hh;omega
  | mat t hh h1 => unfold Mt at hh;omega
  | num q' k e hh hu hf => unfold Unit at hu;omega
  | like k e hh hl hf hm => unfold Like at hl;omega
  | _ => omega
 have key : ∀ p',NextR bs p' 0 q xs → q + 1 = bs.length:=by
  intro p' h
  rcases h with ⟨h,_⟩|⟨h,_,rfl,_⟩
  ·exact (tk _ _ rfl h).elim
  ·exact h
 obtain ⟨_,_,h|h⟩:=h
 ·exact key _ h.2
 ·exact key _ h.2.2
theorem newInputAny {g n B : Nat} {xs : List Int} {w : World} (hb : Blk w g xs) (hl : xs.length = n) (hn : n ≤ 1099511627770) (hB : B ≤ g) :
  Calls Tryz.prog 19 #[.slice (some ⟨g,0,none⟩) n n] w fun e w' => ∃ gi gb cap,e = .returned (.pointer (some ⟨gi,0,none⟩)) ∧ Inp w w' B gi gb cap xs:=by
 rcases Nat.eq_zero_or_pos n with h|h
 ·subst h
  have hx:=List.eq_nil_of_length_eq_zero hl
  subst hx
  exact newInput0 g B w (by have:=blk_lt hb;omega)
 ·exact newInput g n B xs w hb hl hn hB h
def RuI (B : Nat) (w0 : World) (c : Cfg) (gp : Nat) (ps0 : List Pc) (g : Nat) (l : List Value) (wr : World) : Prop :=
 ∃ (p : Int) (ps1 ps2 : List Pc) (v : PV) (ts : List Tk) (ds : List Int) (a7 : Value),g = ps2.length ∧ ps0 = ps1 ++ ps2 ∧ l.getD 6 default = .pointer (some ⟨gp,0,none⟩) ∧ l.getD 7 default = a7 ∧ l.getD 20 default = .int .i64 ((ps1.length : Nat) : Int) ∧ Pcs B wr a7 ps1 ∧ Ps B w0 c gp wr p v ts [38] ds ∧ Vok v ∧ Sheet c.bs p ps2
theorem Pcs.slice_ {B : Nat} {w : World} {v : Value} {ps : List Pc} (h : Pcs B w v ps) : ∃ A c,v = .slice A ps.length c:=by
 obtain ⟨vs,ho,_⟩:=h
 obtain ⟨A,c,e⟩:=own_slice ho
 exact ⟨A,c,e⟩
theorem rules_any {w : World} {A : Option Addr} {n cp eT : Nat} {eA : Addr} {xs : List Int} {ps : List Pc} (hx : ReadsInt w .u8 A n xs) (hn : n ≤ 1000000) (h0 : 0 < w.heap.size) (heof : w.cell? ⟨0,0,none⟩ = some (.iface eT (.pointer (some eA)))) (hg : Good (xs ++ [0])) (hs : Sheet (xs ++ [0]) 0 ps) (hps : ps.length ≤ 1000)
  (heq : ∀ W : World,(binOp .eql 61 (.iface eT (.pointer (some eA))) (.iface eT (.pointer (some eA)))).run Tryz.prog W = .ok (.bool true) W) :
  Calls Tryz.prog 7 #[.slice A n cp,.bool true] w fun e w' => ∃ v,e = .returned (.tuple #[v,.bool true]) ∧ Pcs w.heap.size w' v ps ∧ Below w.heap.size w w':=by
 have hxl : xs.length = n:=hx.1
 have HX:=Aside0.mk hx
 have HE:=Aside0.mk heof
 have HG:=Aside0.mk hg
 have HS:=Aside0.mk hs
 have HL:=Aside0.mk hxl
 clear hx heof hg hs hxl
 go_enter Tryz.func7,Tryz.ntmps7
 go_wp2_with (fail)
 refine (icopy A n cp xs w HX.out (by omega)).mono ?_
 rintro e w1 ⟨g,rfl,hb1,hg1,hbl1⟩
 have HB1:=Aside0.mk (And.intro hb1 (And.intro hg1 hbl1))
 clear hb1 hg1 hbl1
 go_wp2_with (fail)
 refine (newInputAny (B:=w.heap.size) HB1.out.1 HL.out (by omega) HB1.out.2.1).mono ?_
 rintro e w2 ⟨gi,gb,cap,rfl,hinp⟩
 have HI:=Aside0.mk hinp
 clear hinp
 go_wp2_with (fail)
 refine (newParser gi w2).mono ?_
 rintro e w3 ⟨cap2,rfl,hbl3,hg1',hg2',hg3',rfl⟩
 have hP:=ps_start (w0:=w) (B:=w.heap.size) rfl h0 HB1.out.2.2 HI.out hbl3 hg1' hg2' hg3' HE.out HG.out (by rw [List.length_append,HL.out];simp;omega)
 have HP:=Aside0.mk hP
 clear hP hbl3 hg1' hg2' hg3'
 go_wp2_with (fail)
 refine wp_loop_list 64 (fun g l wr => RuI w.heap.size w ⟨w2.heap.size,gi,gb,cap,xs ++ [0],eT,eA⟩ (w2.heap.size + 1 + 1) ps g l wr) ps.length _ (by kernel_rfl)
  ⟨0,[],ps,_,_,_,_,rfl,rfl,rfl,rfl,rfl,?_,HP.out.below (below_alloc (Below.refl _ _) _),⟨rfl,rfl,rfl⟩,HS.out⟩ ?_
 ·refine ⟨[],⟨rfl,.inr ⟨w3.heap.size,0,#[],rfl,HP.out.hB,?_,by simp,by simp [maxLen],by simp,by simp⟩⟩,fun i q hq => by simp at hq⟩
  simpa using heap_alloc_new w3 (.cells #[] 55)
 rintro m l wr hl ⟨p,ps1,ps2,v,ts,ds,a7,hgn,hall,h6,h7,h20,hPc,hPs,hV,hS⟩ J hJ
 show Code.wp Tryz.prog dr _ _ _
 have hcnt : ps1.length + ps2.length ≤ 1000:=by rw [← List.length_append,← hall];exact hps
 cases hS with
 | nil h =>
  refine rulesLast (tt:=0) (R:=fun dv wx => ∃ q xs' v',q + 1 = ((xs ++ [0]).length : Int) ∧ v'.err = ⟨#[]⟩ ∧ Pk w.heap.size w ⟨w2.heap.size,gi,gb,cap,xs ++ [0],eT,eA⟩ (w2.heap.size + 1 + 1) wr wx q v' ts [38] xs') hl h6 h7 h20 (by omega) ((nextEnd hPs h0 hV.1 hV.2.1 h).mono ?_) ?_
  ·rintro e w' ⟨v',rfl,he,hp⟩
   exact ⟨_,rfl,_,_,v',h.end_,he,hp⟩
  ·rintro l' wx dv hl' h6' h7' ⟨q,xs',v',hq,he,hp,hk⟩
   rw [List.append_nil] at hall
   subst hall
   have hPc':=hPc.kt hk
   obtain ⟨A7,c7,rfl⟩:=hPc'.slice_
   have c00 : wx.cell? ⟨0,0,none⟩ = some (.iface eT (.pointer (some eA))):=hp.lx.eof
   obtain ⟨f,hf,rfl⟩:=lit64 l' hl'
   rw [hf] at h6' h7'
   rw [h6',h7']
   have HQ:=Aside0.mk (And.intro hq (And.intro he (And.intro hp hPc')))
   clear hf hl' h6' h7' hq he hp hPc' hk hl h6 h7 h20 hPc hPs hV hJ h
   simp only [Exit.inBlock,Exit.then]
   go_wp2_with (fail)
   have HPE : Aside0 (∀ W : World,W = wx.drew → Calls Tryz.prog 24 #[.pointer (some ⟨w2.heap.size + 1 + 1,0,none⟩)] W fun e w' => e = .returned (.iface eT (.pointer (some eA))) ∧ Pk w.heap.size w ⟨w2.heap.size,gi,gb,cap,xs ++ [0],eT,eA⟩ (w2.heap.size + 1 + 1) wx.drew w' q v' ts [38] xs') :=
    ⟨fun W hW => hW ▸ (pErr HQ.out.2.2.1.drew HQ.out.2.1 HQ.out.1).mono fun e w' h => h⟩
   go_region_held3 (fun w' => w'.cell? ⟨0,0,none⟩ = some (.iface eT (.pointer (some eA)))) (first|exact c00|exact z00|go_keep)
    (first
     | (go_at_call 24;(with_reducible refine (HPE.out _ rfl).mono ?_);rintro e w5 ⟨rfl,hp5,hk5⟩;have z00 : w5.cell? ⟨0,0,none⟩ = some (.iface eT (.pointer (some eA))):=hp5.lx.eof;have HP5:=Aside0.mk (And.intro hp5 hk5);clear hp5 hk5))
   go_wp2_with (fail)
   go_ret2
   exact ⟨_,rfl,(show Pcs w.heap.size wx.drew (.slice A7 ps.length c7) ps from HQ.out.2.2.2).kt HP5.out.2,HP5.out.1.kt.to_below⟩
 | @cons _ q1 q q2 k2 xs1 xs2 ws ws2 cl b rest tail h1 hx1 hcl hal hb hs' h2 hk2 ht =>
  rw [List.length_cons] at hcnt hgn
  refine rulesRound (i:=ps1.length) (V:=Vok) (N0:=nonws (flat rest)) (q:=q2) (xs:=xs1.map low) rfl h0 hl h6 h7 h20 (by omega) hPc (by omega) (sheet_round hPs h0 hV h1 hal hcl hx1 hb hs' h2 hk2) ?_
  intro l' wx a7' v' ts' hl' h6' h7' h20' hn' hV' hP' hPc'
  rw [bars_nonws hn'] at hPc'
  refine hJ tail.length l' wx (by omega) hl' ⟨q2,ps1 ++ [⟨declB,xs1.map low,bars (flat rest)⟩],tail,v',ts',_,a7',rfl,by rw [hall];simp,h6',h7',?_,hPc',hP',hV',ht⟩
  rw [h20',List.length_append]
  rfl
end Go.Proofs.YtlglijnaeaonpaaGreatDoor.Lx
end
