/- FnStyle: a part of the proof (Mk). -/
import Derived.Test.YtlglijnaeaonpaaGreatDoorMj
import Derived.WalkKit
import Derived.WalkSpells
import Derived.WalkLawsBesides
import Derived.KernelRfl
import Derived.Deep.QuietTactic
import Derived.BigQuiet
import Derived.Lib.SlBytesConst
import Derived.Lib.SmallJoins
import Derived.Deep.LoopGhost
import Derived.Deep.DeepCutAuto
section
set_option maxHeartbeats 8000000
set_option maxRecDepth 100000
set_option linter.unusedVariables false
set_option linter.unusedSimpArgs false
namespace Go.Proofs.YtlglijnaeaonpaaGreatDoor.Lx
open Go.RowKit Go.Proofs.YtlglijnaeaonpaaGreatDoorW.PrintWords Go.Proofs.YtlglijnaeaonpaaGreatDoor.PFnStyle
structure Rs (w0 ws : World) (g : Nat) (xs : List Int) (w : World) (i : Int) (o : Bool) : Prop where
 is : IsS115 w0 w g xs i o
 be : Below w0.heap.size w0 w
 ke : KeepBut ws w g none
section
variable {w0 ws w w' : World} {g : Nat} {xs : List Int} {i i' n : Int} {o o' : Bool}
theorem Rs.next (h : Rs w0 ws g xs w i o) (hi : IsS115 w0 w' g xs i' o') (hb : Below w0.heap.size w0 w') (hk : KeepBut w w' g none) : Rs w0 ws g xs w' i' o':=⟨hi,hb,h.ke.trans hk (.inl rfl)⟩
theorem Rs.drewN (h : Rs w0 ws g xs w i o) (n : Nat) : Rs w0 ws g xs (w.drewN n) i o:=⟨h.is.drewN n,pw_below_drewN h.be n,keep_drewN h.ke n⟩
theorem rs_peek (h : Rs w0 ws g xs w i o) (hx : Tx xs) (h0 : 0 ≤ i + n) (h1 : i + n ≤ 4611686018427387904) :
  Calls Tryz.prog 104 #[.pointer (some ⟨g,0,none⟩),.int .i64 n] w fun e w' => e = .returned (.int .u8 (at_ xs (i + n))) ∧ Rs w0 ws g xs w' i o :=
 (spec_reader_peek.calls g xs i o n _ _ _ w0 w h.is h.be (peek_f hx h0 h1)).mono fun e w' ⟨he,hi,hb,hk⟩ => ⟨he,h.next hi hb hk⟩
theorem rs_peek0 (h : Rs w0 ws g xs w i o) (hx : Tx xs) (h0 : 0 ≤ i) (h1 : i ≤ xs.length) :
  Calls Tryz.prog 104 #[.pointer (some ⟨g,0,none⟩),.int .i64 0] w fun e w' => e = .returned (.int .u8 (at_ xs i)) ∧ Rs w0 ws g xs w' i o :=
 (spec_reader_peek.calls g xs i o 0 _ _ _ w0 w h.is h.be (peek0_f hx h0 h1)).mono fun e w' ⟨he,hi,hb,hk⟩ => ⟨he,h.next hi hb hk⟩
theorem rs_over (h : Rs w0 ws g xs w i o) :
  Calls Tryz.prog 67 #[.pointer (some ⟨g,0,none⟩)] w fun e w' => e = .returned (.bool (decide (i ≥ (xs.length : Int)))) ∧ Rs w0 ws g xs w' i o :=
 (spec_reader_over.calls g xs i o _ _ _ w0 w h.is h.be over_f).mono fun e w' ⟨he,hi,hb,hk⟩ => ⟨he,h.next hi hb hk⟩
theorem rs_blanks (h : Rs w0 ws g xs w i o) (hx : Tx xs) (h0 : 0 ≤ i) (h1 : i ≤ xs.length) :
  Calls Tryz.prog 106 #[.pointer (some ⟨g,0,none⟩)] w fun e w' => e = .returned (.tuple #[]) ∧ Rs w0 ws g xs w' (run Ws xs i) o :=
 (spec_reader_blanks.calls (xs.length + 1) g xs i o _ _ w0 w h.is h.be (blanks_f hx h0 h1 (Nat.le_refl _))).mono fun e w' ⟨he,hi,hb,hk⟩ => ⟨he,h.next hi hb hk⟩
structure TkF (f : FuncId) (ar : List Value) (xs : List Int) (i : Int) (o : Bool) (P : ByteArray → Int → Bool → Prop) (r : ByteArray × Int × Bool) : Prop where
 ge : i ≤ r.2.1
 le : r.2.1 ≤ xs.length
 op : o = true → r.2.2 = true
 sz : r.1.size ≤ 16
 pr : P r.1 r.2.1 r.2.2
 run : ∀ (w0 ws w : World) (g : Nat),Rs w0 ws g xs w i o → Calls Tryz.prog f (.pointer (some ⟨g,0,none⟩) :: ar).toArray w fun e w' => e = .returned (.string r.1) ∧ Rs w0 ws g xs w' r.2.1 r.2.2
theorem rs_quoted (o : Bool) (hx : Tx xs) (h0 : 0 ≤ i) (h1 : i < xs.length) : ∃ r,TkF 107 [] xs i o (fun kind i' o' => i < i' ∧ (Nb xs → N0 xs → o' = false → kind = kStr ∧ ∃ r,i' = r + 1 ∧ i + 1 ≤ r ∧ r < xs.length ∧ at_ xs r = at_ xs i ∧ ∀ m,i + 1 ≤ m → m < r → Sc (at_ xs i) (at_ xs m))) r:=by
 obtain ⟨kind,i',o',a1,a2,a3,a4,a5⟩:=quoted_f (o:=o) hx h0 h1
 exact ⟨(kind,i',o'),by show i ≤ i';omega,a3,a4,quoted_szf _ _ _ _ _ (a1 _ (Nat.le_refl _)),⟨a2,a5⟩,fun w0 ws w g h => (spec_reader_quoted.calls _ g xs i o _ _ _ w0 w h.is h.be (a1 _ (Nat.le_refl _))).mono fun e w' ⟨he,hi,hb,hk⟩ => ⟨he,h.next hi hb hk⟩⟩
theorem rs_comment (o : Bool) (hx : Tx xs) (h0 : 0 ≤ i) (h1 : i + 2 ≤ xs.length) : ∃ r,TkF 108 [] xs i o (fun kind i' o' => i < i' ∧ kind = kCom) r:=by
 obtain ⟨i',o',a1,a2,a3,a4⟩:=comment_f (o:=o) hx h0 h1
 exact ⟨(kCom,i',o'),by show i ≤ i';omega,a3,a4,(by decide : kCom.size ≤ 16),⟨a2,rfl⟩,fun w0 ws w g h => (spec_reader_comment.calls _ g xs i o _ _ _ w0 w h.is h.be (a1 _ (Nat.le_refl _))).mono fun e w' ⟨he,hi,hb,hk⟩ => ⟨he,h.next hi hb hk⟩⟩
theorem rs_codes (o : Bool) (hx : Tx xs) (h0 : 0 ≤ i) (h1 : i + 2 ≤ xs.length) : ∃ r,TkF 112 [] xs i o (fun kind i' o' => i < i' ∧ kind = kRan) r:=by
 obtain ⟨i',o',a1,a2,a3,a4⟩:=codes_f (o:=o) hx h0 h1
 exact ⟨(kRan,i',o'),by show i ≤ i';omega,a3,a4,(by decide : kRan.size ≤ 16),⟨a2,rfl⟩,fun w0 ws w g h => (spec_reader_codes.calls _ g xs i o _ _ _ w0 w h.is h.be (a1 _ (Nat.le_refl _))).mono fun e w' ⟨he,hi,hb,hk⟩ => ⟨he,h.next hi hb hk⟩⟩
theorem rs_numeric (o : Bool) (hx : Tx xs) (h0 : 0 ≤ i) (h1 : i ≤ xs.length) : ∃ r,TkF 110 [] xs i o (fun kind i' o' => (NumAt xs i → i < i') ∧ (Nb xs → NumAt xs i → o' = false → ∃ q,Num xs i q ∧ UnitS xs q kind i')) r:=by
 obtain ⟨kind,i',o',a1,a2,a3,a4,a5,a6⟩:=numeric_f (o:=o) hx h0 h1
 exact ⟨(kind,i',o'),a2,a3,a4,numeric_szf _ _ _ _ _ (a1 _ (Nat.le_refl _)),⟨a5,a6⟩,fun w0 ws w g h => (spec_reader_numeric.calls _ g xs i o _ _ _ w0 w h.is h.be (a1 _ (Nat.le_refl _))).mono fun e w' ⟨he,hi,hb,hk⟩ => ⟨he,h.next hi hb hk⟩⟩
theorem rs_address (o : Bool) (hx : Tx xs) (h0 : 0 ≤ i) (h1 : i ≤ xs.length) : ∃ r,TkF 141 [] xs i o (fun kind i' o' => (Nb xs → o' = false → kind = kUrl ∧ Urla (xs ++ [0]) i i')) r:=by
 obtain ⟨kind,i',o',a1,a2,a3,a4,a5⟩:=address_f (o:=o) hx h0 h1
 exact ⟨(kind,i',o'),a2,a3,a4,address_szf _ _ _ _ _ (a1 _ (Nat.le_refl _)),a5,fun w0 ws w g h => (spec_reader_address.calls _ g xs i o _ _ _ w0 w h.is h.be (a1 _ (Nat.le_refl _))).mono fun e w' ⟨he,hi,hb,hk⟩ => ⟨he,h.next hi hb hk⟩⟩
theorem rs_sign (o : Bool) (hx : Tx xs) (h0 : 0 ≤ i) (h1 : i < xs.length) : ∃ r,TkF 115 [.int .u8 (at_ xs i),.int .u8 (at_ xs (i + 1))] xs i o (fun kind i' o' => i < i' ∧ (Nb xs → ¬ NumAt xs i → o' = false → TokR xs i kind i')) r:=by
 obtain ⟨kind,i',o',a1,a2,a3,a4,a5⟩:=sign_f (o:=o) hx h0 h1
 exact ⟨(kind,i',o'),by show i ≤ i';omega,a3,a4,sign_szf _ _ _ _ _ _ _ (a1 _ (Nat.le_refl _)),⟨a2,a5⟩,fun w0 ws w g h => (spec_reader_sign.calls _ g xs i o _ _ _ _ _ w0 w h.is h.be (a1 _ (Nat.le_refl _))).mono fun e w' ⟨he,hi,hb,hk⟩ => ⟨he,h.next hi hb hk⟩⟩
theorem rs_numbers (b : Bool) (h : Rs w0 ws g xs w i o) (hx : Tx xs) (h0 : 0 ≤ i) (h1 : i ≤ xs.length) (hb : b = true ↔ NumAt xs i) :
  Calls Tryz.prog 109 #[.pointer (some ⟨g,0,none⟩)] w fun e w' => e = .returned (.bool b) ∧ Rs w0 ws g xs w' i o:=by
 obtain ⟨b',a1,a2⟩:=numbers_f (o:=o) hx h0 h1
 have : b = b':=by rw [Bool.eq_iff_iff,hb,a2]
 subst this
 exact (spec_reader_numbers.calls _ g xs i o _ _ _ w0 w h.is h.be (a1 _ (Nat.le_refl _))).mono fun e w' ⟨he,hi,hb,hk⟩ => ⟨he,h.next hi hb hk⟩
theorem rs_identifies {k : Nat} {b : Bool} (hf : spec_reader_identifies.f k xs i o n = some (b,i,o')) (h : Rs w0 ws g xs w i o) :
  Calls Tryz.prog 113 #[.pointer (some ⟨g,0,none⟩),.int .i64 n] w fun e w' => e = .returned (.bool b) ∧ Rs w0 ws g xs w' i o' :=
 (spec_reader_identifies.calls _ g xs i o n _ _ _ w0 w h.is h.be hf).mono fun e w' ⟨he,hi,hb,hk⟩ => ⟨he,h.next hi hb hk⟩
theorem rs_name {k : Nat} (hf : spec_reader_name.f k xs i o = some (i',o')) (h : Rs w0 ws g xs w i o) :
  Calls Tryz.prog 139 #[.pointer (some ⟨g,0,none⟩)] w fun e w' => e = .returned (.tuple #[]) ∧ Rs w0 ws g xs w' i' o' :=
 (spec_reader_name.calls _ g xs i o _ _ w0 w h.is h.be hf).mono fun e w' ⟨he,hi,hb,hk⟩ => ⟨he,h.next hi hb hk⟩
theorem rs_blank (b : Bool) {c : Int} (hb : b = true ↔ Ws c) (h : Rs w0 ws g xs w i o) :
  Calls Tryz.prog 105 #[.int .u8 c] w fun e w' => e = .returned (.bool b) ∧ Rs w0 ws g xs w' i o :=
 (spec_IsBlank.calls c b w (by rw [isBlank_f];congr 1;rw [Bool.eq_iff_iff,hb];simp)).mono fun e w' ⟨he,n,hn⟩ => ⟨he,hn ▸ h.drewN n⟩
theorem rs_hex (v : Int) {c : Int} (hv : ∀ k,1 ≤ k → spec_hexValue.f k c = some v) (h : Rs w0 ws g xs w i o) :
  Calls Tryz.prog 111 #[.int .u8 c] w fun e w' => e = .returned (.int .i64 v) ∧ Rs w0 ws g xs w' i o :=
 (spec_hexValue.calls 1 c v w (hv 1 (Nat.le_refl _))).mono fun e w' ⟨he,n,hn⟩ => ⟨he,hn ▸ h.drewN n⟩
end
section
variable {w0 ws w w' : World} {g : Nat} {xs : List Int} {i i' n : Int} {o o' : Bool}
theorem Rs.alloc (h : Rs w0 ws g xs w i o) (ob : Obj) : Rs w0 ws g xs (w.alloc ob) i o:=⟨h.is.alloc ob,below_alloc h.be ob,keep_alloc h.ke ob⟩
theorem Rs.set1 (h : Rs w0 ws g xs w i o) (x : Int) : Rs w0 ws g xs (w.setCell ⟨g,1,none⟩ (.int .i64 x)) x o:=⟨h.is.set_1 x,below_set h.be h.is.ge,h.ke.set_ 1 _⟩
theorem Rs.set2 (h : Rs w0 ws g xs w i o) (x : Bool) : Rs w0 ws g xs (w.setCell ⟨g,2,none⟩ (.bool x)) i x:=⟨h.is.set_2 x,below_set h.be h.is.ge,h.ke.set_ 2 _⟩
structure RsC (w0 w : World) (g : Nat) (xs : List Int) (i : Int) (o : Bool) (A : Option Addr) (c : Nat) : Prop where
 c0 : w.cell? ⟨g,0,none⟩ = some (.slice A xs.length c)
 c1 : w.cell? ⟨g,1,none⟩ = some (.int .i64 i)
 c2 : w.cell? ⟨g,2,none⟩ = some (.bool o)
 f1 : w.frozen? ⟨g,1,none⟩ = false
 f2 : w.frozen? ⟨g,2,none⟩ = false
 cap : xs.length ≤ c
 rd : Kd.C (Kd.int .u8) w0 A xs.length xs
theorem Rs.cells (h : Rs w0 ws g xs w i o) : ∃ A c,RsC w0 w g xs i o A c:=by
 obtain ⟨A,c,hh,hg,hr⟩:=h.is
 exact ⟨A,c,cellS115_0 hh,cellS115_1 hh,cellS115_2 hh,blk_frozen hh 1,blk_frozen hh 2,hr.1,hr.2⟩
def mid (xs : List Int) (lo hi : Int) : List Int:=(xs.take hi.toNat).drop lo.toNat
theorem mid_length {lo hi : Int} (h0 : 0 ≤ lo) (h1 : lo ≤ hi) (h2 : hi ≤ xs.length) : (mid xs lo hi).length = (hi - lo).toNat:=by unfold mid;simp;omega
theorem mid_seg {lo hi : Int} (h0 : 0 ≤ lo) (h1 : lo ≤ hi) (h2 : hi ≤ xs.length) : mid xs lo hi = seg (xs ++ [0]) lo hi:=by
 unfold mid seg
 rw [List.drop_take,show hi.toNat - lo.toNat = (hi - lo).toNat by omega,List.drop_append_of_le_length (by omega),List.take_append_of_le_length (by simp;omega)]
theorem mid_getD (xs : List Int) (lo hi : Int) (j : Nat) : (mid xs lo hi).getD j 0 = xs.getD (lo.toNat + j) 0 ∨ (mid xs lo hi).getD j 0 = 0:=by
 unfold mid
 rw [List.getD_eq_getElem?_getD,List.getElem?_drop,List.getElem?_take]
 split
 ·exact .inl (by rw [List.getD_eq_getElem?_getD])
 ·exact .inr rfl
theorem cut_own {A : Option Addr} {c : Nat} {lo hi : Int} (hC : Kd.C (Kd.int .u8) w A xs.length xs) (hc : xs.length ≤ c) (h0 : 0 ≤ lo) (h1 : lo ≤ hi) (h2 : hi ≤ xs.length) :
  ∃ A1 c1,(∀ W : World,(Instr.slice 24 (.slice A xs.length c) (some (.int .i64 lo)) (some (.int .i64 hi)) none).run Tryz.prog W = .ok (.slice A1 (mid xs lo hi).length c1) W) ∧ (mid xs lo hi).length ≤ c1 ∧ Kd.C (Kd.int .u8) w A1 (mid xs lo hi).length (mid xs lo hi):=by
 obtain ⟨i0,hi0,hzz⟩:=Option.map_eq_some_iff.1 info5
 simp only [Prod.mk.injEq] at hzz
 have hm:=mid_length (xs:=xs) h0 h1 h2
 refine ⟨_,c - lo.toNat,fun W => ?_,?_,Kd.C_mid (c:=c) (lo:=lo.toNat) (hi:=hi.toNat) hC (by omega) (by omega) hc⟩
 ·rw [cut_mid 24 5 .i64 .i64 Tryz.underlying24 hi0 1 hzz.2.1 A xs.length c lo hi h0 h1 h2 hc W,hm,show hi.toNat - lo.toNat = (hi - lo).toNat by omega]
  rfl
 ·omega
theorem eq_url {gb : Nat} {A1 : Option Addr} {c1 : Nat} {ys : List Int} {k : Nat} {b : Bool} {W : World} (hgb : gb = W.heap.size) (hC : Kd.C (Kd.int .u8) W A1 ys.length ys) (hc : ys.length ≤ c1) (hf : spec_EqualFold.f k ys [117,114,108] = some b) :
  Calls Tryz.prog 140 #[.slice A1 ys.length c1,.slice (some ⟨gb,0,none⟩) 3 3] (W.alloc (.cells #[.int .u8 117,.int .u8 114,.int .u8 108] 5 (3,4))) fun e w' => e = .returned (.bool b) ∧ Drawn0 (W.alloc (.cells #[.int .u8 117,.int .u8 114,.int .u8 108] 5 (3,4))) w':=by
 subst hgb
 refine spec_EqualFold.calls k A1 c1 ys _ 3 [117,114,108] b _ (Kd.C_alloc hC _) hc ?_ (Nat.le_refl _) hf
 refine ⟨rfl,by decide,fun _ => ⟨_,rfl,fun j p hj => ⟨[.int .u8 p],rfl,rfl,fun i u hi => ?_⟩⟩⟩
 obtain rfl : i = 0:=by
  cases i with
  | zero => rfl
  | succ i => simp at hi
 simp only [List.getElem?_cons_zero,Option.some.injEq] at hi
 subst hi
 rw [show (Kd.int .u8).sz = 1 from rfl,add_plain,Nat.mul_one,Nat.add_zero]
 unfold World.cell?
 rw [heap_alloc_new W _]
 show (_ : Array Value)[j]? = _
 have hlt : j < 3:=(List.getElem?_eq_some_iff.1 hj).1
 rcases j with _|_|_|j
 all_goals first|(simp at hj;subst hj;rfl)|omega
theorem rs_eq_url {gb : Nat} {A1 : Option Addr} {c1 : Nat} {ys : List Int} {k : Nat} {b : Bool} (h : Rs w0 ws g xs w i o) (hgb : gb = w.heap.size) (hC : Kd.C (Kd.int .u8) w0 A1 ys.length ys) (hc : ys.length ≤ c1) (hf : spec_EqualFold.f k ys [117,114,108] = some b) :
  Calls Tryz.prog 140 #[.slice A1 ys.length c1,.slice (some ⟨gb,0,none⟩) 3 3] (w.alloc (.cells #[.int .u8 117,.int .u8 114,.int .u8 108] 5 (3,4))) fun e w' => e = .returned (.bool b) ∧ Rs w0 ws g xs w' i o :=
 (eq_url hgb (Kd.C_below hC h.be) hc hf).mono fun e w' ⟨he,n,hn⟩ => ⟨he,hn ▸ (h.alloc _).drewN n⟩
theorem rs_has {A1 : Option Addr} {c1 : Nat} {ys : List Int} {k : Nat} {c : Int} {b : Bool} (h : Rs w0 ws g xs w i o) (hC : Kd.C (Kd.int .u8) w0 A1 ys.length ys) (hc : ys.length ≤ c1) (hf : spec_Has.f k ys c = some b) :
  Calls Tryz.prog 53 #[.slice A1 ys.length c1,.int .u8 c] w fun e w' => e = .returned (.bool b) ∧ Rs w0 ws g xs w' i o :=
 (spec_Has.calls _ _ _ _ c b _ (Kd.C_below hC h.be) hc hf).mono fun e w' ⟨he,n,hn⟩ => ⟨he,hn ▸ h.drewN n⟩
def LikeP (xs : List Int) (i : Int) (kind : ByteArray) (i' : Int) (o' : Bool) : Prop:=i < i' ∧ (Nb xs → o' = false → (kind = kIdent ∧ Like (xs ++ [0]) i 1 i') ∨ (kind = kFn ∧ Like (xs ++ [0]) i 2 i') ∨ (kind = kUrl ∧ Like (xs ++ [0]) i 7 i'))
theorem rs_identLike (o : Bool) (hx : Tx xs) (h0 : 0 ≤ i) (h1 : i ≤ xs.length) {k : Nat} {i1 : Int} {o1 : Bool} (hf : spec_reader_name.f k xs i o = some (i1,o1)) (hi1 : i < i1) (hi2 : i1 ≤ xs.length) (ho1 : o = true → o1 = true) (hn : Nb xs → i1 = run Nm xs i ∧ o1 = o) :
  ∃ r,TkF 114 [] xs i o (LikeP xs i) r:=by
 have hl:=hx.len
 have hrun : Nb xs → run Nm (xs ++ [0]) i = i1:=fun h => by rw [run_snoc (by decide) h0 h1,(hn h).1]
 have HF:=Aside0.mk hf
 have HN:=Aside0.mk (And.intro hn (And.intro hrun ho1))
 have HX:=Aside0.mk hx
 clear hf hn hrun ho1
 by_cases h40 : at_ xs i1 = 40
 ·have hi3 : i1 + 1 ≤ xs.length:=at_in (by omega) (by omega)
  have e40 : (at_ xs i1 != 40) = false:=by simp [h40]
  obtain ⟨bu,hbu1,hbu2⟩:=isUrl_f (mid xs i i1) (fun j => by rcases mid_getD xs i i1 j with h|h <;> rw [h];exact hx.byte _;omega) (by rw [mid_length h0 (by omega) hi2];omega)
  obtain ⟨bh,hbh1,hbh2⟩:=Has_f (mid xs i i1) 92 (by rw [mid_length h0 (by omega) hi2];omega)
  have HBU:=Aside0.mk (And.intro hbu1 hbu2)
  have HBH:=Aside0.mk (And.intro hbh1 hbh2)
  have H40:=Aside0.mk h40
  clear hbu1 hbu2 hbh1 hbh2 h40
  cases bu with
  | true =>
   obtain ⟨r,hr⟩:=rs_address o1 hx (i:=i1 + 1) (by omega) hi3
   have HA:=Aside0.mk hr
   refine ⟨r,by have:=hr.ge;omega,hr.le,fun h => hr.op (HN.out.2.2 h),hr.sz,⟨by have:=hr.ge;omega,fun hn ho' => .inr (.inr ?_)⟩,fun w0 ws w g h => ?_⟩
   ·obtain ⟨e1,e2⟩:=hr.pr hn ho'
    have e3:=HN.out.2.1 hn
    have hu:=HBU.out.2.1 (by simp)
    rw [mid_seg h0 (by omega) hi2] at hu
    refine ⟨e1,.inr (.inr ⟨by rw [e3,at_snoc];exact H40.out,by rw [e3];exact hu,by rw [e3];exact e2,by have:=hr.ge;omega,?_,rfl⟩)⟩
    have hl2 : (1 : Int) ≤ i1 - i:=by have:=hu.1;rw [seg_length h0 (by omega) (by simp;omega)] at this;omega
    have hu0:=hu.2.1
    rw [seg_at h0 0 (by omega)] at hu0
    rw [show i + ((0 : Nat) : Int) = i by omega] at hu0
    unfold Fa at hu0
    intro h
    rw [h] at hu0
    omega
   ·obtain ⟨A0,c0,hc⟩:=h.cells
    have c1:=hc.c1
    have HH:=Aside0.mk h
    clear h hc hr
    go_enter Tryz.func114,Tryz.ntmps114
    go_wp2_with (first
     | (go_at_call 139;(with_reducible refine (rs_name HF.out HH.out).mono ?_);rintro e w1 ⟨rfl,hR1⟩;have HR1:=Aside0.mk hR1;clear hR1)
     | (go_at_call 104;(with_reducible refine (rs_peek0 HR1.out HX.out (by omega) (by omega)).mono ?_);rintro e w2 ⟨rfl,hR2⟩;obtain ⟨Ab,cb,hcb⟩:=hR2.cells;have HR2:=Aside0.mk hR2;clear hR2))
    obtain ⟨A1,cc1,hcut,hcc,hC⟩:=cut_own (lo:=i) (hi:=i1) hcb.rd hcb.cap h0 (by omega) hi2
    have b0:=hcb.c0
    have b1:=hcb.c1
    have bf:=hcb.f1
    have HC:=Aside0.mk (And.intro hcc hC)
    clear hcc hC hcb c1
    go_quiet (fail)
    rename_i nq
    have HR3:=Aside0.mk ((HR2.out.drewN nq).set1 (i1 + 1))
    have kc:=fun (C : Array Value) (n c : Nat) => Go.Joins.run_convert_bytes_const_at (P:=Tryz.prog) ((w2.drewN nq).setCell ⟨g,1,none⟩ (.int .i64 (i1 + 1))) 24 5 C n c w2.heap.size (by simp) Tryz.underlying24 Tryz.underlying5
    clear hcut
    go_wp2_with (first
     | (go_at_call 140;(with_reducible refine (rs_eq_url HR3.out (by simp) HC.out.2 HC.out.1 (HBU.out.1 _ (Nat.le_refl _))).mono ?_);rintro e w3 ⟨rfl,hR4⟩;have HR4:=Aside0.mk hR4;clear hR4)
     | (go_at_call 141;(with_reducible refine (HA.out.run _ _ _ _ HR4.out).mono ?_);rintro e w4 ⟨rfl,hR5⟩;have HR5:=Aside0.mk hR5;clear hR5))
    go_ret
    exact ⟨rfl,HR5.out⟩
  | false =>
   have hlike : Nb xs → (kFn = kIdent ∧ Like (xs ++ [0]) i 1 (i1 + 1)) ∨ (kFn = kFn ∧ Like (xs ++ [0]) i 2 (i1 + 1)) ∨ (kFn = kUrl ∧ Like (xs ++ [0]) i 7 (i1 + 1)):=by
    intro hn
    have e3:=HN.out.2.1 hn
    refine .inr (.inl ⟨rfl,.inr (.inl ⟨by rw [e3,at_snoc];exact H40.out,?_,rfl,by rw [e3]⟩)⟩)
    rw [e3,← mid_seg h0 (by omega) hi2]
    intro hu
    have:=HBU.out.2.2 hu
    cases this
   cases bh with
   | true =>
    refine ⟨(kFn,i1 + 1,true),by show i ≤ i1 + 1;omega,hi3,fun _ => rfl,(by decide : kFn.size ≤ 16),⟨by show i < i1 + 1;omega,fun hn ho' => by cases ho'⟩,fun w0 ws w g h => ?_⟩
    obtain ⟨A0,c0,hc⟩:=h.cells
    have c1:=hc.c1
    have HH:=Aside0.mk h
    clear h hc hlike
    go_enter Tryz.func114,Tryz.ntmps114
    go_wp2_with (first
     | (go_at_call 139;(with_reducible refine (rs_name HF.out HH.out).mono ?_);rintro e w1 ⟨rfl,hR1⟩;have HR1:=Aside0.mk hR1;clear hR1)
     | (go_at_call 104;(with_reducible refine (rs_peek0 HR1.out HX.out (by omega) (by omega)).mono ?_);rintro e w2 ⟨rfl,hR2⟩;obtain ⟨Ab,cb,hcb⟩:=hR2.cells;have HR2:=Aside0.mk hR2;clear hR2))
    obtain ⟨A1,cc1,hcut,hcc,hC⟩:=cut_own (lo:=i) (hi:=i1) hcb.rd hcb.cap h0 (by omega) hi2
    have b0:=hcb.c0
    have b1:=hcb.c1
    have bf:=hcb.f1
    have HC:=Aside0.mk (And.intro hcc hC)
    clear hcc hC hcb c1
    go_quiet (fail)
    rename_i nq
    have HR3:=Aside0.mk ((HR2.out.drewN nq).set1 (i1 + 1))
    have kc:=fun (C : Array Value) (n c : Nat) => Go.Joins.run_convert_bytes_const_at (P:=Tryz.prog) ((w2.drewN nq).setCell ⟨g,1,none⟩ (.int .i64 (i1 + 1))) 24 5 C n c w2.heap.size (by simp) Tryz.underlying24 Tryz.underlying5
    clear hcut
    go_wp2_with (first
     | (go_at_call 140;(with_reducible refine (rs_eq_url HR3.out (by simp) HC.out.2 HC.out.1 (HBU.out.1 _ (Nat.le_refl _))).mono ?_);rintro e w3 ⟨rfl,hR4⟩;have HR4:=Aside0.mk hR4;clear hR4)
     | (go_at_call 53;(with_reducible refine (rs_has HR4.out HC.out.2 HC.out.1 (HBH.out.1 _ (Nat.le_refl _))).mono ?_);rintro e w5 ⟨rfl,hR5⟩;obtain ⟨A5,c5,hc5⟩:=hR5.cells;have g2:=hc5.c2;have gf:=hc5.f2;clear hc5;have HR5:=Aside0.mk (hR5.set2 true);clear hR5))
    go_ret
    exact ⟨rfl,HR5.out⟩
   | false =>
    refine ⟨(kFn,i1 + 1,o1),by show i ≤ i1 + 1;omega,hi3,HN.out.2.2,(by decide : kFn.size ≤ 16),⟨by show i < i1 + 1;omega,fun hn ho' => hlike hn⟩,fun w0 ws w g h => ?_⟩
    obtain ⟨A0,c0,hc⟩:=h.cells
    have c1:=hc.c1
    have HH:=Aside0.mk h
    clear h hc hlike
    go_enter Tryz.func114,Tryz.ntmps114
    go_wp2_with (first
     | (go_at_call 139;(with_reducible refine (rs_name HF.out HH.out).mono ?_);rintro e w1 ⟨rfl,hR1⟩;have HR1:=Aside0.mk hR1;clear hR1)
     | (go_at_call 104;(with_reducible refine (rs_peek0 HR1.out HX.out (by omega) (by omega)).mono ?_);rintro e w2 ⟨rfl,hR2⟩;obtain ⟨Ab,cb,hcb⟩:=hR2.cells;have HR2:=Aside0.mk hR2;clear hR2))
    obtain ⟨A1,cc1,hcut,hcc,hC⟩:=cut_own (lo:=i) (hi:=i1) hcb.rd hcb.cap h0 (by omega) hi2
    have b0:=hcb.c0
    have b1:=hcb.c1
    have bf:=hcb.f1
    have HC:=Aside0.mk (And.intro hcc hC)
    clear hcc hC hcb c1
    go_quiet (fail)
    rename_i nq
    have HR3:=Aside0.mk ((HR2.out.drewN nq).set1 (i1 + 1))
    have kc:=fun (C : Array Value) (n c : Nat) => Go.Joins.run_convert_bytes_const_at (P:=Tryz.prog) ((w2.drewN nq).setCell ⟨g,1,none⟩ (.int .i64 (i1 + 1))) 24 5 C n c w2.heap.size (by simp) Tryz.underlying24 Tryz.underlying5
    clear hcut
    go_wp2_with (first
     | (go_at_call 140;(with_reducible refine (rs_eq_url HR3.out (by simp) HC.out.2 HC.out.1 (HBU.out.1 _ (Nat.le_refl _))).mono ?_);rintro e w3 ⟨rfl,hR4⟩;have HR4:=Aside0.mk hR4;clear hR4)
     | (go_at_call 53;(with_reducible refine (rs_has HR4.out HC.out.2 HC.out.1 (HBH.out.1 _ (Nat.le_refl _))).mono ?_);rintro e w5 ⟨rfl,hR5⟩;have HR5:=Aside0.mk hR5;clear hR5))
    go_ret
    exact ⟨rfl,HR5.out⟩
 ·have e40 : (at_ xs i1 != 40) = true:=by simp [h40]
  refine ⟨(kIdent,i1,o1),by show i ≤ i1;omega,hi2,HN.out.2.2,(by decide : kIdent.size ≤ 16),⟨hi1,fun hn ho' => .inl ⟨rfl,.inl ?_⟩⟩,fun w0 ws w g h => ?_⟩
  ·have e3:=HN.out.2.1 hn
   rw [e3,at_snoc]
   exact ⟨by simpa using h40,rfl,rfl⟩
  ·obtain ⟨A0,c0,hc⟩:=h.cells
   have c1:=hc.c1
   have HH:=Aside0.mk h
   clear h hc h40
   go_enter Tryz.func114,Tryz.ntmps114
   go_wp2_with (first
    | (go_at_call 139;(with_reducible refine (rs_name HF.out HH.out).mono ?_);rintro e w1 ⟨rfl,hR1⟩;have HR1:=Aside0.mk hR1;clear hR1)
    | (go_at_call 104;(with_reducible refine (rs_peek0 HR1.out HX.out (by omega) (by omega)).mono ?_);rintro e w2 ⟨rfl,hR2⟩;have HR2:=Aside0.mk hR2;clear hR2))
   go_ret
   exact ⟨rfl,HR2.out⟩
end
section
variable {w0 ws w w' : World} {g : Nat} {xs : List Int} {i i' n : Int} {o o' : Bool}
def TokP (xs : List Int) (i : Int) (kind : ByteArray) (i' : Int) (o' : Bool) : Prop:=i < i' ∧ (Nb xs → N0 xs → o' = false → TokR xs i kind i')
theorem run_snoc_of {f : Int → Prop} [DecidablePred f] {p : Int} (hf : ¬ f 0) (h0 : 0 ≤ p) (h : f (at_ xs p)) : run f (xs ++ [0]) p = run f xs p:=by
 have h1 : p < xs.length:=at_lt (fun e => hf (e ▸ h))
 exact run_snoc hf h0 (by omega)
theorem Sgn.snoc {q : Int} {b : Bool} (h : Sgn xs i q b) : Sgn (xs ++ [0]) i q b:=by unfold Sgn at *;rw [at_snoc];exact h
theorem Sgn.ge {q : Int} {b : Bool} (h : Sgn xs i q b) : i ≤ q:=by rcases h with ⟨_,_,rfl⟩|⟨_,_,rfl⟩|⟨_,_,_,rfl⟩ <;> omega
theorem dg0 : ¬ Dg 0:=by decide
theorem Expo.snoc {q : Int} (h0 : 0 ≤ i) (h : Expo xs i q) : Expo (xs ++ [0]) i q:=by
 rcases h with ⟨h1,h2,h3⟩|⟨h1,q3,b,h2,h3⟩
 ·exact .inl ⟨by rw [at_snoc];exact h1,by rw [at_snoc];exact h2,h3⟩
 ·refine .inr ⟨by rw [at_snoc];exact h1,q3,b,h2.snoc,?_⟩
  have:=h2.ge
  rcases h3 with ⟨h3,h4⟩|⟨h3,h4⟩
  ·exact .inl ⟨by rw [at_snoc];exact h3,by rw [run_snoc_of dg0 (by omega) h3];exact h4⟩
  ·exact .inr ⟨by rw [at_snoc];exact h3,h4⟩
theorem Num.snoc {q : Int} (h0 : 0 ≤ i) (h : Num xs i q) : Num (xs ++ [0]) i q:=by
 obtain ⟨q0,q1,q2,b,fd,h2,h3,h4,h5⟩:=h
 have h6:=h2.ge
 have h7 : q0 ≤ q1:=by
  rcases h3 with ⟨_,_,rfl⟩|⟨_,_,rfl⟩
  ·exact run_ge
  ·omega
 have h8 : q1 ≤ q2:=by
  rcases h4 with ⟨_,_,rfl⟩|⟨_,_,_,rfl⟩|⟨_,_,rfl⟩
  ·have:=run_ge (f:=Dg) (bs:=xs) (p:=q1 + 1);omega
  ·omega
  ·omega
 refine ⟨q0,q1,q2,b,fd,h2.snoc,?_,?_,h5.snoc (by omega)⟩
 ·rcases h3 with ⟨a,b,c⟩|⟨a,b,c⟩
  ·exact .inl ⟨a,by rw [at_snoc];exact b,by rw [run_snoc_of dg0 (by omega) b];exact c⟩
  ·exact .inr ⟨a,by rw [at_snoc];exact b,c⟩
 ·rw [at_snoc,at_snoc]
  rcases h4 with ⟨a,b,c⟩|h4|h4
  ·exact .inl ⟨a,b,by rw [run_snoc_of dg0 (by omega) b];exact c⟩
  ·exact .inr (.inl h4)
  ·exact .inr (.inr h4)
theorem Idt.snoc {q : Int} (h : Idt xs q) : Idt (xs ++ [0]) q:=by unfold Idt at *;rw [at_snoc,at_snoc];exact h
theorem NoIdt.snoc {q : Int} (h : NoIdt xs q) : NoIdt (xs ++ [0]) q:=by unfold NoIdt at *;rw [at_snoc,at_snoc];exact h
theorem num_tok {q : Int} {kind : ByteArray} (h0 : 0 ≤ i) (hN : NumAt xs i) (hn : Num xs i q) (hq0 : 0 ≤ q) (hu : UnitS xs q kind i') : TokR xs i kind i':=by
 have hf : Dg (at_ (xs ++ [0]) i) ∨ at_ (xs ++ [0]) i = 46 ∨ at_ (xs ++ [0]) i = 43 ∨ (at_ (xs ++ [0]) i = 45 ∧ NoIdt (xs ++ [0]) i ∧ (at_ (xs ++ [0]) (i + 1) == 45) = false):=by
  rw [at_snoc,at_snoc]
  unfold NumAt sg at hN
  by_cases h1 : at_ xs i = 43
  ·exact .inr (.inr (.inl h1))
  ·by_cases h2 : at_ xs i = 45
   ·rw [if_pos (.inr h2)] at hN
    have h3 : ¬ Sn (at_ xs (i + 1)) ∧ at_ xs (i + 1) ≠ 45:=by
     unfold Sn
     rcases hN with hN|hN
     ·unfold Dg at hN;omega
     ·omega
    exact .inr (.inr (.inr ⟨h2,(NoIdt.snoc (.inr ⟨h2,h3⟩)),by simpa using h3.2⟩))
   ·rw [if_neg (by omega),Int.add_zero] at hN
    rcases hN with hN|hN
    ·exact .inl hN
    ·exact .inr (.inl hN.1)
 rcases hu with ⟨rfl,h1,rfl⟩|⟨rfl,h1,rfl⟩|⟨rfl,h1,h2,rfl⟩
 ·refine .inl ⟨12,.dim,.num q _ _ (hn.snoc h0) (.inr (.inl ⟨?_,h1.snoc,rfl,?_⟩)) hf⟩
  ·rw [at_snoc]
   unfold Idt Sn at h1
   simp;omega
  ·rw [run_snoc_of (by decide) hq0]
   unfold Idt at h1
   rcases h1 with h1|⟨h1,_⟩
   ·exact h1.nm
   ·rw [h1];decide
 ·exact .inl ⟨11,.pct,.num q _ _ (hn.snoc h0) (.inl ⟨by rw [at_snoc];simpa using h1,rfl,rfl⟩) hf⟩
 ·exact .inl ⟨10,.num,.num _ _ _ (hn.snoc h0) (.inr (.inr ⟨by rw [at_snoc];simpa using h1,h2.snoc,rfl,rfl⟩)) hf⟩
theorem Num.ge {q : Int} (h : Num xs i q) : i ≤ q:=by
 obtain ⟨q0,q1,q2,b,fd,h2,h3,h4,h5⟩:=h
 have h6:=h2.ge
 have h7 : q0 ≤ q1:=by
  rcases h3 with ⟨_,_,rfl⟩|⟨_,_,rfl⟩
  ·exact run_ge
  ·omega
 have h8 : q1 ≤ q2:=by
  rcases h4 with ⟨_,_,rfl⟩|⟨_,_,_,rfl⟩|⟨_,_,rfl⟩
  ·have:=run_ge (f:=Dg) (bs:=xs) (p:=q1 + 1);omega
  ·omega
  ·omega
 rcases h5 with ⟨_,_,rfl⟩|⟨_,q3,b,h9,h10⟩
 ·omega
 ·have:=h9.ge
  rcases h10 with ⟨_,rfl⟩|⟨_,rfl⟩
  ·have:=run_ge (f:=Dg) (bs:=xs) (p:=q3);omega
  ·omega
def Tk5 (xs : List Int) (i : Int) (o : Bool) (r : ByteArray × Int × Bool) : Prop:=i ≤ r.2.1 ∧ r.2.1 ≤ xs.length ∧ (o = true → r.2.2 = true) ∧ r.1.size ≤ 16 ∧ TokP xs i r.1 r.2.1 r.2.2
theorem TkF.five {f : FuncId} {ar : List Value} {P : ByteArray → Int → Bool → Prop} {r : ByteArray × Int × Bool} {o1 : Bool} (h : TkF f ar xs i o1 P r) (ho : o = true → o1 = true) (hp : P r.1 r.2.1 r.2.2 → TokP xs i r.1 r.2.1 r.2.2) : Tk5 xs i o r:=⟨h.ge,h.le,fun e => h.op (ho e),h.sz,hp h.pr⟩
abbrev kCdc : ByteArray:=⟨#[45,45,62]⟩
theorem rs_token (o : Bool) (hx : Tx xs) (h0 : 0 ≤ i) (h1 : i < xs.length) : ∃ r,TkF 68 [] xs i o (TokP xs i) r:=by
 classical
 have hl:=hx.len
 obtain ⟨rq,hq⟩:=rs_quoted o hx h0 h1
 obtain ⟨rn,hn⟩:=rs_numeric o hx h0 (by omega : i ≤ xs.length)
 obtain ⟨b,o1,a1,a2,a3,a4,a5⟩:=identifies_f (o:=o) (n:=0) hx h0 (by omega : i ≤ xs.length) (by omega) (by omega)
 rw [Int.add_zero] at a3 a4 a5
 obtain ⟨rs,hs⟩:=rs_sign o1 hx h0 h1
 obtain ⟨rc,hc⟩ : ∃ r,(at_ xs i = 47 ∧ at_ xs (i + 1) = 42) → TkF 108 [] xs i o (fun kind i' o' => i < i' ∧ kind = kCom) r:=by
  by_cases h : at_ xs i = 47 ∧ at_ xs (i + 1) = 42
  ·have:=at_in (xs:=xs) (i:=i + 1) (by omega) (by omega)
   obtain ⟨r,hr⟩:=rs_comment o hx h0 (by omega : i + 2 ≤ xs.length)
   exact ⟨r,fun _ => hr⟩
  ·exact ⟨default,fun h' => absurd h' h⟩
 obtain ⟨rr,hr⟩ : ∃ r,((at_ xs i = 117 ∨ at_ xs i = 85) ∧ at_ xs (i + 1) = 43 ∧ (Hx (at_ xs (i + 2)) ∨ at_ xs (i + 2) = 63)) → TkF 112 [] xs i o (fun kind i' o' => i < i' ∧ kind = kRan) r:=by
  by_cases h : (at_ xs i = 117 ∨ at_ xs i = 85) ∧ at_ xs (i + 1) = 43 ∧ (Hx (at_ xs (i + 2)) ∨ at_ xs (i + 2) = 63)
  ·have:=at_in (xs:=xs) (i:=i + 1) (by omega) (by omega)
   obtain ⟨r,hr⟩:=rs_codes o hx h0 (by omega : i + 2 ≤ xs.length)
   exact ⟨r,fun _ => hr⟩
  ·exact ⟨default,fun h' => absurd h' h⟩
 obtain ⟨ri,hi⟩ : ∃ r,b = true → TkF 114 [] xs i o1 (LikeP xs i) r:=by
  cases b with
  | false => exact ⟨default,fun h => by cases h⟩
  | true =>
   obtain ⟨k1,i1,o2,n1,n2,n3,n4,n5⟩ : ∃ (k : Nat) (i' : Int) (o' : Bool),spec_reader_name.f k xs i o1 = some (i',o') ∧ i < i' ∧ i' ≤ xs.length ∧ (o1 = true → o' = true) ∧ (Nb xs → i' = run Nm xs i ∧ o' = o1):=by
    rcases a3 rfl with hs|hs
    ·obtain ⟨i',o',b1,b2,b3,b4,b5,b6⟩:=name_f (o:=o1) hx h0 (by omega)
     exact ⟨_,i',o',b1 _ (Nat.le_refl _),b5 hs,b3,b4,b6⟩
    ·obtain ⟨i',o',b1,b2,b3,b4⟩:=name_esc (b:=true) (o:=o1) hx h0 (by omega) (hs rfl)
     obtain ⟨i2,o3,d1,d2,d3,d4,d5,d6⟩:=name_f (o:=o1) hx h0 (by omega)
     have e:=b1 _ (Nat.le_refl _)
     rw [d1 _ (by omega)] at e
     injection e with e
     injection e with e1 e2
     subst e1;subst e2
     exact ⟨_,i2,o3,d1 _ (Nat.le_refl _),b2,d3,d4,d6⟩
   obtain ⟨r,hr⟩:=rs_identLike o1 hx h0 (by omega) n1 n2 n3 n4 n5
   exact ⟨r,fun _ => hr⟩
 obtain ⟨r,e1,e2,e3,e4,e5,e6,e7,e8⟩ : ∃ r : ByteArray × Int × Bool,
   (Ws (at_ xs i) → r = (kBlank,run Ws xs i,o)) ∧
   (¬ Ws (at_ xs i) → (at_ xs i = 34 ∨ at_ xs i = 39) → r = rq) ∧
   (¬ Ws (at_ xs i) → ¬ (at_ xs i = 34 ∨ at_ xs i = 39) → (at_ xs i = 47 ∧ at_ xs (i + 1) = 42) → r = rc) ∧
   (¬ Ws (at_ xs i) → ¬ (at_ xs i = 34 ∨ at_ xs i = 39) → ¬ (at_ xs i = 47 ∧ at_ xs (i + 1) = 42) → NumAt xs i → r = rn) ∧
   (¬ Ws (at_ xs i) → ¬ (at_ xs i = 34 ∨ at_ xs i = 39) → ¬ (at_ xs i = 47 ∧ at_ xs (i + 1) = 42) → ¬ NumAt xs i → ((at_ xs i = 117 ∨ at_ xs i = 85) ∧ at_ xs (i + 1) = 43 ∧ (Hx (at_ xs (i + 2)) ∨ at_ xs (i + 2) = 63)) → r = rr) ∧
   (¬ Ws (at_ xs i) → ¬ (at_ xs i = 34 ∨ at_ xs i = 39) → ¬ (at_ xs i = 47 ∧ at_ xs (i + 1) = 42) → ¬ NumAt xs i → ¬ ((at_ xs i = 117 ∨ at_ xs i = 85) ∧ at_ xs (i + 1) = 43 ∧ (Hx (at_ xs (i + 2)) ∨ at_ xs (i + 2) = 63)) → (at_ xs i = 45 ∧ at_ xs (i + 1) = 45 ∧ at_ xs (i + 2) = 62) → r = (kCdc,i + 3,o)) ∧
   (¬ Ws (at_ xs i) → ¬ (at_ xs i = 34 ∨ at_ xs i = 39) → ¬ (at_ xs i = 47 ∧ at_ xs (i + 1) = 42) → ¬ NumAt xs i → ¬ ((at_ xs i = 117 ∨ at_ xs i = 85) ∧ at_ xs (i + 1) = 43 ∧ (Hx (at_ xs (i + 2)) ∨ at_ xs (i + 2) = 63)) → ¬ (at_ xs i = 45 ∧ at_ xs (i + 1) = 45 ∧ at_ xs (i + 2) = 62) → b = true → r = ri) ∧
   (¬ Ws (at_ xs i) → ¬ (at_ xs i = 34 ∨ at_ xs i = 39) → ¬ (at_ xs i = 47 ∧ at_ xs (i + 1) = 42) → ¬ NumAt xs i → ¬ ((at_ xs i = 117 ∨ at_ xs i = 85) ∧ at_ xs (i + 1) = 43 ∧ (Hx (at_ xs (i + 2)) ∨ at_ xs (i + 2) = 63)) → ¬ (at_ xs i = 45 ∧ at_ xs (i + 1) = 45 ∧ at_ xs (i + 2) = 62) → ¬ b = true → r = rs):=by
  refine ⟨if Ws (at_ xs i) then (kBlank,run Ws xs i,o) else if (at_ xs i = 34 ∨ at_ xs i = 39) then rq else if (at_ xs i = 47 ∧ at_ xs (i + 1) = 42) then rc else if NumAt xs i then rn else if ((at_ xs i = 117 ∨ at_ xs i = 85) ∧ at_ xs (i + 1) = 43 ∧ (Hx (at_ xs (i + 2)) ∨ at_ xs (i + 2) = 63)) then rr else if (at_ xs i = 45 ∧ at_ xs (i + 1) = 45 ∧ at_ xs (i + 2) = 62) then (kCdc,i + 3,o) else if b = true then ri else rs,?_,?_,?_,?_,?_,?_,?_,?_⟩
  ·intro h;rw [if_pos h]
  ·intro h1 h2;rw [if_neg h1,if_pos h2]
  ·intro h1 h2 h3;rw [if_neg h1,if_neg h2,if_pos h3]
  ·intro h1 h2 h3 h4;rw [if_neg h1,if_neg h2,if_neg h3,if_pos h4]
  ·intro h1 h2 h3 h4 h5;rw [if_neg h1,if_neg h2,if_neg h3,if_neg h4,if_pos h5]
  ·intro h1 h2 h3 h4 h5 h6;rw [if_neg h1,if_neg h2,if_neg h3,if_neg h4,if_neg h5,if_pos h6]
  ·intro h1 h2 h3 h4 h5 h6 h7;rw [if_neg h1,if_neg h2,if_neg h3,if_neg h4,if_neg h5,if_neg h6,if_pos h7]
  ·intro h1 h2 h3 h4 h5 h6 h7;rw [if_neg h1,if_neg h2,if_neg h3,if_neg h4,if_neg h5,if_neg h6,if_neg h7]
 have p5 : Tk5 xs i o r:=by
  by_cases k1 : Ws (at_ xs i)
  ·rw [e1 k1]
   have hr:=run_ge (f:=Ws) (bs:=xs) (p:=i + 1)
   rw [← run_step h0 h1 k1] at hr
   exact ⟨by show i ≤ run Ws xs i;omega,run_le (f:=Ws) (bs:=xs) h0 (by omega),id,(by decide : kBlank.size ≤ 16),by show i < run Ws xs i;omega,fun _ _ _ => .inr (.inl .blank)⟩
  by_cases k2 : at_ xs i = 34 ∨ at_ xs i = 39
  ·rw [e2 k1 k2]
   refine hq.five id fun ⟨p1,p2⟩ => ⟨p1,fun hn hz ho => ?_⟩
   obtain ⟨ek,r,er,r1,r2,r3,r4⟩:=p2 hn hz ho
   rw [ek,er]
   exact .inl ⟨5,.str,.string r (by rw [at_snoc];exact k2) r1 (by simp;omega) (fun m a b => by rw [at_snoc,at_snoc];exact r4 m a b) (by rw [at_snoc,at_snoc];exact r3)⟩
  by_cases k3 : at_ xs i = 47 ∧ at_ xs (i + 1) = 42
  ·rw [e3 k1 k2 k3]
   exact (hc k3).five id fun ⟨p1,p2⟩ => ⟨p1,fun _ _ _ => .inr (.inl (p2 ▸ .com))⟩
  by_cases k4 : NumAt xs i
  ·rw [e4 k1 k2 k3 k4]
   refine hn.five id fun ⟨p1,p2⟩ => ⟨p1 k4,fun hnb _ ho => ?_⟩
   obtain ⟨q,q1,q2⟩:=p2 hnb k4 ho
   exact num_tok h0 k4 q1 (by have:=q1.ge;omega) q2
  by_cases k5 : (at_ xs i = 117 ∨ at_ xs i = 85) ∧ at_ xs (i + 1) = 43 ∧ (Hx (at_ xs (i + 2)) ∨ at_ xs (i + 2) = 63)
  ·rw [e5 k1 k2 k3 k4 k5]
   exact (hr k5).five id fun ⟨p1,p2⟩ => ⟨p1,fun _ _ _ => .inr (.inl (p2 ▸ .ran))⟩
  by_cases k6 : at_ xs i = 45 ∧ at_ xs (i + 1) = 45 ∧ at_ xs (i + 2) = 62
  ·rw [e6 k1 k2 k3 k4 k5 k6]
   have:=at_in (xs:=xs) (i:=i + 2) (by omega) (by omega)
   exact ⟨by show i ≤ i + 3;omega,by show i + 3 ≤ _;omega,id,(by decide : kCdc.size ≤ 16),by show i < i + 3;omega,fun _ _ _ => .inr (.inl .cdc)⟩
  by_cases k7 : b = true
  ·rw [e7 k1 k2 k3 k4 k5 k6 k7]
   refine (hi k7).five a2 fun ⟨p1,p2⟩ => ⟨p1,fun hn _ ho => ?_⟩
   have ho1 : o1 = false:=by
    cases h : o1 with
    | true => rw [(hi k7).op h] at ho;cases ho
    | false => rfl
   have hidt:=(a5 hn).1.1 k7
   have h45:=(a5 hn).2 ho1
   have hf : (at_ (xs ++ [0]) i = 117 ∨ at_ (xs ++ [0]) i = 85) → NoRange (xs ++ [0]) i:=by
    rw [at_snoc]
    intro hu h43
    rw [at_snoc] at h43
    rw [at_snoc]
    exact ⟨fun h => k5 ⟨hu,h43,.inl h⟩,fun h => k5 ⟨hu,h43,.inr h⟩⟩
   have hm : at_ (xs ++ [0]) i = 45 → (at_ (xs ++ [0]) (i + 1) == 45) = false:=by
    rw [at_snoc,at_snoc]
    intro h
    simp
    exact fun h' => h45 ⟨h,h'⟩
   rcases p2 hn ho with ⟨ek,p⟩|⟨ek,p⟩|⟨ek,p⟩
   ·rw [ek];exact .inl ⟨1,.ident,.like _ _ hidt.snoc p hf hm⟩
   ·rw [ek];exact .inl ⟨2,.fn,.like _ _ hidt.snoc p hf hm⟩
   ·rw [ek];exact .inl ⟨7,.url,.like _ _ hidt.snoc p hf hm⟩
  ·rw [e8 k1 k2 k3 k4 k5 k6 k7]
   exact hs.five a2 fun ⟨p1,p2⟩ => ⟨p1,fun hn _ ho => p2 hn k4 ho⟩
 refine ⟨r,p5.1,p5.2.1,p5.2.2.1,p5.2.2.2.1,p5.2.2.2.2,fun w0 ws w g h => ?_⟩
 have HH:=Aside0.mk h
 have HX:=Aside0.mk hx
 have E:=Aside0.mk (And.intro e1 (And.intro e2 (And.intro e3 (And.intro e4 (And.intro e5 (And.intro e6 (And.intro e7 e8)))))))
 have HS:=Aside0.mk (And.intro hq (And.intro hc (And.intro hn (And.intro hr (And.intro hi hs)))))
 have HI:=Aside0.mk a1
 clear h e1 e2 e3 e4 e5 e6 e7 e8 hq hc hn hr hi hs a1 a2 a3 a4 a5 p5
 by_cases hws : Ws (at_ xs i)
 ·have HW:=Aside0.mk hws
  have hr:=run_ge (f:=Ws) (bs:=xs) (p:=i + 1)
  have hr2:=run_le (f:=Ws) (bs:=xs) (p:=i) h0 (by omega)
  rw [← run_step h0 h1 hws] at hr
  clear hws hx
  go_enter Tryz.func68,Tryz.ntmps68
  go_wp2_with (first
   | (go_at_call 104;(with_reducible refine (rs_peek0 HH.out HX.out (by omega) (by omega)).mono ?_);rintro e w1 ⟨rfl,hR1⟩;have HR1:=Aside0.mk hR1;clear hR1)
   | (go_at_call 104;(with_reducible refine (rs_peek HR1.out HX.out (by omega) (by omega)).mono ?_);rintro e w2 ⟨rfl,hR2⟩;have HR2:=Aside0.mk hR2;clear hR2)
   | (go_at_call 105;(with_reducible refine (rs_blank true (by simp [HW.out]) HR2.out).mono ?_);rintro e w3 ⟨rfl,hR3⟩;have HR3:=Aside0.mk hR3;clear hR3)
   | (go_at_call 106;(with_reducible refine (rs_blanks HR3.out HX.out (by omega) (by omega)).mono ?_);rintro e w4 ⟨rfl,hR4⟩;have HR4:=Aside0.mk hR4;clear hR4))
  go_ret
  rw [E.out.1 HW.out]
  exact ⟨rfl,HR4.out⟩
 by_cases hq : at_ xs i = 34 ∨ at_ xs i = 39
 ·have HW:=Aside0.mk hws
  have HQ:=Aside0.mk hq
  clear hws hx
  have hre:=E.out.2.1 HW.out HQ.out
  have HRE:=Aside0.mk hre
  clear hre
  rcases hq with hq|hq
  ·have t1 : (at_ xs i == 34) = true:=by simp [hq]
   clear hq
   go_enter Tryz.func68,Tryz.ntmps68
   go_wp2_with (first
    | (go_at_call 104;(with_reducible refine (rs_peek0 HH.out HX.out (by omega) (by omega)).mono ?_);rintro e w1 ⟨rfl,hR1⟩;have HR1:=Aside0.mk hR1;clear hR1)
    | (go_at_call 104;(with_reducible refine (rs_peek HR1.out HX.out (by omega) (by omega)).mono ?_);rintro e w2 ⟨rfl,hR2⟩;have HR2:=Aside0.mk hR2;clear hR2)
    | (go_at_call 105;(with_reducible refine (rs_blank false (by simp [HW.out]) HR2.out).mono ?_);rintro e w3 ⟨rfl,hR3⟩;have HR3:=Aside0.mk hR3;clear hR3)
    | (go_at_call 107;(with_reducible refine (HS.out.1.run _ _ _ _ HR3.out).mono ?_);rintro e w4 ⟨rfl,hT⟩;have HT:=Aside0.mk hT;clear hT))
   go_ret
   rw [HRE.out]
   exact ⟨rfl,HT.out⟩
  ·have t1 : (at_ xs i == 34) = false:=by simp [hq]
   have t2 : (at_ xs i == 39) = true:=by simp [hq]
   clear hq
   go_enter Tryz.func68,Tryz.ntmps68
   go_wp2_with (first
    | (go_at_call 104;(with_reducible refine (rs_peek0 HH.out HX.out (by omega) (by omega)).mono ?_);rintro e w1 ⟨rfl,hR1⟩;have HR1:=Aside0.mk hR1;clear hR1)
    | (go_at_call 104;(with_reducible refine (rs_peek HR1.out HX.out (by omega) (by omega)).mono ?_);rintro e w2 ⟨rfl,hR2⟩;have HR2:=Aside0.mk hR2;clear hR2)
    | (go_at_call 105;(with_reducible refine (rs_blank false (by simp [HW.out]) HR2.out).mono ?_);rintro e w3 ⟨rfl,hR3⟩;have HR3:=Aside0.mk hR3;clear hR3)
    | (go_at_call 107;(with_reducible refine (HS.out.1.run _ _ _ _ HR3.out).mono ?_);rintro e w4 ⟨rfl,hT⟩;have HT:=Aside0.mk hT;clear hT))
   go_ret
   rw [HRE.out]
   exact ⟨rfl,HT.out⟩
 have hws':=hws
 have t1 : (at_ xs i == 34) = false:=by simp;omega
 have t2 : (at_ xs i == 39) = false:=by simp;omega
 have hb2:=hx.at_ (i + 2)
 obtain ⟨v,hv,hv2⟩:=hexValue_f hb2.1 hb2.2
 have HW:=Aside0.mk hws
 have HQ:=Aside0.mk hq
 have HV:=Aside0.mk (And.intro hv hv2)
 clear hws hq hx hv hv2 hb2
 go_enter Tryz.func68,Tryz.ntmps68
 go_upto_region 7 with (first
  | (go_at_call 104;(with_reducible refine (rs_peek0 HH.out HX.out (by omega) (by omega)).mono ?_);rintro e w1 ⟨rfl,hR1⟩;have HR1:=Aside0.mk hR1;clear hR1)
  | (go_at_call 104;(with_reducible refine (rs_peek HR1.out HX.out (by omega) (by omega)).mono ?_);rintro e w2 ⟨rfl,hR2⟩;have HR2:=Aside0.mk hR2;clear hR2)
  | (go_at_call 105;(with_reducible refine (rs_blank false (by simp [HW.out]) HR2.out).mono ?_);rintro e w3 ⟨rfl,hR3⟩;have HR3:=Aside0.mk hR3;clear hR3))
 by_cases hcm : at_ xs i = 47 ∧ at_ xs (i + 1) = 42
 ·have t3 : (at_ xs i == 47) = true:=by simp [hcm.1]
  have t4 : (at_ xs (i + 1) == 42) = true:=by simp [hcm.2]
  have hi2 : i + 1 + 1 ≤ xs.length:=at_in (by omega) (by omega)
  have HCM:=Aside0.mk hcm
  clear hcm
  go_wp2_with (first
   | (go_at_call 108;(with_reducible refine ((HS.out.2.1 HCM.out).run _ _ _ _ HR3.out).mono ?_);rintro e w4 ⟨rfl,hT⟩;have HT:=Aside0.mk hT;clear hT))
  go_ret
  rw [E.out.2.2.1 HW.out HQ.out HCM.out]
  exact ⟨rfl,HT.out⟩
 go_cut [23] (fun s23 wx => s23 = .bool false ∧ Rs w0 ws g xs wx i o)
 case first =>
  by_cases h47 : at_ xs i = 47
  ·have t3 : (at_ xs i == 47) = true:=by simp [h47]
   have t4 : (at_ xs (i + 1) == 42) = false:=by simp;exact fun h => hcm ⟨h47,h⟩
   clear hcm h47
   go_wp2_with fail
   go_meet
   exact ⟨rfl,HR3.out⟩
  ·have t3 : (at_ xs i == 47) = false:=by simp [h47]
   clear hcm h47
   go_wp2_with fail
   go_meet
   exact ⟨rfl,HR3.out⟩
 case rest =>
  obtain ⟨rfl,hR4⟩:=hcut
  have HR4:=Aside0.mk hR4
  have HCM:=Aside0.mk hcm
  clear hR4 hcm
  by_cases hN : NumAt xs i
  ·have HN:=Aside0.mk hN
   clear hN
   go_wp2_with (first
    | (go_at_call 109;(with_reducible refine (rs_numbers true HR4.out HX.out (by omega) (by omega) (by simp [HN.out])).mono ?_);rintro e w5 ⟨rfl,hR5⟩;have HR5:=Aside0.mk hR5;clear hR5)
    | (go_at_call 110;(with_reducible refine (HS.out.2.2.1.run _ _ _ _ HR5.out).mono ?_);rintro e w6 ⟨rfl,hT⟩;have HT:=Aside0.mk hT;clear hT))
   go_ret
   rw [E.out.2.2.2.1 HW.out HQ.out HCM.out HN.out]
   exact ⟨rfl,HT.out⟩
  ·have HN:=Aside0.mk hN
   clear hN
   go_upto_region 11 with (first
    | (go_at_call 109;(with_reducible refine (rs_numbers false HR4.out HX.out (by omega) (by omega) (by simp [HN.out])).mono ?_);rintro e w5 ⟨rfl,hR5⟩;have HR5:=Aside0.mk hR5;clear hR5))
   by_cases hran : (at_ xs i = 117 ∨ at_ xs i = 85) ∧ at_ xs (i + 1) = 43 ∧ (Hx (at_ xs (i + 2)) ∨ at_ xs (i + 2) = 63)
   ·have hi2 : i + 1 + 1 ≤ xs.length:=at_in (by omega) (by omega)
    go_cut [37] (fun s37 wx => s37 = .bool true ∧ Rs w0 ws g xs wx i o)
    case first =>
     obtain ⟨x1,x2,x3⟩:=hran
     have t4 : (at_ xs (i + 1) == 43) = true:=by simp [x2]
     by_cases x4 : Hx (at_ xs (i + 2))
     ·have t5 : 0 ≤ v:=HV.out.2.2 x4
      clear x3 x4 x2
      rcases x1 with x1|x1
      ·have t3 : (at_ xs i == 117) = true:=by simp [x1]
       clear x1
       go_wp2_with (first
        | (go_at_call 104;(with_reducible refine (rs_peek HR5.out HX.out (by omega) (by omega)).mono ?_);rintro e w6 ⟨rfl,hR6⟩;have HR6:=Aside0.mk hR6;clear hR6)
        | (go_at_call 111;(with_reducible refine (rs_hex v HV.out.1 HR6.out).mono ?_);rintro e w7 ⟨rfl,hR7⟩;have HR7:=Aside0.mk hR7;clear hR7))
       go_meet
       exact ⟨rfl,HR7.out⟩
      ·have t3 : (at_ xs i == 117) = false:=by simp [x1]
       have t6 : (at_ xs i == 85) = true:=by simp [x1]
       clear x1
       go_wp2_with (first
        | (go_at_call 104;(with_reducible refine (rs_peek HR5.out HX.out (by omega) (by omega)).mono ?_);rintro e w6 ⟨rfl,hR6⟩;have HR6:=Aside0.mk hR6;clear hR6)
        | (go_at_call 111;(with_reducible refine (rs_hex v HV.out.1 HR6.out).mono ?_);rintro e w7 ⟨rfl,hR7⟩;have HR7:=Aside0.mk hR7;clear hR7))
       go_meet
       exact ⟨rfl,HR7.out⟩
     ·have t5 : ¬ 0 ≤ v:=fun h => x4 (HV.out.2.1 h)
      have t7 : (at_ xs (i + 2) == 63) = true:=by simp;exact x3.resolve_left x4
      clear x3 x4 x2
      rcases x1 with x1|x1
      ·have t3 : (at_ xs i == 117) = true:=by simp [x1]
       clear x1
       go_wp2_with (first
        | (go_at_call 104;(with_reducible refine (rs_peek HR5.out HX.out (by omega) (by omega)).mono ?_);rintro e w6 ⟨rfl,hR6⟩;have HR6:=Aside0.mk hR6;clear hR6)
        | (go_at_call 111;(with_reducible refine (rs_hex v HV.out.1 HR6.out).mono ?_);rintro e w7 ⟨rfl,hR7⟩;have HR7:=Aside0.mk hR7;clear hR7)
        | (go_at_call 104;(with_reducible refine (rs_peek HR7.out HX.out (by omega) (by omega)).mono ?_);rintro e w8 ⟨rfl,hR8⟩;have HR8:=Aside0.mk hR8;clear hR8))
       go_meet
       exact ⟨rfl,HR8.out⟩
      ·have t3 : (at_ xs i == 117) = false:=by simp [x1]
       have t6 : (at_ xs i == 85) = true:=by simp [x1]
       clear x1
       go_wp2_with (first
        | (go_at_call 104;(with_reducible refine (rs_peek HR5.out HX.out (by omega) (by omega)).mono ?_);rintro e w6 ⟨rfl,hR6⟩;have HR6:=Aside0.mk hR6;clear hR6)
        | (go_at_call 111;(with_reducible refine (rs_hex v HV.out.1 HR6.out).mono ?_);rintro e w7 ⟨rfl,hR7⟩;have HR7:=Aside0.mk hR7;clear hR7)
        | (go_at_call 104;(with_reducible refine (rs_peek HR7.out HX.out (by omega) (by omega)).mono ?_);rintro e w8 ⟨rfl,hR8⟩;have HR8:=Aside0.mk hR8;clear hR8))
       go_meet
       exact ⟨rfl,HR8.out⟩
    case rest =>
     obtain ⟨rfl,hR9⟩:=hcut
     have HR9:=Aside0.mk hR9
     have HRAN:=Aside0.mk hran
     clear hR9 hran
     go_wp2_with (first
      | (go_at_call 112;(with_reducible refine ((HS.out.2.2.2.1 HRAN.out).run _ _ _ _ HR9.out).mono ?_);rintro e w10 ⟨rfl,hT⟩;have HT:=Aside0.mk hT;clear hT))
     go_ret
     rw [E.out.2.2.2.2.1 HW.out HQ.out HCM.out HN.out HRAN.out]
     exact ⟨rfl,HT.out⟩
   ·go_cut [37] (fun s37 wx => s37 = .bool false ∧ Rs w0 ws g xs wx i o)
    case first =>
     by_cases x1 : at_ xs i = 117 ∨ at_ xs i = 85
     ·by_cases x2 : at_ xs (i + 1) = 43
      ·have x3 : ¬ Hx (at_ xs (i + 2)) ∧ at_ xs (i + 2) ≠ 63:=⟨fun h => hran ⟨x1,x2,.inl h⟩,fun h => hran ⟨x1,x2,.inr h⟩⟩
       have t4 : (at_ xs (i + 1) == 43) = true:=by simp [x2]
       have t5 : decide (0 ≤ v) = false:=decide_eq_false (fun h => x3.1 (HV.out.2.1 h))
       have t7 : (at_ xs (i + 2) == 63) = false:=by simpa using x3.2
       clear x2 x3 hran
       rcases x1 with x1|x1
       ·have t3 : (at_ xs i == 117) = true:=by simp [x1]
        clear x1
        go_wp2_with (first
         | (go_at_call 104;(with_reducible refine (rs_peek HR5.out HX.out (by omega) (by omega)).mono ?_);rintro e w6 ⟨rfl,hR6⟩;have HR6:=Aside0.mk hR6;clear hR6)
         | (go_at_call 111;(with_reducible refine (rs_hex v HV.out.1 HR6.out).mono ?_);rintro e w7 ⟨rfl,hR7⟩;have HR7:=Aside0.mk hR7;clear hR7)
         | (go_at_call 104;(with_reducible refine (rs_peek HR7.out HX.out (by omega) (by omega)).mono ?_);rintro e w8 ⟨rfl,hR8⟩;have HR8:=Aside0.mk hR8;clear hR8))
        go_meet
        exact ⟨rfl,HR8.out⟩
       ·have t3 : (at_ xs i == 117) = false:=by simp [x1]
        have t6 : (at_ xs i == 85) = true:=by simp [x1]
        clear x1
        go_wp2_with (first
         | (go_at_call 104;(with_reducible refine (rs_peek HR5.out HX.out (by omega) (by omega)).mono ?_);rintro e w6 ⟨rfl,hR6⟩;have HR6:=Aside0.mk hR6;clear hR6)
         | (go_at_call 111;(with_reducible refine (rs_hex v HV.out.1 HR6.out).mono ?_);rintro e w7 ⟨rfl,hR7⟩;have HR7:=Aside0.mk hR7;clear hR7)
         | (go_at_call 104;(with_reducible refine (rs_peek HR7.out HX.out (by omega) (by omega)).mono ?_);rintro e w8 ⟨rfl,hR8⟩;have HR8:=Aside0.mk hR8;clear hR8))
        go_meet
        exact ⟨rfl,HR8.out⟩
      ·have t4 : (at_ xs (i + 1) == 43) = false:=by simpa using x2
       clear x2 hran
       rcases x1 with x1|x1
       ·have t3 : (at_ xs i == 117) = true:=by simp [x1]
        clear x1
        go_wp2_with fail
        go_meet
        exact ⟨rfl,HR5.out⟩
       ·have t3 : (at_ xs i == 117) = false:=by simp [x1]
        have t6 : (at_ xs i == 85) = true:=by simp [x1]
        clear x1
        go_wp2_with fail
        go_meet
        exact ⟨rfl,HR5.out⟩
     ·have t3 : (at_ xs i == 117) = false:=by simp;omega
      have t6 : (at_ xs i == 85) = false:=by simp;omega
      clear x1 hran
      go_wp2_with fail
      go_meet
      exact ⟨rfl,HR5.out⟩
    case rest =>
     obtain ⟨rfl,hR9⟩:=hcut
     have HR9:=Aside0.mk hR9
     have HRAN:=Aside0.mk hran
     clear hR9 hran
     go_upto_region 13 with (fail)
     by_cases hcdc : at_ xs i = 45 ∧ at_ xs (i + 1) = 45 ∧ at_ xs (i + 2) = 62
     ·have hi3 : i + 2 + 1 ≤ xs.length:=at_in (by omega) (by omega)
      have t3 : (at_ xs i == 45) = true:=by simp [hcdc.1]
      have t4 : (at_ xs (i + 1) == 45) = true:=by simp [hcdc.2.1]
      have t5 : (at_ xs (i + 2) == 62) = true:=by simp [hcdc.2.2]
      have HCDC:=Aside0.mk hcdc
      clear hcdc
      go_wp2_with (first
       | (go_at_call 104;(with_reducible refine (rs_peek HR9.out HX.out (by omega) (by omega)).mono ?_);rintro e w6 ⟨rfl,hR6⟩;obtain ⟨A6,c6,hc6⟩:=hR6.cells;have g1:=hc6.c1;have gf:=hc6.f1;clear hc6;have HR6:=Aside0.mk (hR6.set1 (i + 3));clear hR6))
      go_ret
      rw [E.out.2.2.2.2.2.1 HW.out HQ.out HCM.out HN.out HRAN.out HCDC.out]
      exact ⟨rfl,HR6.out⟩
     ·go_cut [61] (fun s61 wx => s61 = .bool false ∧ Rs w0 ws g xs wx i o)
      case first =>
       by_cases x1 : at_ xs i = 45
       ·have t3 : (at_ xs i == 45) = true:=by simp [x1]
        by_cases x2 : at_ xs (i + 1) = 45
        ·have t4 : (at_ xs (i + 1) == 45) = true:=by simp [x2]
         have t5 : (at_ xs (i + 2) == 62) = false:=by simp;exact fun h => hcdc ⟨x1,x2,h⟩
         clear x1 x2 hcdc
         go_wp2_with (first|(go_at_call 104;(with_reducible refine (rs_peek HR9.out HX.out (by omega) (by omega)).mono ?_);rintro e w6 ⟨rfl,hR6⟩;have HR6:=Aside0.mk hR6;clear hR6))
         go_meet
         exact ⟨rfl,HR6.out⟩
        ·have t4 : (at_ xs (i + 1) == 45) = false:=by simpa using x2
         clear x1 x2 hcdc
         go_wp2_with fail
         go_meet
         exact ⟨rfl,HR9.out⟩
       ·have t3 : (at_ xs i == 45) = false:=by simpa using x1
        clear x1 hcdc
        go_wp2_with fail
        go_meet
        exact ⟨rfl,HR9.out⟩
      case rest =>
       obtain ⟨rfl,hR10⟩:=hcut
       have HR10:=Aside0.mk hR10
       have HCDC:=Aside0.mk hcdc
       clear hR10 hcdc
       cases b with
       | true =>
        go_wp2_with (first
         | (go_at_call 113;(with_reducible refine (rs_identifies (HI.out 1 (Nat.le_refl _)) HR10.out).mono ?_);rintro e w11 ⟨rfl,hR11⟩;have HR11:=Aside0.mk hR11;clear hR11)
         | (go_at_call 114;(with_reducible refine ((HS.out.2.2.2.2.1 (by simp)).run _ _ _ _ HR11.out).mono ?_);rintro e w12 ⟨rfl,hT⟩;have HT:=Aside0.mk hT;clear hT))
        go_ret
        rw [E.out.2.2.2.2.2.2.1 HW.out HQ.out HCM.out HN.out HRAN.out HCDC.out (by simp)]
        exact ⟨rfl,HT.out⟩
       | false =>
        go_wp2_with (first
         | (go_at_call 113;(with_reducible refine (rs_identifies (HI.out 1 (Nat.le_refl _)) HR10.out).mono ?_);rintro e w11 ⟨rfl,hR11⟩;have HR11:=Aside0.mk hR11;clear hR11)
         | (go_at_call 115;(with_reducible refine (HS.out.2.2.2.2.2.run _ _ _ _ HR11.out).mono ?_);rintro e w12 ⟨rfl,hT⟩;have HT:=Aside0.mk hT;clear hT))
        go_ret
        rw [E.out.2.2.2.2.2.2.2 HW.out HQ.out HCM.out HN.out HRAN.out HCDC.out (by simp)]
        exact ⟨rfl,HT.out⟩
end
end Go.Proofs.YtlglijnaeaonpaaGreatDoor.Lx
end
