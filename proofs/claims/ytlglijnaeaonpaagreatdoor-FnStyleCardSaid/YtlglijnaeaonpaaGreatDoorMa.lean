/- FnStyle: a part of the proof (Ma); in it lines that print.sh printed, those that are used. -/
import Derived.Test.YtlglijnaeaonpaaGreatDoorProg
import Derived.Below
import Derived.Deep.Draws
import Derived.Deep.AppendLies
import Derived.Maps.AppendAt
import Derived.OwnWalk
import Derived.Laws.BytesArg
import Derived.Laws.MakeOwn
import Derived.Laws.OwnMore
import Derived.Deep.OwnRows
import Derived.Tactics
import Derived.Lib.ConvBytes
import Derived.Laws.Slices
import Derived.WalkKit
import Derived.KernelRfl
import Derived.RowKit3
import Derived.Deep.LoopGhost
import Derived.Deep.QuietTactic
import Derived.BigQuiet
import Derived.WideLaws
import Derived.Deep.DeepCutAuto
import Derived.Deep.CutBlock
import Derived.Deep.RegionHeld3
import Derived.Laws.Rows
import Derived.Lib.AppendStr
import Derived.ArgAppend
import Derived.Laws.IdiomCopy
import Derived.OrdersHeld
import Derived.Laws.BitsLemmas
import Derived.RowKit
import Derived.Test.YtlglijnaeaonpaaGreatDoorMWords
section
set_option maxHeartbeats 8000000
set_option maxRecDepth 100000
set_option linter.unusedVariables false
set_option linter.unusedSimpArgs false
namespace Go.Proofs.YtlglijnaeaonpaaGreatDoor.PFnStyle
open Go.RowKit Go.Proofs.YtlglijnaeaonpaaGreatDoorW.PrintWords Go.Proofs.YtlglijnaeaonpaaGreatDoorW.PrintLast Go.Proofs.YtlglijnaeaonpaaGreatDoorW.PrintMore
attribute [local go_sem] max2_int min2_int max_two min_two max_three min_three max_four min_four
def errW : Option Int → Value
 | none => .nilIface
 | some c => .iface 0 (.int .i64 c)
theorem errW_none : errW none = .nilIface:=rfl
theorem errW_some (c : Int) : errW (some c) = .iface 0 (.int .i64 c):=rfl
theorem info5 : (Tryz.prog.info? 5).map (fun i => (i.zero,i.size,i.bytes)) = some (some (.int .u8 0),1,1):=by kernel_rfl
theorem info9 : (Tryz.prog.info? 9).map (fun i => (i.zero,i.size,i.bytes)) = some (some (.string ⟨#[]⟩),1,16):=by kernel_rfl
def rd_L6 (xs : List (List Int)) (i : Int) : (List Int):=xs.getD i.toNat ([] : List Int)
theorem at_L6 {w : World} {A : Option Addr} {n : Nat} {xs : List (List Int)} (h : Kd.C (Kd.slice 5 (Kd.int .u8)) w A n xs) (i : Int) (h0 : 0 ≤ i) (h1 : i < n) : ∃ ad A0 c0,A = some ad ∧ w.cell? (ad.add i.toNat) = some (.slice A0 (rd_L6 xs i).length c0) ∧ (rd_L6 xs i).length ≤ c0 ∧ (Kd.int .u8).C w A0 (rd_L6 xs i).length (rd_L6 xs i):=by
 obtain ⟨ad,c,e,_,hK,hc0⟩:=Kd.C_get h ([] : List Int) i h0 h1
 have hc : ∀ j u,c[j]? = some u → w.cell? (ad.add (i.toNat * 1 + j)) = some u:=hc0
 obtain ⟨A0,c0,rfl,l0,g0⟩:=hK
 exact ⟨ad,A0,c0,e,by have hq:=hc 0 _ rfl;rwa [Nat.mul_one,Nat.add_zero] at hq,l0,g0⟩
structure S55 where
 f0 : ByteArray
 f1 : (List Int)
 f2 : (List Int)
 f3 : (List Int)
 f4 : (List Int)
 f5 : ByteArray
def z55 : S55:=⟨(⟨#[]⟩ : ByteArray),([] : List Int),([] : List Int),([] : List Int),([] : List Int),(⟨#[]⟩ : ByteArray)⟩
def k55 : Kd S55:=Kd.iso (Kd.pair Kd.string (Kd.pair (Kd.slice 5 (Kd.int .u8)) (Kd.pair (Kd.slice 5 (Kd.int .u8)) (Kd.pair (Kd.slice 5 (Kd.int .u8)) (Kd.pair (Kd.slice 5 (Kd.int .u8)) Kd.string))))) (fun x : S55 => (x.f0,x.f1,x.f2,x.f3,x.f4,x.f5))
theorem k55_open {w : World} {x : S55} {cs : List Value} (h : k55.K w x cs) : ∃ A1 c1 A2 c2 A3 c3 A4 c4,cs = [.string x.f0,.slice A1 x.f1.length c1,.slice A2 x.f2.length c2,.slice A3 x.f3.length c3,.slice A4 x.f4.length c4,.string x.f5] ∧ x.f1.length ≤ c1 ∧ (Kd.int .u8).C w A1 x.f1.length x.f1 ∧ x.f2.length ≤ c2 ∧ (Kd.int .u8).C w A2 x.f2.length x.f2 ∧ x.f3.length ≤ c3 ∧ (Kd.int .u8).C w A3 x.f3.length x.f3 ∧ x.f4.length ≤ c4 ∧ (Kd.int .u8).C w A4 x.f4.length x.f4:=by
 obtain ⟨_,_,rfl,rfl,⟨_,_,rfl,⟨A1,c1,rfl,l1,g1⟩,⟨_,_,rfl,⟨A2,c2,rfl,l2,g2⟩,⟨_,_,rfl,⟨A3,c3,rfl,l3,g3⟩,⟨_,_,rfl,⟨A4,c4,rfl,l4,g4⟩,rfl⟩⟩⟩⟩⟩:=h
 exact ⟨A1,c1,A2,c2,A3,c3,A4,c4,rfl,l1,g1,l2,g2,l3,g3,l4,g4⟩
theorem k55_mk (w : World) (x : S55) {A1 : Option Addr} {c1 : Nat} (l1 : x.f1.length ≤ c1) (g1 : (Kd.int .u8).C w A1 x.f1.length x.f1) {A2 : Option Addr} {c2 : Nat} (l2 : x.f2.length ≤ c2) (g2 : (Kd.int .u8).C w A2 x.f2.length x.f2) {A3 : Option Addr} {c3 : Nat} (l3 : x.f3.length ≤ c3) (g3 : (Kd.int .u8).C w A3 x.f3.length x.f3) {A4 : Option Addr} {c4 : Nat} (l4 : x.f4.length ≤ c4) (g4 : (Kd.int .u8).C w A4 x.f4.length x.f4) : k55.K w x [.string x.f0,.slice A1 x.f1.length c1,.slice A2 x.f2.length c2,.slice A3 x.f3.length c3,.slice A4 x.f4.length c4,.string x.f5]:=⟨[.string x.f0],[.slice A1 x.f1.length c1,.slice A2 x.f2.length c2,.slice A3 x.f3.length c3,.slice A4 x.f4.length c4,.string x.f5],rfl,rfl,⟨[.slice A1 x.f1.length c1],[.slice A2 x.f2.length c2,.slice A3 x.f3.length c3,.slice A4 x.f4.length c4,.string x.f5],rfl,⟨A1,c1,rfl,l1,g1⟩,⟨[.slice A2 x.f2.length c2],[.slice A3 x.f3.length c3,.slice A4 x.f4.length c4,.string x.f5],rfl,⟨A2,c2,rfl,l2,g2⟩,⟨[.slice A3 x.f3.length c3],[.slice A4 x.f4.length c4,.string x.f5],rfl,⟨A3,c3,rfl,l3,g3⟩,⟨[.slice A4 x.f4.length c4],[.string x.f5],rfl,⟨A4,c4,rfl,l4,g4⟩,rfl⟩⟩⟩⟩⟩
def rd_T55 (xs : List S55) (i : Int) : S55:=xs.getD i.toNat z55
theorem at_T55 {w : World} {A : Option Addr} {n : Nat} {xs : List S55} (h : Kd.C k55 w A n xs) (i : Int) (h0 : 0 ≤ i) (h1 : i < n) : ∃ ad A1 c1 A2 c2 A3 c3 A4 c4,A = some ad ∧ w.cell? (ad.add (i.toNat * 6)) = some (.string (rd_T55 xs i).f0) ∧ w.cell? ⟨(ad.add (i.toNat * 6)).block,(ad.add (i.toNat * 6)).off + 1,none⟩ = some (.slice A1 (rd_T55 xs i).f1.length c1) ∧ w.cell? ⟨(ad.add (i.toNat * 6)).block,(ad.add (i.toNat * 6)).off + 2,none⟩ = some (.slice A2 (rd_T55 xs i).f2.length c2) ∧ w.cell? ⟨(ad.add (i.toNat * 6)).block,(ad.add (i.toNat * 6)).off + 3,none⟩ = some (.slice A3 (rd_T55 xs i).f3.length c3) ∧ w.cell? ⟨(ad.add (i.toNat * 6)).block,(ad.add (i.toNat * 6)).off + 4,none⟩ = some (.slice A4 (rd_T55 xs i).f4.length c4) ∧ w.cell? ⟨(ad.add (i.toNat * 6)).block,(ad.add (i.toNat * 6)).off + 5,none⟩ = some (.string (rd_T55 xs i).f5) ∧ (rd_T55 xs i).f1.length ≤ c1 ∧ (Kd.int .u8).C w A1 (rd_T55 xs i).f1.length (rd_T55 xs i).f1 ∧ (rd_T55 xs i).f2.length ≤ c2 ∧ (Kd.int .u8).C w A2 (rd_T55 xs i).f2.length (rd_T55 xs i).f2 ∧ (rd_T55 xs i).f3.length ≤ c3 ∧ (Kd.int .u8).C w A3 (rd_T55 xs i).f3.length (rd_T55 xs i).f3 ∧ (rd_T55 xs i).f4.length ≤ c4 ∧ (Kd.int .u8).C w A4 (rd_T55 xs i).f4.length (rd_T55 xs i).f4:=by
 obtain ⟨ad,c,e,_,hK,hc0⟩:=Kd.C_get h z55 i h0 h1
 have hc : ∀ j u,c[j]? = some u → w.cell? (ad.add (i.toNat * 6 + j)) = some u:=hc0
 obtain ⟨A1,c1,A2,c2,A3,c3,A4,c4,rfl,l1,g1,l2,g2,l3,g3,l4,g4⟩:=k55_open hK
 exact ⟨ad,A1,c1,A2,c2,A3,c3,A4,c4,e,hc 0 _ rfl,by rw [← add_field _ _ 1 (by omega)];exact hc 1 _ rfl,by rw [← add_field _ _ 2 (by omega)];exact hc 2 _ rfl,by rw [← add_field _ _ 3 (by omega)];exact hc 3 _ rfl,by rw [← add_field _ _ 4 (by omega)];exact hc 4 _ rfl,by rw [← add_field _ _ 5 (by omega)];exact hc 5 _ rfl,l1,g1,l2,g2,l3,g3,l4,g4⟩
structure S68 where
 f0 : (List Int)
 f1 : (List (List Int))
def z68 : S68:=⟨([] : List Int),([] : List (List Int))⟩
def k68 : Kd S68:=Kd.iso (Kd.pair (Kd.slice 5 (Kd.int .u8)) (Kd.slice 24 (Kd.slice 5 (Kd.int .u8)))) (fun x : S68 => (x.f0,x.f1))
theorem k68_open {w : World} {x : S68} {cs : List Value} (h : k68.K w x cs) : ∃ A0 c0 A1 c1,cs = [.slice A0 x.f0.length c0,.slice A1 x.f1.length c1] ∧ x.f0.length ≤ c0 ∧ (Kd.int .u8).C w A0 x.f0.length x.f0 ∧ x.f1.length ≤ c1 ∧ (Kd.slice 5 (Kd.int .u8)).C w A1 x.f1.length x.f1:=by
 obtain ⟨_,_,rfl,⟨A0,c0,rfl,l0,g0⟩,⟨A1,c1,rfl,l1,g1⟩⟩:=h
 exact ⟨A0,c0,A1,c1,rfl,l0,g0,l1,g1⟩
theorem k68_mk (w : World) (x : S68) {A0 : Option Addr} {c0 : Nat} (l0 : x.f0.length ≤ c0) (g0 : (Kd.int .u8).C w A0 x.f0.length x.f0) {A1 : Option Addr} {c1 : Nat} (l1 : x.f1.length ≤ c1) (g1 : (Kd.slice 5 (Kd.int .u8)).C w A1 x.f1.length x.f1) : k68.K w x [.slice A0 x.f0.length c0,.slice A1 x.f1.length c1]:=⟨[.slice A0 x.f0.length c0],[.slice A1 x.f1.length c1],rfl,⟨A0,c0,rfl,l0,g0⟩,⟨A1,c1,rfl,l1,g1⟩⟩
def rd_T68 (xs : List S68) (i : Int) : S68:=xs.getD i.toNat z68
theorem at_T68 {w : World} {A : Option Addr} {n : Nat} {xs : List S68} (h : Kd.C k68 w A n xs) (i : Int) (h0 : 0 ≤ i) (h1 : i < n) : ∃ ad A0 c0 A1 c1,A = some ad ∧ w.cell? (ad.add (i.toNat * 2)) = some (.slice A0 (rd_T68 xs i).f0.length c0) ∧ w.cell? ⟨(ad.add (i.toNat * 2)).block,(ad.add (i.toNat * 2)).off + 1,none⟩ = some (.slice A1 (rd_T68 xs i).f1.length c1) ∧ (rd_T68 xs i).f0.length ≤ c0 ∧ (Kd.int .u8).C w A0 (rd_T68 xs i).f0.length (rd_T68 xs i).f0 ∧ (rd_T68 xs i).f1.length ≤ c1 ∧ (Kd.slice 5 (Kd.int .u8)).C w A1 (rd_T68 xs i).f1.length (rd_T68 xs i).f1:=by
 obtain ⟨ad,c,e,_,hK,hc0⟩:=Kd.C_get h z68 i h0 h1
 have hc : ∀ j u,c[j]? = some u → w.cell? (ad.add (i.toNat * 2 + j)) = some u:=hc0
 obtain ⟨A0,c0,A1,c1,rfl,l0,g0,l1,g1⟩:=k68_open hK
 exact ⟨ad,A0,c0,A1,c1,e,hc 0 _ rfl,by rw [← add_field _ _ 1 (by omega)];exact hc 1 _ rfl,l0,g0,l1,g1⟩
def IsS115 (w0 W : World) (g : Nat) (f0 : List Int) (f1 : Int) (f2 : Bool) : Prop:=∃ A0 c0,W.heap[g]? = some (.cells #[.slice A0 f0.length c0,.int .i64 f1,.bool f2] 115 (0,0)) ∧ w0.heap.size ≤ g ∧ (f0.length ≤ c0 ∧ Kd.C (Kd.int .u8) w0 A0 f0.length f0)
theorem IsS115.grown {w0 W : World} {g : Nat} {f0 : List Int} {f1 : Int} {f2 : Bool} {W1 : World} {row : Option Nat} (h : IsS115 w0 W g f0 f1 f2) (hw : W.grownBy W1 row) (hne : some g ≠ row) : IsS115 w0 W1 g f0 f1 f2:=by
 obtain ⟨A0,c0,hb,hg,hr0⟩:=h
 exact ⟨A0,c0,blk_grown hb hw hne,hg,hr0⟩
theorem IsS115.below {w0 W : World} {g : Nat} {f0 : List Int} {f1 : Int} {f2 : Bool} {W1 : World} (h : IsS115 w0 W g f0 f1 f2) (hw : Below W.heap.size W W1) : IsS115 w0 W1 g f0 f1 f2:=h.grown (grown_of_below hw none) (by simp)
theorem IsS115.alloc {w0 W : World} {g : Nat} {f0 : List Int} {f1 : Int} {f2 : Bool} (h : IsS115 w0 W g f0 f1 f2) (o : Obj) : IsS115 w0 (W.alloc o) g f0 f1 f2:=h.below (below_alloc (Below.refl _ _) o)
theorem IsS115.drewN {w0 W : World} {g : Nat} {f0 : List Int} {f1 : Int} {f2 : Bool} (h : IsS115 w0 W g f0 f1 f2) (m : Nat) : IsS115 w0 (W.drewN m) g f0 f1 f2:=h
theorem IsS115.drew {w0 W : World} {g : Nat} {f0 : List Int} {f1 : Int} {f2 : Bool} (h : IsS115 w0 W g f0 f1 f2) : IsS115 w0 W.drew g f0 f1 f2:=h
theorem IsS115.apart {w0 W : World} {g : Nat} {f0 : List Int} {f1 : Int} {f2 : Bool} {α : Type} {d : Kd α} {e : Nat} {base : Nat} {ok : Nat → Prop} {v : Value} {xs : List α} (h : IsS115 w0 W g f0 f1 f2) (ho : d.R e W base ok v xs) (ht : ∀ q,q ∈ e :: d.E → q ≠ 115) : d.R e W base (fun k => ok k ∧ k ≠ g) v xs:=by
 obtain ⟨A0,c0,hb,hg,hr0⟩:=h
 exact Kd.R_types ho hb ht
theorem IsS115.ge {w0 W : World} {g : Nat} {f0 : List Int} {f1 : Int} {f2 : Bool} (h : IsS115 w0 W g f0 f1 f2) : w0.heap.size ≤ g:=by
 obtain ⟨A0,c0,hb,hg,hr0⟩:=h
 exact hg
theorem cellS115_0 {W : World} {g : Nat} {A0 : Option Addr} {c0 : Nat} {f0 : List Int} {f1 : Int} {f2 : Bool} (h : W.heap[g]? = some (.cells #[.slice A0 f0.length c0,.int .i64 f1,.bool f2] 115 (0,0))) : W.cell? ⟨g,0,none⟩ = some (.slice A0 f0.length c0):=(blk_cell h 0).trans rfl
theorem cellS115_1 {W : World} {g : Nat} {A0 : Option Addr} {c0 : Nat} {f0 : List Int} {f1 : Int} {f2 : Bool} (h : W.heap[g]? = some (.cells #[.slice A0 f0.length c0,.int .i64 f1,.bool f2] 115 (0,0))) : W.cell? ⟨g,1,none⟩ = some (.int .i64 f1):=(blk_cell h 1).trans rfl
theorem IsS115.set_1 {w0 W : World} {g : Nat} {f0 : List Int} {f1 : Int} {f2 : Bool} (h : IsS115 w0 W g f0 f1 f2) (x : Int) : IsS115 w0 (W.setCell ⟨g,1,none⟩ (.int .i64 x)) g f0 x f2:=by
 obtain ⟨A0,c0,hb,hg,hr0⟩:=h
 exact ⟨A0,c0,by simpa using blk_set hb 1 (.int .i64 x),hg,hr0⟩
theorem cellS115_2 {W : World} {g : Nat} {A0 : Option Addr} {c0 : Nat} {f0 : List Int} {f1 : Int} {f2 : Bool} (h : W.heap[g]? = some (.cells #[.slice A0 f0.length c0,.int .i64 f1,.bool f2] 115 (0,0))) : W.cell? ⟨g,2,none⟩ = some (.bool f2):=(blk_cell h 2).trans rfl
theorem IsS115.set_2 {w0 W : World} {g : Nat} {f0 : List Int} {f1 : Int} {f2 : Bool} (h : IsS115 w0 W g f0 f1 f2) (x : Bool) : IsS115 w0 (W.setCell ⟨g,2,none⟩ (.bool x)) g f0 f1 x:=by
 obtain ⟨A0,c0,hb,hg,hr0⟩:=h
 exact ⟨A0,c0,by simpa using blk_set hb 2 (.bool x),hg,hr0⟩
theorem IsS115.new (w0 W : World) (A0 : Option Addr) (c0 : Nat) (f0 : List Int) (f1 : Int) (f2 : Bool) (hB : Below w0.heap.size w0 W) (hr0 : f0.length ≤ c0 ∧ Kd.C (Kd.int .u8) w0 A0 f0.length f0) : IsS115 w0 (W.alloc (.cells #[.slice A0 f0.length c0,.int .i64 f1,.bool f2] 115)) W.heap.size f0 f1 f2:=⟨A0,c0,by simpa using heap_alloc_new W _,hB.size,hr0⟩
def spec_reader_over.f (s0_0 : List Int) (s0_1 : Int) (s0_2 : Bool) : Option (Bool × Int × Bool):=some (decide (s0_1 ≥ (s0_0.length : Int)),s0_1,s0_2)
theorem kA {w w1 : World} {g : Nat} {row : Option Nat} (h : KeepBut w w1 g row) (j : Nat) (u : Value) : KeepBut w (w1.setCell ⟨g,j,none⟩ u) g row:=KeepBut.set_ h j u
theorem kB {w W : World} {g : Nat} {row : Option Nat} (h : KeepBut w W g row) (m : Nat) : KeepBut w (W.drewN m) g row:=h
theorem kC {w W : World} {g : Nat} {row : Option Nat} (h : KeepBut w W g row) : KeepBut w W.drew g row:=h
theorem kD {w W : World} {g : Nat} (h : KeepBut w W g none) (o : Obj) : KeepBut w (W.alloc o) g none:=keep_alloc h o
theorem bA {w W : World} (h : Below w.heap.size w W) (o : Obj) : Below w.heap.size w (W.alloc o):=below_alloc h o
theorem bB {B : Nat} {w W : World} (h : Below B w W) (n : Nat) : Below B w (W.drewN n):=pw_below_drewN h n
theorem bC {B : Nat} {w W : World} (h : Below B w W) : Below B w W.drew:=below_drew1 h
theorem bD {w W : World} {g j : Nat} {v : Value} (h : Below w.heap.size w W) (hg : w.heap.size ≤ g) : Below w.heap.size w (W.setCell ⟨g,j,none⟩ v):=below_set h hg
theorem sA {w0 W : World} {g : Nat} {f0 : List Int} {f1 : Int} {f2 : Bool} (h : IsS115 w0 W g f0 f1 f2) (o : Obj) : IsS115 w0 (W.alloc o) g f0 f1 f2:=h.alloc o
theorem sB {w0 W : World} {g : Nat} {f0 : List Int} {f1 : Int} {f2 : Bool} (h : IsS115 w0 W g f0 f1 f2) (m : Nat) : IsS115 w0 (W.drewN m) g f0 f1 f2:=h
theorem sC {w0 W : World} {g : Nat} {f0 : List Int} {f1 : Int} {f2 : Bool} (h : IsS115 w0 W g f0 f1 f2) : IsS115 w0 W.drew g f0 f1 f2:=h
theorem sD {w0 W : World} {g : Nat} {f0 : List Int} {f1 : Int} {f2 : Bool} (h : IsS115 w0 W g f0 f1 f2) (x : Int) : IsS115 w0 (W.setCell ⟨g,1,none⟩ (.int .i64 x)) g f0 x f2:=h.set_1 x
theorem sE {w0 W : World} {g : Nat} {f0 : List Int} {f1 : Int} {f2 : Bool} (h : IsS115 w0 W g f0 f1 f2) (x : Bool) : IsS115 w0 (W.setCell ⟨g,2,none⟩ (.bool x)) g f0 f1 x:=h.set_2 x
theorem spec_reader_over.calls (g : Nat) (s0_0 : List Int) (s0_1 : Int) (s0_2 : Bool) (r1 : Bool) (r2 : Int) (r3 : Bool) (w0 w : World) (hI : IsS115 w0 w g s0_0 s0_1 s0_2) (hB : Below w0.heap.size w0 w) (h : spec_reader_over.f s0_0 s0_1 s0_2 = some (r1,r2,r3)) :
  Calls Tryz.prog 67 #[.pointer (some ⟨g,0,none⟩)] w fun e w' => e = .returned (.bool r1) ∧ IsS115 w0 w' g s0_0 r2 r3 ∧ Below w0.heap.size w0 w' ∧ KeepBut w w' g none:=by
 have HI0:=Aside0.mk hI
 have HK:=Aside0.mk (KeepBut.refl w g none)
 have HL:=Aside0.mk hB.size
 clear hI
 have HW0:=Aside0.mk hB.size
 have HB:=Aside0.mk hB
 clear hB
 have H : (some (decide (s0_1 ≥ (s0_0.length : Int)),s0_1,s0_2)) = some (r1,r2,r3):=h
 clear h
 simp only [Option.some.injEq,Prod.mk.injEq] at H
 obtain ⟨rfl,rfl,rfl⟩:=H
 obtain ⟨ASz2_0,cSz2_0,HGz2,hgz2,HSz2_0⟩:=HI0.out
 have hcz2_0:=cellS115_0 HGz2
 have hcz2_1:=cellS115_1 HGz2
 have hcz2_2:=cellS115_2 HGz2
 have hfz2_1:=blk_frozen HGz2 1
 have hfz2_2:=blk_frozen HGz2 2
 clear HGz2 hgz2
 go_enter Tryz.func67,Tryz.ntmps67
 go_wp2
 repeat (go_quiet (fail);try go_wp2)
 go_ret
 exact ⟨by first|rfl|(simp [errW_none,errW_some] <;> rfl)|(simp [*,errW_none,errW_some] <;> rfl),by repeat (first|(with_reducible first|exact HI0.out|apply sA|apply sB|apply sC|apply sD|apply sE)|exact HI0.out),by repeat (first|(with_reducible first|exact HB.out|apply bA|apply bB|apply bC|refine bD ?_ (IsS115.ge HI0.out))|exact HB.out),by repeat (first|(with_reducible first|exact HK.out|apply kA|apply kB|apply kC|apply kD)|exact HK.out)⟩
def spec_reader_peek.f (s0_0 : List Int) (s0_1 : Int) (s0_2 : Bool) (a1 : Int) : Option (Int × Int × Bool):=if (wrap64 (s0_1 + a1)) ≥ (s0_0.length : Int) then (some (0,s0_1,s0_2)) else (if 0 ≤ (wrap64 (s0_1 + a1)) then (if (wrap64 (s0_1 + a1)) < (s0_0.length : Int) then (some (rd s0_0 (wrap64 (s0_1 + a1)),s0_1,s0_2)) else (none)) else (none))
theorem spec_reader_peek.calls (g : Nat) (s0_0 : List Int) (s0_1 : Int) (s0_2 : Bool) (a1 : Int) (r1 : Int) (r2 : Int) (r3 : Bool) (w0 w : World) (hI : IsS115 w0 w g s0_0 s0_1 s0_2) (hB : Below w0.heap.size w0 w) (h : spec_reader_peek.f s0_0 s0_1 s0_2 a1 = some (r1,r2,r3)) :
  Calls Tryz.prog 104 #[.pointer (some ⟨g,0,none⟩),.int .i64 a1] w fun e w' => e = .returned (.int .u8 r1) ∧ IsS115 w0 w' g s0_0 r2 r3 ∧ Below w0.heap.size w0 w' ∧ KeepBut w w' g none:=by
 have HI0:=Aside0.mk hI
 have HK:=Aside0.mk (KeepBut.refl w g none)
 have HL:=Aside0.mk hB.size
 clear hI
 have HW0:=Aside0.mk hB.size
 have HB:=Aside0.mk hB
 clear hB
 have H : (if (wrap64 (s0_1 + a1)) ≥ (s0_0.length : Int) then (some (0,s0_1,s0_2)) else (if 0 ≤ (wrap64 (s0_1 + a1)) then (if (wrap64 (s0_1 + a1)) < (s0_0.length : Int) then (some (rd s0_0 (wrap64 (s0_1 + a1)),s0_1,s0_2)) else (none)) else (none))) = some (r1,r2,r3):=h
 clear h
 by_cases c3 : (wrap64 (s0_1 + a1)) ≥ (s0_0.length : Int)
 ·rw [if_pos c3] at H
  have c3b0 : decide ((s0_0.length : Int) ≤ (wrap64 (s0_1 + a1))) = true:=decide_eq_true c3
  clear c3
  simp only [Option.some.injEq,Prod.mk.injEq] at H
  obtain ⟨rfl,rfl,rfl⟩:=H
  obtain ⟨ASz4_0,cSz4_0,HGz4,hgz4,HSz4_0⟩:=HI0.out
  have hcz4_0:=cellS115_0 HGz4
  have hcz4_1:=cellS115_1 HGz4
  have hcz4_2:=cellS115_2 HGz4
  have hfz4_1:=blk_frozen HGz4 1
  have hfz4_2:=blk_frozen HGz4 2
  clear HGz4 hgz4
  go_enter Tryz.func104,Tryz.ntmps104
  go_wp2
  repeat (go_quiet (fail);try go_wp2)
  go_ret
  exact ⟨by first|rfl|(simp [errW_none,errW_some] <;> rfl)|(simp [*,errW_none,errW_some] <;> rfl),by repeat (first|(with_reducible first|exact HI0.out|apply sA|apply sB|apply sC|apply sD|apply sE)|exact HI0.out),by repeat (first|(with_reducible first|exact HB.out|apply bA|apply bB|apply bC|refine bD ?_ (IsS115.ge HI0.out))|exact HB.out),by repeat (first|(with_reducible first|exact HK.out|apply kA|apply kB|apply kC|apply kD)|exact HK.out)⟩
 ·rw [if_neg c3] at H
  have c3b0 : decide ((s0_0.length : Int) ≤ (wrap64 (s0_1 + a1))) = false:=decide_eq_false c3
  clear c3
  obtain ⟨ji5,hji5⟩ : ∃ j_ : Int,(wrap64 (s0_1 + a1)) = j_:=⟨_,rfl⟩
  replace H : (if 0 ≤ (ji5) then (if (ji5) < (s0_0.length : Int) then (some (rd s0_0 (ji5),s0_1,s0_2)) else (none)) else (none)) = some (r1,r2,r3):=by first|(rw [hji5] at H;exact H)|(simp only [hji5] at H ⊢;exact H)
  (try rw [hji5] at c3b0)
  have hji5w : (IntKind.i64.wrap (s0_1 + a1)) = ji5:=(i64_w _).trans hji5
  by_cases c6 : 0 ≤ (ji5)
  ·rw [if_pos c6] at H
   have c6b0 : decide (0 ≤ (ji5)) = true:=decide_eq_true c6
   clear c6
   by_cases c7 : (ji5) < (s0_0.length : Int)
   ·rw [if_pos c7] at H
    have c7b0 : decide ((ji5) < (s0_0.length : Int)) = true:=decide_eq_true c7
    clear c7
    simp only [Option.some.injEq,Prod.mk.injEq] at H
    obtain ⟨rfl,rfl,rfl⟩:=H
    obtain ⟨ASz8_0,cSz8_0,HGz8,hgz8,HSz8_0⟩:=HI0.out
    have hcz8_0:=cellS115_0 HGz8
    have hcz8_1:=cellS115_1 HGz8
    have hcz8_2:=cellS115_2 HGz8
    have hfz8_1:=blk_frozen HGz8 1
    have hfz8_2:=blk_frozen HGz8 2
    clear HGz8 hgz8
    have p178 : 0 ≤ ((ji5) : Int):=of_decide_eq_true (by first|(with_reducible assumption)|assumption)
    have q178 : (ji5) < (s0_0.length : Int):=of_decide_eq_true (by first|(with_reducible assumption)|assumption)
    obtain ⟨ad178,e178,hx178_0⟩:=Kd.at_int HSz8_0.2 (ji5) p178 q178
    cases e178
    replace hx178_0:=pw_cell_below HB.out hx178_0
    replace p178:=eq_true p178
    replace q178:=eq_true q178
    go_enter Tryz.func104,Tryz.ntmps104
    go_wp2
    repeat (go_quiet (fail);try go_wp2)
    go_ret
    exact ⟨by first|rfl|(simp [errW_none,errW_some] <;> rfl)|(simp only [← hji5];first|rfl|(simp [errW_none,errW_some] <;> rfl))|(simp [*,errW_none,errW_some] <;> rfl),by repeat (first|(with_reducible first|exact HI0.out|apply sA|apply sB|apply sC|apply sD|apply sE)|exact HI0.out),by repeat (first|(with_reducible first|exact HB.out|apply bA|apply bB|apply bC|refine bD ?_ (IsS115.ge HI0.out))|exact HB.out),by repeat (first|(with_reducible first|exact HK.out|apply kA|apply kB|apply kC|apply kD)|exact HK.out)⟩
   ·rw [if_neg c7] at H
    exact absurd H (by simp)
  ·rw [if_neg c6] at H
   exact absurd H (by simp)
def spec_IsBlank.f (a0 : Int) : Option (Bool):=if a0 = 32 then (some true) else (if a0 = 10 then (some true) else (if a0 = 13 then (some true) else (if a0 = 9 then (some true) else (some (a0 == 12)))))
theorem spec_IsBlank.calls (a0 : Int) (r : Bool) (w : World) (h : spec_IsBlank.f a0 = some r) :
  Calls Tryz.prog 105 #[.int .u8 a0] w fun e w' => e = .returned (.bool r) ∧ Drawn0 w w':=by
 have H : (if a0 = 32 then (some true) else (if a0 = 10 then (some true) else (if a0 = 13 then (some true) else (if a0 = 9 then (some true) else (some (a0 == 12)))))) = some r:=h
 clear h
 by_cases c2 : a0 = 32
 ·rw [if_pos c2] at H
  have c2b0 : (a0 == 32) = true:=beq_iff_eq.mpr c2
  have c2b1 : (a0 != 32) = false:=bne_eq_false_iff_eq.mpr c2
  clear c2
  obtain rfl:=Option.some.inj H
  go_enter Tryz.func105,Tryz.ntmps105
  go_wp2
  go_ret
  exact ⟨by first|rfl|(simp;done)|(simp [*];done),by repeat (first|exact Drawn0.refl _|apply Drawn0.step)⟩
 ·rw [if_neg c2] at H
  have c2b0 : (a0 == 32) = false:=beq_eq_false_iff_ne.mpr c2
  have c2b1 : (a0 != 32) = true:=bne_iff_ne.mpr c2
  by_cases c3 : a0 = 10
  ·rw [if_pos c3] at H
   have c3b0 : (a0 == 10) = true:=beq_iff_eq.mpr c3
   have c3b1 : (a0 != 10) = false:=bne_eq_false_iff_eq.mpr c3
   clear c3
   obtain rfl:=Option.some.inj H
   go_enter Tryz.func105,Tryz.ntmps105
   go_wp2
   go_ret
   exact ⟨by first|rfl|(simp;done)|(simp [*];done),by repeat (first|exact Drawn0.refl _|apply Drawn0.step)⟩
  ·rw [if_neg c3] at H
   have c3b0 : (a0 == 10) = false:=beq_eq_false_iff_ne.mpr c3
   have c3b1 : (a0 != 10) = true:=bne_iff_ne.mpr c3
   by_cases c4 : a0 = 13
   ·rw [if_pos c4] at H
    have c4b0 : (a0 == 13) = true:=beq_iff_eq.mpr c4
    have c4b1 : (a0 != 13) = false:=bne_eq_false_iff_eq.mpr c4
    clear c4
    obtain rfl:=Option.some.inj H
    go_enter Tryz.func105,Tryz.ntmps105
    go_wp2
    go_ret
    exact ⟨by first|rfl|(simp;done)|(simp [*];done),by repeat (first|exact Drawn0.refl _|apply Drawn0.step)⟩
   ·rw [if_neg c4] at H
    have c4b0 : (a0 == 13) = false:=beq_eq_false_iff_ne.mpr c4
    have c4b1 : (a0 != 13) = true:=bne_iff_ne.mpr c4
    by_cases c5 : a0 = 9
    ·rw [if_pos c5] at H
     have c5b0 : (a0 == 9) = true:=beq_iff_eq.mpr c5
     have c5b1 : (a0 != 9) = false:=bne_eq_false_iff_eq.mpr c5
     clear c5
     obtain rfl:=Option.some.inj H
     go_enter Tryz.func105,Tryz.ntmps105
     go_wp2
     go_ret
     exact ⟨by first|rfl|(simp;done)|(simp [*];done),by repeat (first|exact Drawn0.refl _|apply Drawn0.step)⟩
    ·rw [if_neg c5] at H
     have c5b0 : (a0 == 9) = false:=beq_eq_false_iff_ne.mpr c5
     have c5b1 : (a0 != 9) = true:=bne_iff_ne.mpr c5
     obtain rfl:=Option.some.inj H
     go_enter Tryz.func105,Tryz.ntmps105
     go_wp2
     go_ret
     exact ⟨by first|rfl|(simp;done)|(simp [*];done),by repeat (first|exact Drawn0.refl _|apply Drawn0.step)⟩
def spec_reader_blanks.l0 : Nat → List Int → Int → Bool → Option (Int × Bool)
 | 0,_,_,_ => none
 | k + 1,x1000,x1001,x1002 => (spec_reader_peek.f x1000 x1001 x1002 0).bind fun bt179 => ((spec_IsBlank.f bt179.1).bind fun t182 => (if t182 = true then (spec_reader_blanks.l0 k x1000 (wrap64 (bt179.2.1 + 1)) bt179.2.2) else (some (bt179.2.1,bt179.2.2))))
def spec_reader_blanks.f (k : Nat) (s0_0 : List Int) (s0_1 : Int) (s0_2 : Bool) : Option (Int × Bool):=spec_reader_blanks.l0 k s0_0 s0_1 s0_2
theorem spec_reader_blanks.calls (k : Nat) (g : Nat) (s0_0 : List Int) (s0_1 : Int) (s0_2 : Bool) (r1 : Int) (r2 : Bool) (w0 w : World) (hI : IsS115 w0 w g s0_0 s0_1 s0_2) (hB : Below w0.heap.size w0 w) (h : spec_reader_blanks.f k s0_0 s0_1 s0_2 = some (r1,r2)) :
  Calls Tryz.prog 106 #[.pointer (some ⟨g,0,none⟩)] w fun e w' => e = .returned (.tuple #[]) ∧ IsS115 w0 w' g s0_0 r1 r2 ∧ Below w0.heap.size w0 w' ∧ KeepBut w w' g none:=by
 have HI0:=Aside0.mk hI
 have HK:=Aside0.mk (KeepBut.refl w g none)
 have HL:=Aside0.mk hB.size
 clear hI
 have HW0:=Aside0.mk hB.size
 have HB:=Aside0.mk hB
 clear hB
 have H : (spec_reader_blanks.l0 k s0_0 s0_1 s0_2) = some (r1,r2):=h
 clear h
 have H':=Aside0.mk H
 clear H
 go_enter Tryz.func106,Tryz.ntmps106
 go_wp2
 go_loopg [] k (fun kq w' => ∃ (x1001_1 : Int) (x1002_1 : Bool),Aside0 (spec_reader_blanks.l0 kq s0_0 x1001_1 x1002_1 = some (r1,r2)) ∧ Aside0 (kq ≤ k) ∧ Aside0 (IsS115 w0 w' g s0_0 x1001_1 x1002_1) ∧ Aside0 (KeepBut w w' g none) ∧ Aside0 (Below w0.heap.size w0 w'))
 case atStart => exact ⟨(s0_1),(s0_2),H',⟨Nat.le_refl _⟩,⟨by repeat (first|(with_reducible first|exact HI0.out|apply sA|apply sB|apply sC|apply sD|apply sE)|exact HI0.out)⟩,⟨by repeat (first|(with_reducible first|exact HK.out|apply kA|apply kB|apply kC|apply kD)|exact HK.out)⟩,⟨by repeat (first|(with_reducible first|exact HB.out|apply bA|apply bB|apply bC|refine bD ?_ (IsS115.ge HI0.out))|exact HB.out)⟩⟩
 case round =>
  clear H'
  try clear c1
  obtain ⟨x1001_1,x1002_1,HA,HK1,HI0,HK,HB⟩:=hrel
  cases gk with
  | zero => exact absurd HA.out (by simp [spec_reader_blanks.l0])
  | succ k1 =>
   have H:=HA.out
   clear HA
   simp only [spec_reader_blanks.l0] at H
   replace H:=Option.bind_eq_some_iff.mp H
   obtain ⟨⟨t179,t180,t181⟩,A20,H⟩:=H
   replace H : ((spec_IsBlank.f t179).bind fun t182 => (if t182 = true then (spec_reader_blanks.l0 k1 s0_0 (wrap64 (t180 + 1)) t181) else (some (t180,t181)))) = some (r1,r2):=H
   have A2:=Aside0.mk A20
   clear A20
   replace H:=Option.bind_eq_some_iff.mp H
   obtain ⟨t182,A30,H⟩:=H
   replace H : (if t182 = true then (spec_reader_blanks.l0 k1 s0_0 (wrap64 (t180 + 1)) t181) else (some (t180,t181))) = some (r1,r2):=H
   have A3:=Aside0.mk A30
   clear A30
   by_cases c4 : t182 = true
   ·subst c4
    have H1 : (spec_reader_blanks.l0 k1 s0_0 (wrap64 (t180 + 1)) t181) = some (r1,r2):=by rw [if_pos rfl] at H;exact H
    clear H
    have H:=H1
    clear H1
    have H':=Aside0.mk H
    clear H
    go_wp2_with (first|((with_reducible refine gate_callee (f:=104) rfl ?_);refine goesL_ (some 3) rfl rfl Tryz.func104 (by kernel_rfl) rfl #[.pointer (some ⟨g,0,none⟩),.int .i64 0] rfl (by (try simp only [List.map_toArray,List.map_cons,List.map_nil]);first|done|rfl|(simp only [List.length_drop,List.length_take];rfl)) ?_;(with_reducible refine (spec_reader_peek.calls g s0_0 x1001_1 x1002_1 0 t179 t180 t181 w0 _ ?side1 ?side2 A2.out).mono ?_);(case side1 => repeat (first|(with_reducible first|exact HI0.out|apply sA|apply sB|apply sC|apply sD|apply sE)|exact HI0.out));(case side2 => repeat (first|(with_reducible first|exact HB.out|apply bA|apply bB|apply bC|refine bD ?_ (IsS115.ge HI0.out))|exact HB.out));rintro e w5 ⟨rfl,hi,hb,hk⟩;refine ⟨_,rfl,?_⟩;have n0_:=Aside0.mk (KeepBut.trans (by repeat (first|(with_reducible first|exact HK.out|apply kA|apply kB|apply kC|apply kD)|exact HK.out)) hk (.inl rfl));have n1_:=Aside0.mk (hb);have n2_:=Aside0.mk (hi);clear HK;clear HB;clear HI0;have HK:=n0_;have HB:=n1_;have HI0:=n2_;clear n0_ n1_ n2_;(try clear hb);(try clear hb2);(try clear hk);(try clear hi))|((with_reducible refine gate_callee (f:=105) rfl ?_);refine goesL_ (some 4) rfl rfl Tryz.func105 (by kernel_rfl) rfl #[.int .u8 t179] rfl (by (try simp only [List.map_toArray,List.map_cons,List.map_nil]);first|done|rfl|(simp only [List.length_drop,List.length_take];rfl)) ?_;(with_reducible refine (spec_IsBlank.calls t179 true _ A3.out).mono ?_);rintro e w' ⟨rfl,⟨nd,rfl⟩⟩;refine ⟨_,rfl,?_⟩;(try (rw [drewN_self w5];generalize hq_ : World.drewN w5 _ = w5;have n0_ : Aside0 (IsS115 w0 w5 g s0_0 t180 t181):=⟨by rw [← hq_];exact (by repeat (first|(with_reducible first|exact HI0.out|apply sA|apply sB|apply sC|apply sD|apply sE)|exact HI0.out))⟩;have n1_ : Aside0 (KeepBut w w5 g none):=⟨by rw [← hq_];exact (by repeat (first|(with_reducible first|exact HK.out|apply kA|apply kB|apply kC|apply kD)|exact HK.out))⟩;have n2_ : Aside0 (Below w0.heap.size w0 w5):=⟨by rw [← hq_];exact (by repeat (first|(with_reducible first|exact HB.out|apply bA|apply bB|apply bC|refine bD ?_ (IsS115.ge HI0.out))|exact HB.out))⟩;clear HI0 HK HB hq_;have HI0:=n0_;have HK:=n1_;have HB:=n2_;clear n0_ n1_ n2_));obtain ⟨ASz6_0,cSz6_0,HGz6,hgz6,HSz6_0⟩:=HI0.out;have hcz6_0:=cellS115_0 HGz6;have hcz6_1:=cellS115_1 HGz6;have hcz6_2:=cellS115_2 HGz6;have hfz6_1:=blk_frozen HGz6 1;have hfz6_2:=blk_frozen HGz6 2;clear HGz6 hgz6))
    go_roundg k1
    case measure => have:=HK1.out;omega
    case rel => exact ⟨(wrap64 (t180 + 1)),(t181),H',⟨by have:=HK1.out;omega⟩,⟨by repeat (first|(with_reducible first|exact HI0.out|apply sA|apply sB|apply sC|apply sD|apply sE)|exact HI0.out)⟩,⟨by repeat (first|(with_reducible first|exact HK.out|apply kA|apply kB|apply kC|apply kD)|exact HK.out)⟩,⟨by repeat (first|(with_reducible first|exact HB.out|apply bA|apply bB|apply bC|refine bD ?_ (IsS115.ge HI0.out))|exact HB.out)⟩⟩
   ·replace c4:=Bool.eq_false_iff.mpr c4
    subst c4
    have H1 : (some (t180,t181)) = some (r1,r2):=by rw [if_neg (show ¬ (false = true) by decide)] at H;exact H
    clear H
    have H:=H1
    clear H1
    simp only [Option.some.injEq,Prod.mk.injEq] at H
    obtain ⟨rfl,rfl⟩:=H
    go_wp2_with (first|((with_reducible refine gate_callee (f:=104) rfl ?_);refine goesL_ (some 3) rfl rfl Tryz.func104 (by kernel_rfl) rfl #[.pointer (some ⟨g,0,none⟩),.int .i64 0] rfl (by (try simp only [List.map_toArray,List.map_cons,List.map_nil]);first|done|rfl|(simp only [List.length_drop,List.length_take];rfl)) ?_;(with_reducible refine (spec_reader_peek.calls g s0_0 x1001_1 x1002_1 0 t179 t180 t181 w0 _ ?side1 ?side2 A2.out).mono ?_);(case side1 => repeat (first|(with_reducible first|exact HI0.out|apply sA|apply sB|apply sC|apply sD|apply sE)|exact HI0.out));(case side2 => repeat (first|(with_reducible first|exact HB.out|apply bA|apply bB|apply bC|refine bD ?_ (IsS115.ge HI0.out))|exact HB.out));rintro e w7 ⟨rfl,hi,hb,hk⟩;refine ⟨_,rfl,?_⟩;have n0_:=Aside0.mk (KeepBut.trans (by repeat (first|(with_reducible first|exact HK.out|apply kA|apply kB|apply kC|apply kD)|exact HK.out)) hk (.inl rfl));have n1_:=Aside0.mk (hb);have n2_:=Aside0.mk (hi);clear HK;clear HB;clear HI0;have HK:=n0_;have HB:=n1_;have HI0:=n2_;clear n0_ n1_ n2_;(try clear hb);(try clear hb2);(try clear hk);(try clear hi))|((with_reducible refine gate_callee (f:=105) rfl ?_);refine goesL_ (some 4) rfl rfl Tryz.func105 (by kernel_rfl) rfl #[.int .u8 t179] rfl (by (try simp only [List.map_toArray,List.map_cons,List.map_nil]);first|done|rfl|(simp only [List.length_drop,List.length_take];rfl)) ?_;(with_reducible refine (spec_IsBlank.calls t179 false _ A3.out).mono ?_);rintro e w' ⟨rfl,⟨nd,rfl⟩⟩;refine ⟨_,rfl,?_⟩))
    first|go_end0|((try simp only [Exit.inBlock,Exit.then]);refine bodyPost_ret (results_none rfl _ _ _) rfl ?_)
    exact ⟨by first|rfl|(simp [errW_none,errW_some] <;> rfl)|(simp [*,errW_none,errW_some] <;> rfl),by repeat (first|(with_reducible first|exact HI0.out|apply sA|apply sB|apply sC|apply sD|apply sE)|exact HI0.out),by repeat (first|(with_reducible first|exact HB.out|apply bA|apply bB|apply bC|refine bD ?_ (IsS115.ge HI0.out))|exact HB.out),by repeat (first|(with_reducible first|exact HK.out|apply kA|apply kB|apply kC|apply kD)|exact HK.out)⟩
def spec_isNewline.f (a0 : Int) : Option (Bool):=if a0 = 10 then (some true) else (if a0 = 13 then (some true) else (some (a0 == 12)))
theorem spec_isNewline.calls (a0 : Int) (r : Bool) (w : World) (h : spec_isNewline.f a0 = some r) :
  Calls Tryz.prog 134 #[.int .u8 a0] w fun e w' => e = .returned (.bool r) ∧ Drawn0 w w':=by
 have H : (if a0 = 10 then (some true) else (if a0 = 13 then (some true) else (some (a0 == 12)))) = some r:=h
 clear h
 by_cases c2 : a0 = 10
 ·rw [if_pos c2] at H
  have c2b0 : (a0 == 10) = true:=beq_iff_eq.mpr c2
  have c2b1 : (a0 != 10) = false:=bne_eq_false_iff_eq.mpr c2
  clear c2
  obtain rfl:=Option.some.inj H
  go_enter Tryz.func134,Tryz.ntmps134
  go_wp2
  go_ret
  exact ⟨by first|rfl|(simp;done)|(simp [*];done),by repeat (first|exact Drawn0.refl _|apply Drawn0.step)⟩
 ·rw [if_neg c2] at H
  have c2b0 : (a0 == 10) = false:=beq_eq_false_iff_ne.mpr c2
  have c2b1 : (a0 != 10) = true:=bne_iff_ne.mpr c2
  by_cases c3 : a0 = 13
  ·rw [if_pos c3] at H
   have c3b0 : (a0 == 13) = true:=beq_iff_eq.mpr c3
   have c3b1 : (a0 != 13) = false:=bne_eq_false_iff_eq.mpr c3
   clear c3
   obtain rfl:=Option.some.inj H
   go_enter Tryz.func134,Tryz.ntmps134
   go_wp2
   go_ret
   exact ⟨by first|rfl|(simp;done)|(simp [*];done),by repeat (first|exact Drawn0.refl _|apply Drawn0.step)⟩
  ·rw [if_neg c3] at H
   have c3b0 : (a0 == 13) = false:=beq_eq_false_iff_ne.mpr c3
   have c3b1 : (a0 != 13) = true:=bne_iff_ne.mpr c3
   obtain rfl:=Option.some.inj H
   go_enter Tryz.func134,Tryz.ntmps134
   go_wp2
   go_ret
   exact ⟨by first|rfl|(simp;done)|(simp [*];done),by repeat (first|exact Drawn0.refl _|apply Drawn0.step)⟩
def spec_reader_escapes.f (s0_0 : List Int) (s0_1 : Int) (s0_2 : Bool) (a1 : Int) : Option (Bool × Int × Bool):=(spec_reader_peek.f s0_0 s0_1 s0_2 a1).bind fun bt183 => (if bt183.1 = 92 then (if (wrap64 ((wrap64 (bt183.2.1 + a1)) + 1)) ≥ (s0_0.length : Int) then (some (false,bt183.2.1,true)) else ((spec_reader_peek.f s0_0 bt183.2.1 bt183.2.2 (wrap64 (a1 + 1))).bind fun bt186 => ((spec_isNewline.f bt186.1).bind fun t189 => (some (!t189,bt186.2.1,bt186.2.2))))) else (some (false,bt183.2.1,bt183.2.2)))
theorem spec_reader_escapes.calls (g : Nat) (s0_0 : List Int) (s0_1 : Int) (s0_2 : Bool) (a1 : Int) (r1 : Bool) (r2 : Int) (r3 : Bool) (w0 w : World) (hI : IsS115 w0 w g s0_0 s0_1 s0_2) (hB : Below w0.heap.size w0 w) (h : spec_reader_escapes.f s0_0 s0_1 s0_2 a1 = some (r1,r2,r3)) :
  Calls Tryz.prog 135 #[.pointer (some ⟨g,0,none⟩),.int .i64 a1] w fun e w' => e = .returned (.bool r1) ∧ IsS115 w0 w' g s0_0 r2 r3 ∧ Below w0.heap.size w0 w' ∧ KeepBut w w' g none:=by
 have HI0:=Aside0.mk hI
 have HK:=Aside0.mk (KeepBut.refl w g none)
 have HL:=Aside0.mk hB.size
 clear hI
 have HW0:=Aside0.mk hB.size
 have HB:=Aside0.mk hB
 clear hB
 have H : ((spec_reader_peek.f s0_0 s0_1 s0_2 a1).bind fun bt183 => (if bt183.1 = 92 then (if (wrap64 ((wrap64 (bt183.2.1 + a1)) + 1)) ≥ (s0_0.length : Int) then (some (false,bt183.2.1,true)) else ((spec_reader_peek.f s0_0 bt183.2.1 bt183.2.2 (wrap64 (a1 + 1))).bind fun bt186 => ((spec_isNewline.f bt186.1).bind fun t189 => (some (!t189,bt186.2.1,bt186.2.2))))) else (some (false,bt183.2.1,bt183.2.2)))) = some (r1,r2,r3):=h
 clear h
 replace H:=Option.bind_eq_some_iff.mp H
 obtain ⟨⟨t183,t184,t185⟩,A30,H⟩:=H
 replace H : (if t183 = 92 then (if (wrap64 ((wrap64 (t184 + a1)) + 1)) ≥ (s0_0.length : Int) then (some (false,t184,true)) else ((spec_reader_peek.f s0_0 t184 t185 (wrap64 (a1 + 1))).bind fun bt186 => ((spec_isNewline.f bt186.1).bind fun t189 => (some (!t189,bt186.2.1,bt186.2.2))))) else (some (false,t184,t185))) = some (r1,r2,r3):=H
 have A3:=Aside0.mk A30
 clear A30
 by_cases c4 : t183 = 92
 ·rw [if_pos c4] at H
  have c4b0 : (t183 == 92) = true:=beq_iff_eq.mpr c4
  have c4b1 : (t183 != 92) = false:=bne_eq_false_iff_eq.mpr c4
  clear c4
  by_cases c5 : (wrap64 ((wrap64 (t184 + a1)) + 1)) ≥ (s0_0.length : Int)
  ·rw [if_pos c5] at H
   have c5b0 : decide ((s0_0.length : Int) ≤ (wrap64 ((wrap64 (t184 + a1)) + 1))) = true:=decide_eq_true c5
   clear c5
   simp only [Option.some.injEq,Prod.mk.injEq] at H
   obtain ⟨rfl,rfl,rfl⟩:=H
   go_enter Tryz.func135,Tryz.ntmps135
   go_wp2_with (first|(go_at_call 104;(with_reducible refine (spec_reader_peek.calls g s0_0 s0_1 s0_2 a1 t183 t184 t185 w0 _ ?side1 ?side2 A3.out).mono ?_);(case side1 => repeat (first|(with_reducible first|exact HI0.out|apply sA|apply sB|apply sC|apply sD|apply sE)|exact HI0.out));(case side2 => repeat (first|(with_reducible first|exact HB.out|apply bA|apply bB|apply bC|refine bD ?_ (IsS115.ge HI0.out))|exact HB.out));rintro e w6 ⟨rfl,hi,hb,hk⟩;have n0_:=Aside0.mk (KeepBut.trans (by repeat (first|(with_reducible first|exact HK.out|apply kA|apply kB|apply kC|apply kD)|exact HK.out)) hk (.inl rfl));have n1_:=Aside0.mk (hb);have n2_:=Aside0.mk (hi);clear HK;clear HB;clear HI0;have HK:=n0_;have HB:=n1_;have HI0:=n2_;clear n0_ n1_ n2_;(try clear hb);(try clear hb2);(try clear hk);(try clear hi);obtain ⟨ASz7_0,cSz7_0,HGz7,hgz7,HSz7_0⟩:=HI0.out;have hcz7_0:=cellS115_0 HGz7;have hcz7_1:=cellS115_1 HGz7;have hcz7_2:=cellS115_2 HGz7;have hfz7_1:=blk_frozen HGz7 1;have hfz7_2:=blk_frozen HGz7 2;clear HGz7 hgz7))
   repeat (go_quiet (first|(go_at_call 104;(with_reducible refine (spec_reader_peek.calls g s0_0 s0_1 s0_2 a1 t183 t184 t185 w0 _ ?side1 ?side2 A3.out).mono ?_);(case side1 => repeat (first|(with_reducible first|exact HI0.out|apply sA|apply sB|apply sC|apply sD|apply sE)|exact HI0.out));(case side2 => repeat (first|(with_reducible first|exact HB.out|apply bA|apply bB|apply bC|refine bD ?_ (IsS115.ge HI0.out))|exact HB.out));rintro e w6 ⟨rfl,hi,hb,hk⟩;have n0_:=Aside0.mk (KeepBut.trans (by repeat (first|(with_reducible first|exact HK.out|apply kA|apply kB|apply kC|apply kD)|exact HK.out)) hk (.inl rfl));have n1_:=Aside0.mk (hb);have n2_:=Aside0.mk (hi);clear HK;clear HB;clear HI0;have HK:=n0_;have HB:=n1_;have HI0:=n2_;clear n0_ n1_ n2_;(try clear hb);(try clear hb2);(try clear hk);(try clear hi);obtain ⟨ASz7_0,cSz7_0,HGz7,hgz7,HSz7_0⟩:=HI0.out;have hcz7_0:=cellS115_0 HGz7;have hcz7_1:=cellS115_1 HGz7;have hcz7_2:=cellS115_2 HGz7;have hfz7_1:=blk_frozen HGz7 1;have hfz7_2:=blk_frozen HGz7 2;clear HGz7 hgz7));try go_wp2_with (first|(go_at_call 104;(with_reducible refine (spec_reader_peek.calls g s0_0 s0_1 s0_2 a1 t183 t184 t185 w0 _ ?side1 ?side2 A3.out).mono ?_);(case side1 => repeat (first|(with_reducible first|exact HI0.out|apply sA|apply sB|apply sC|apply sD|apply sE)|exact HI0.out));(case side2 => repeat (first|(with_reducible first|exact HB.out|apply bA|apply bB|apply bC|refine bD ?_ (IsS115.ge HI0.out))|exact HB.out));rintro e w6 ⟨rfl,hi,hb,hk⟩;have n0_:=Aside0.mk (KeepBut.trans (by repeat (first|(with_reducible first|exact HK.out|apply kA|apply kB|apply kC|apply kD)|exact HK.out)) hk (.inl rfl));have n1_:=Aside0.mk (hb);have n2_:=Aside0.mk (hi);clear HK;clear HB;clear HI0;have HK:=n0_;have HB:=n1_;have HI0:=n2_;clear n0_ n1_ n2_;(try clear hb);(try clear hb2);(try clear hk);(try clear hi);obtain ⟨ASz7_0,cSz7_0,HGz7,hgz7,HSz7_0⟩:=HI0.out;have hcz7_0:=cellS115_0 HGz7;have hcz7_1:=cellS115_1 HGz7;have hcz7_2:=cellS115_2 HGz7;have hfz7_1:=blk_frozen HGz7 1;have hfz7_2:=blk_frozen HGz7 2;clear HGz7 hgz7)))
   go_ret
   exact ⟨by first|rfl|(simp [errW_none,errW_some] <;> rfl)|(simp [*,errW_none,errW_some] <;> rfl),by repeat (first|(with_reducible first|exact HI0.out|apply sA|apply sB|apply sC|apply sD|apply sE)|exact HI0.out),by repeat (first|(with_reducible first|exact HB.out|apply bA|apply bB|apply bC|refine bD ?_ (IsS115.ge HI0.out))|exact HB.out),by repeat (first|(with_reducible first|exact HK.out|apply kA|apply kB|apply kC|apply kD)|exact HK.out)⟩
  ·rw [if_neg c5] at H
   have c5b0 : decide ((s0_0.length : Int) ≤ (wrap64 ((wrap64 (t184 + a1)) + 1))) = false:=decide_eq_false c5
   clear c5
   replace H:=Option.bind_eq_some_iff.mp H
   obtain ⟨⟨t186,t187,t188⟩,A80,H⟩:=H
   replace H : ((spec_isNewline.f t186).bind fun t189 => (some (!t189,t187,t188))) = some (r1,r2,r3):=H
   have A8:=Aside0.mk A80
   clear A80
   replace H:=Option.bind_eq_some_iff.mp H
   obtain ⟨t189,A90,H⟩:=H
   replace H : (some (!t189,t187,t188)) = some (r1,r2,r3):=H
   have A9:=Aside0.mk A90
   clear A90
   simp only [Option.some.injEq,Prod.mk.injEq] at H
   obtain ⟨rfl,rfl,rfl⟩:=H
   go_enter Tryz.func135,Tryz.ntmps135
   go_wp2_with (first|(go_at_call 104;(with_reducible refine (spec_reader_peek.calls g s0_0 s0_1 s0_2 a1 t183 t184 t185 w0 _ ?side1 ?side2 A3.out).mono ?_);(case side1 => repeat (first|(with_reducible first|exact HI0.out|apply sA|apply sB|apply sC|apply sD|apply sE)|exact HI0.out));(case side2 => repeat (first|(with_reducible first|exact HB.out|apply bA|apply bB|apply bC|refine bD ?_ (IsS115.ge HI0.out))|exact HB.out));rintro e w10 ⟨rfl,hi,hb,hk⟩;have n0_:=Aside0.mk (KeepBut.trans (by repeat (first|(with_reducible first|exact HK.out|apply kA|apply kB|apply kC|apply kD)|exact HK.out)) hk (.inl rfl));have n1_:=Aside0.mk (hb);have n2_:=Aside0.mk (hi);clear HK;clear HB;clear HI0;have HK:=n0_;have HB:=n1_;have HI0:=n2_;clear n0_ n1_ n2_;(try clear hb);(try clear hb2);(try clear hk);(try clear hi);obtain ⟨ASz11_0,cSz11_0,HGz11,hgz11,HSz11_0⟩:=HI0.out;have hcz11_0:=cellS115_0 HGz11;have hcz11_1:=cellS115_1 HGz11;have hcz11_2:=cellS115_2 HGz11;have hfz11_1:=blk_frozen HGz11 1;have hfz11_2:=blk_frozen HGz11 2;clear HGz11 hgz11)|(go_at_call 104;(with_reducible refine (spec_reader_peek.calls g s0_0 t184 t185 (wrap64 (a1 + 1)) t186 t187 t188 w0 _ ?side1 ?side2 A8.out).mono ?_);(case side1 => repeat (first|(with_reducible first|exact HI0.out|apply sA|apply sB|apply sC|apply sD|apply sE)|exact HI0.out));(case side2 => repeat (first|(with_reducible first|exact HB.out|apply bA|apply bB|apply bC|refine bD ?_ (IsS115.ge HI0.out))|exact HB.out));rintro e w12 ⟨rfl,hi,hb,hk⟩;have n0_:=Aside0.mk (KeepBut.trans (by repeat (first|(with_reducible first|exact HK.out|apply kA|apply kB|apply kC|apply kD)|exact HK.out)) hk (.inl rfl));have n1_:=Aside0.mk (hb);have n2_:=Aside0.mk (hi);clear HK;clear HB;clear HI0;have HK:=n0_;have HB:=n1_;have HI0:=n2_;clear n0_ n1_ n2_;(try clear hb);(try clear hb2);(try clear hk);(try clear hi))|(go_at_call 134;(with_reducible refine (spec_isNewline.calls t186 t189 _ A9.out).mono ?_);rintro e w' ⟨rfl,⟨nd,rfl⟩⟩;(try first|exact ⟨rfl,_,World.drewN_drewN _ _ _⟩|exact ⟨rfl,_,Eq.trans (World.drewN_drewN _ _ _) (congrArg (World.drewN _) (Nat.add_assoc _ _ _))⟩)))
   repeat (go_quiet (first|(go_at_call 104;(with_reducible refine (spec_reader_peek.calls g s0_0 s0_1 s0_2 a1 t183 t184 t185 w0 _ ?side1 ?side2 A3.out).mono ?_);(case side1 => repeat (first|(with_reducible first|exact HI0.out|apply sA|apply sB|apply sC|apply sD|apply sE)|exact HI0.out));(case side2 => repeat (first|(with_reducible first|exact HB.out|apply bA|apply bB|apply bC|refine bD ?_ (IsS115.ge HI0.out))|exact HB.out));rintro e w10 ⟨rfl,hi,hb,hk⟩;have n0_:=Aside0.mk (KeepBut.trans (by repeat (first|(with_reducible first|exact HK.out|apply kA|apply kB|apply kC|apply kD)|exact HK.out)) hk (.inl rfl));have n1_:=Aside0.mk (hb);have n2_:=Aside0.mk (hi);clear HK;clear HB;clear HI0;have HK:=n0_;have HB:=n1_;have HI0:=n2_;clear n0_ n1_ n2_;(try clear hb);(try clear hb2);(try clear hk);(try clear hi);obtain ⟨ASz11_0,cSz11_0,HGz11,hgz11,HSz11_0⟩:=HI0.out;have hcz11_0:=cellS115_0 HGz11;have hcz11_1:=cellS115_1 HGz11;have hcz11_2:=cellS115_2 HGz11;have hfz11_1:=blk_frozen HGz11 1;have hfz11_2:=blk_frozen HGz11 2;clear HGz11 hgz11)|(go_at_call 104;(with_reducible refine (spec_reader_peek.calls g s0_0 t184 t185 (wrap64 (a1 + 1)) t186 t187 t188 w0 _ ?side1 ?side2 A8.out).mono ?_);(case side1 => repeat (first|(with_reducible first|exact HI0.out|apply sA|apply sB|apply sC|apply sD|apply sE)|exact HI0.out));(case side2 => repeat (first|(with_reducible first|exact HB.out|apply bA|apply bB|apply bC|refine bD ?_ (IsS115.ge HI0.out))|exact HB.out));rintro e w12 ⟨rfl,hi,hb,hk⟩;have n0_:=Aside0.mk (KeepBut.trans (by repeat (first|(with_reducible first|exact HK.out|apply kA|apply kB|apply kC|apply kD)|exact HK.out)) hk (.inl rfl));have n1_:=Aside0.mk (hb);have n2_:=Aside0.mk (hi);clear HK;clear HB;clear HI0;have HK:=n0_;have HB:=n1_;have HI0:=n2_;clear n0_ n1_ n2_;(try clear hb);(try clear hb2);(try clear hk);(try clear hi))|(go_at_call 134;(with_reducible refine (spec_isNewline.calls t186 t189 _ A9.out).mono ?_);rintro e w' ⟨rfl,⟨nd,rfl⟩⟩;(try first|exact ⟨rfl,_,World.drewN_drewN _ _ _⟩|exact ⟨rfl,_,Eq.trans (World.drewN_drewN _ _ _) (congrArg (World.drewN _) (Nat.add_assoc _ _ _))⟩)));try go_wp2_with (first|(go_at_call 104;(with_reducible refine (spec_reader_peek.calls g s0_0 s0_1 s0_2 a1 t183 t184 t185 w0 _ ?side1 ?side2 A3.out).mono ?_);(case side1 => repeat (first|(with_reducible first|exact HI0.out|apply sA|apply sB|apply sC|apply sD|apply sE)|exact HI0.out));(case side2 => repeat (first|(with_reducible first|exact HB.out|apply bA|apply bB|apply bC|refine bD ?_ (IsS115.ge HI0.out))|exact HB.out));rintro e w10 ⟨rfl,hi,hb,hk⟩;have n0_:=Aside0.mk (KeepBut.trans (by repeat (first|(with_reducible first|exact HK.out|apply kA|apply kB|apply kC|apply kD)|exact HK.out)) hk (.inl rfl));have n1_:=Aside0.mk (hb);have n2_:=Aside0.mk (hi);clear HK;clear HB;clear HI0;have HK:=n0_;have HB:=n1_;have HI0:=n2_;clear n0_ n1_ n2_;(try clear hb);(try clear hb2);(try clear hk);(try clear hi);obtain ⟨ASz11_0,cSz11_0,HGz11,hgz11,HSz11_0⟩:=HI0.out;have hcz11_0:=cellS115_0 HGz11;have hcz11_1:=cellS115_1 HGz11;have hcz11_2:=cellS115_2 HGz11;have hfz11_1:=blk_frozen HGz11 1;have hfz11_2:=blk_frozen HGz11 2;clear HGz11 hgz11)|(go_at_call 104;(with_reducible refine (spec_reader_peek.calls g s0_0 t184 t185 (wrap64 (a1 + 1)) t186 t187 t188 w0 _ ?side1 ?side2 A8.out).mono ?_);(case side1 => repeat (first|(with_reducible first|exact HI0.out|apply sA|apply sB|apply sC|apply sD|apply sE)|exact HI0.out));(case side2 => repeat (first|(with_reducible first|exact HB.out|apply bA|apply bB|apply bC|refine bD ?_ (IsS115.ge HI0.out))|exact HB.out));rintro e w12 ⟨rfl,hi,hb,hk⟩;have n0_:=Aside0.mk (KeepBut.trans (by repeat (first|(with_reducible first|exact HK.out|apply kA|apply kB|apply kC|apply kD)|exact HK.out)) hk (.inl rfl));have n1_:=Aside0.mk (hb);have n2_:=Aside0.mk (hi);clear HK;clear HB;clear HI0;have HK:=n0_;have HB:=n1_;have HI0:=n2_;clear n0_ n1_ n2_;(try clear hb);(try clear hb2);(try clear hk);(try clear hi))|(go_at_call 134;(with_reducible refine (spec_isNewline.calls t186 t189 _ A9.out).mono ?_);rintro e w' ⟨rfl,⟨nd,rfl⟩⟩;(try first|exact ⟨rfl,_,World.drewN_drewN _ _ _⟩|exact ⟨rfl,_,Eq.trans (World.drewN_drewN _ _ _) (congrArg (World.drewN _) (Nat.add_assoc _ _ _))⟩))))
   go_ret
   exact ⟨by first|rfl|(simp [errW_none,errW_some] <;> rfl)|(simp [*,errW_none,errW_some] <;> rfl),by repeat (first|(with_reducible first|exact HI0.out|apply sA|apply sB|apply sC|apply sD|apply sE)|exact HI0.out),by repeat (first|(with_reducible first|exact HB.out|apply bA|apply bB|apply bC|refine bD ?_ (IsS115.ge HI0.out))|exact HB.out),by repeat (first|(with_reducible first|exact HK.out|apply kA|apply kB|apply kC|apply kD)|exact HK.out)⟩
 ·rw [if_neg c4] at H
  have c4b0 : (t183 == 92) = false:=beq_eq_false_iff_ne.mpr c4
  have c4b1 : (t183 != 92) = true:=bne_iff_ne.mpr c4
  simp only [Option.some.injEq,Prod.mk.injEq] at H
  obtain ⟨rfl,rfl,rfl⟩:=H
  go_enter Tryz.func135,Tryz.ntmps135
  go_wp2_with (first|(go_at_call 104;(with_reducible refine (spec_reader_peek.calls g s0_0 s0_1 s0_2 a1 t183 t184 t185 w0 _ ?side1 ?side2 A3.out).mono ?_);(case side1 => repeat (first|(with_reducible first|exact HI0.out|apply sA|apply sB|apply sC|apply sD|apply sE)|exact HI0.out));(case side2 => repeat (first|(with_reducible first|exact HB.out|apply bA|apply bB|apply bC|refine bD ?_ (IsS115.ge HI0.out))|exact HB.out));rintro e w13 ⟨rfl,hi,hb,hk⟩;have n0_:=Aside0.mk (KeepBut.trans (by repeat (first|(with_reducible first|exact HK.out|apply kA|apply kB|apply kC|apply kD)|exact HK.out)) hk (.inl rfl));have n1_:=Aside0.mk (hb);have n2_:=Aside0.mk (hi);clear HK;clear HB;clear HI0;have HK:=n0_;have HB:=n1_;have HI0:=n2_;clear n0_ n1_ n2_;(try clear hb);(try clear hb2);(try clear hk);(try clear hi)))
  repeat (go_quiet (first|(go_at_call 104;(with_reducible refine (spec_reader_peek.calls g s0_0 s0_1 s0_2 a1 t183 t184 t185 w0 _ ?side1 ?side2 A3.out).mono ?_);(case side1 => repeat (first|(with_reducible first|exact HI0.out|apply sA|apply sB|apply sC|apply sD|apply sE)|exact HI0.out));(case side2 => repeat (first|(with_reducible first|exact HB.out|apply bA|apply bB|apply bC|refine bD ?_ (IsS115.ge HI0.out))|exact HB.out));rintro e w13 ⟨rfl,hi,hb,hk⟩;have n0_:=Aside0.mk (KeepBut.trans (by repeat (first|(with_reducible first|exact HK.out|apply kA|apply kB|apply kC|apply kD)|exact HK.out)) hk (.inl rfl));have n1_:=Aside0.mk (hb);have n2_:=Aside0.mk (hi);clear HK;clear HB;clear HI0;have HK:=n0_;have HB:=n1_;have HI0:=n2_;clear n0_ n1_ n2_;(try clear hb);(try clear hb2);(try clear hk);(try clear hi)));try go_wp2_with (first|(go_at_call 104;(with_reducible refine (spec_reader_peek.calls g s0_0 s0_1 s0_2 a1 t183 t184 t185 w0 _ ?side1 ?side2 A3.out).mono ?_);(case side1 => repeat (first|(with_reducible first|exact HI0.out|apply sA|apply sB|apply sC|apply sD|apply sE)|exact HI0.out));(case side2 => repeat (first|(with_reducible first|exact HB.out|apply bA|apply bB|apply bC|refine bD ?_ (IsS115.ge HI0.out))|exact HB.out));rintro e w13 ⟨rfl,hi,hb,hk⟩;have n0_:=Aside0.mk (KeepBut.trans (by repeat (first|(with_reducible first|exact HK.out|apply kA|apply kB|apply kC|apply kD)|exact HK.out)) hk (.inl rfl));have n1_:=Aside0.mk (hb);have n2_:=Aside0.mk (hi);clear HK;clear HB;clear HI0;have HK:=n0_;have HB:=n1_;have HI0:=n2_;clear n0_ n1_ n2_;(try clear hb);(try clear hb2);(try clear hk);(try clear hi))))
  go_ret
  exact ⟨by first|rfl|(simp [errW_none,errW_some] <;> rfl)|(simp [*,errW_none,errW_some] <;> rfl),by repeat (first|(with_reducible first|exact HI0.out|apply sA|apply sB|apply sC|apply sD|apply sE)|exact HI0.out),by repeat (first|(with_reducible first|exact HB.out|apply bA|apply bB|apply bC|refine bD ?_ (IsS115.ge HI0.out))|exact HB.out),by repeat (first|(with_reducible first|exact HK.out|apply kA|apply kB|apply kC|apply kD)|exact HK.out)⟩
def spec_isDigit.f (a0 : Int) : Option (Bool):=if a0 ≥ 48 then (some (decide (a0 ≤ 57))) else (some false)
theorem spec_isDigit.calls (a0 : Int) (r : Bool) (w : World) (h : spec_isDigit.f a0 = some r) :
  Calls Tryz.prog 137 #[.int .u8 a0] w fun e w' => e = .returned (.bool r) ∧ Drawn0 w w':=by
 have H : (if a0 ≥ 48 then (some (decide (a0 ≤ 57))) else (some false)) = some r:=h
 clear h
 by_cases c2 : a0 ≥ 48
 ·rw [if_pos c2] at H
  have c2b0 : decide (48 ≤ a0) = true:=decide_eq_true c2
  clear c2
  obtain rfl:=Option.some.inj H
  go_enter Tryz.func137,Tryz.ntmps137
  go_wp2
  go_ret
  exact ⟨by first|rfl|(simp;done)|(simp [*];done),by repeat (first|exact Drawn0.refl _|apply Drawn0.step)⟩
 ·rw [if_neg c2] at H
  have c2b0 : decide (48 ≤ a0) = false:=decide_eq_false c2
  clear c2
  obtain rfl:=Option.some.inj H
  go_enter Tryz.func137,Tryz.ntmps137
  go_wp2
  go_ret
  exact ⟨by first|rfl|(simp;done)|(simp [*];done),by repeat (first|exact Drawn0.refl _|apply Drawn0.step)⟩
def spec_hexValue.j0 : Nat → Int → Bool → Option (Int)
 | 0,_,_ => none
 | k + 1,x0,x9 => if x9 = true then (some (((x0 - 97) % 256) + 10)) else (if x0 ≥ 65 then (if x0 ≤ 70 then (some (((x0 - 65) % 256) + 10)) else (some (-1))) else (some (-1)))
def spec_hexValue.f (k : Nat) (a0 : Int) : Option (Int):=(spec_isDigit.f a0).bind fun t190 => (if t190 = true then (some ((a0 - 48) % 256)) else (if a0 ≥ 97 then (spec_hexValue.j0 k a0 (decide (a0 ≤ 102))) else (spec_hexValue.j0 k a0 false)))
theorem spec_hexValue.calls (k : Nat) (a0 : Int) (r : Int) (w : World) (h : spec_hexValue.f k a0 = some r) :
  Calls Tryz.prog 111 #[.int .u8 a0] w fun e w' => e = .returned (.int .i64 r) ∧ Drawn0 w w':=by
 have H : ((spec_isDigit.f a0).bind fun t190 => (if t190 = true then (some ((a0 - 48) % 256)) else (if a0 ≥ 97 then (spec_hexValue.j0 k a0 (decide (a0 ≤ 102))) else (spec_hexValue.j0 k a0 false)))) = some r:=h
 clear h
 replace H:=Option.bind_eq_some_iff.mp H
 obtain ⟨t190,A20,H⟩:=H
 replace H : (if t190 = true then (some ((a0 - 48) % 256)) else (if a0 ≥ 97 then (spec_hexValue.j0 k a0 (decide (a0 ≤ 102))) else (spec_hexValue.j0 k a0 false))) = some r:=H
 have A2:=Aside0.mk A20
 clear A20
 by_cases c3 : t190 = true
 ·subst c3
  have H1 : (some ((a0 - 48) % 256)) = some r:=by rw [if_pos rfl] at H;exact H
  clear H
  have H:=H1
  clear H1
  obtain rfl:=Option.some.inj H
  go_enter Tryz.func111,Tryz.ntmps111
  go_wp2_with (first|((with_reducible refine gate_callee (f:=137) rfl ?_);refine goesL_ (some 5) rfl rfl Tryz.func137 (by kernel_rfl) rfl #[.int .u8 a0] rfl (by (try simp only [List.map_toArray,List.map_cons,List.map_nil]);first|done|rfl|(simp only [List.length_drop,List.length_take];rfl)) ?_;(with_reducible refine (spec_isDigit.calls a0 true _ A2.out).mono ?_);rintro e w' ⟨rfl,⟨nd,rfl⟩⟩;refine ⟨_,rfl,?_⟩))
  go_ret
  exact ⟨by first|rfl|(simp;done)|(simp [*];done),by repeat (first|exact Drawn0.refl _|apply Drawn0.step)⟩
 ·replace c3:=Bool.eq_false_iff.mpr c3
  subst c3
  have H1 : (if a0 ≥ 97 then (spec_hexValue.j0 k a0 (decide (a0 ≤ 102))) else (spec_hexValue.j0 k a0 false)) = some r:=by rw [if_neg (show ¬ (false = true) by decide)] at H;exact H
  clear H
  have H:=H1
  clear H1
  have HC4:=Aside0.mk H
  clear H
  go_enter Tryz.func111,Tryz.ntmps111
  go_upto_region 3 with (first|((with_reducible refine gate_callee (f:=137) rfl ?_);refine goesL_ (some 5) rfl rfl Tryz.func137 (by kernel_rfl) rfl #[.int .u8 a0] rfl (by (try simp only [List.map_toArray,List.map_cons,List.map_nil]);first|done|rfl|(simp only [List.length_drop,List.length_take];rfl)) ?_;(with_reducible refine (spec_isDigit.calls a0 false _ A2.out).mono ?_);rintro e w' ⟨rfl,⟨nd,rfl⟩⟩;refine ⟨_,rfl,?_⟩))
  (try simp only [Act.put,List.setIfInBounds_toArray,List.set_cons_zero,List.set_cons_succ])
  go_cut [9] (fun v9 wc => ∃ (kq : Nat) (x9_3 : Bool),v9 = .bool x9_3 ∧ Aside0 (spec_hexValue.j0 kq a0 x9_3 = some r) ∧ Aside0 (kq ≤ k) ∧ Drawn0 w wc)
  case first =>
   have H:=HC4.out
   clear HC4
   by_cases c5 : a0 ≥ 97
   ·rw [if_pos c5] at H
    have c5b0 : decide (97 ≤ a0) = true:=decide_eq_true c5
    clear c5
    (first|rw [c5b0]|(simp only [i64_w,i32_w];rw [c5b0])|skip)
    have H':=Aside0.mk H
    clear H
    go_wp2
    go_meet
    case rel => exact ⟨_,(decide (a0 ≤ 102)),(by first|rfl|(simp;done)|(simp [*];done)),H',⟨by first|omega|exact Nat.le_refl _⟩,by repeat (first|exact Drawn0.refl _|apply Drawn0.step)⟩
   ·rw [if_neg c5] at H
    have c5b0 : decide (97 ≤ a0) = false:=decide_eq_false c5
    clear c5
    (first|rw [c5b0]|(simp only [i64_w,i32_w];rw [c5b0])|skip)
    have H':=Aside0.mk H
    clear H
    go_wp2
    go_meet
    case rel => exact ⟨_,(false),(by first|rfl|(simp;done)|(simp [*];done)),H',⟨by first|omega|exact Nat.le_refl _⟩,by repeat (first|exact Drawn0.refl _|apply Drawn0.step)⟩
  case rest =>
   clear HC4
   try clear c1
   try clear p2
   try clear c3
   try clear c5
   try clear c5b0
   obtain ⟨kq,x9_3,rfl,HA,HJ3,⟨mc3,rfl⟩⟩:=hcut
   cases kq with
   | zero => exact absurd HA.out (by simp [spec_hexValue.j0])
   | succ kj3 =>
    have H:=HA.out
    clear HA
    simp only [spec_hexValue.j0] at H
    by_cases c6 : x9_3 = true
    ·subst c6
     have H1 : (some (((a0 - 97) % 256) + 10)) = some r:=by rw [if_pos rfl] at H;exact H
     clear H
     have H:=H1
     clear H1
     obtain rfl:=Option.some.inj H
     go_wp2
     go_ret
     exact ⟨by first|rfl|(simp;done)|(simp [*];done),by repeat (first|exact Drawn0.refl _|apply Drawn0.step)⟩
    ·replace c6:=Bool.eq_false_iff.mpr c6
     subst c6
     have H1 : (if a0 ≥ 65 then (if a0 ≤ 70 then (some (((a0 - 65) % 256) + 10)) else (some (-1))) else (some (-1))) = some r:=by rw [if_neg (show ¬ (false = true) by decide)] at H;exact H
     clear H
     have H:=H1
     clear H1
     by_cases c7 : a0 ≥ 65
     ·rw [if_pos c7] at H
      have c7b0 : decide (65 ≤ a0) = true:=decide_eq_true c7
      clear c7
      by_cases c8 : a0 ≤ 70
      ·rw [if_pos c8] at H
       have c8b0 : decide (a0 ≤ 70) = true:=decide_eq_true c8
       clear c8
       obtain rfl:=Option.some.inj H
       go_wp2
       go_ret
       exact ⟨by first|rfl|(simp;done)|(simp [*];done),by repeat (first|exact Drawn0.refl _|apply Drawn0.step)⟩
      ·rw [if_neg c8] at H
       have c8b0 : decide (a0 ≤ 70) = false:=decide_eq_false c8
       clear c8
       obtain rfl:=Option.some.inj H
       go_wp2
       go_ret
       exact ⟨by first|rfl|(simp;done)|(simp [*];done),by repeat (first|exact Drawn0.refl _|apply Drawn0.step)⟩
     ·rw [if_neg c7] at H
      have c7b0 : decide (65 ≤ a0) = false:=decide_eq_false c7
      clear c7
      obtain rfl:=Option.some.inj H
      go_wp2
      go_ret
      exact ⟨by first|rfl|(simp;done)|(simp [*];done),by repeat (first|exact Drawn0.refl _|apply Drawn0.step)⟩
end Go.Proofs.YtlglijnaeaonpaaGreatDoor.PFnStyle
end
