/- FnStyle: a part of the proof (Mj). -/
import Derived.Test.YtlglijnaeaonpaaGreatDoorMd
import Derived.Test.YtlglijnaeaonpaaGreatDoorMe
import Derived.Test.YtlglijnaeaonpaaGreatDoorMh
import Derived.Test.YtlglijnaeaonpaaGreatDoorMi
section
set_option maxHeartbeats 8000000
set_option maxRecDepth 100000
set_option linter.unusedVariables false
set_option linter.unusedSimpArgs false
namespace Go.Proofs.YtlglijnaeaonpaaGreatDoor.Lx
open Go.RowKit Go.Proofs.YtlglijnaeaonpaaGreatDoorW.PrintWords Go.Proofs.YtlglijnaeaonpaaGreatDoor.PFnStyle
structure Tx (xs : List Int) : Prop where
 len : xs.length ≤ 2147483647
 byte : ∀ j : Nat,0 ≤ xs.getD j 0 ∧ xs.getD j 0 ≤ 255
def Nb (xs : List Int) : Prop:=∀ i : Int,at_ xs i ≠ 92
def N0 (xs : List Int) : Prop:=∀ i : Int,0 ≤ i → i < xs.length → at_ xs i ≠ 0
theorem w64 {x : Int} (h0 : -9223372036854775808 ≤ x) (h1 : x ≤ 9223372036854775807) : wrap64 x = x:=by unfold wrap64;omega
section
variable {xs : List Int} {i n c : Int} {o : Bool} {k : Nat}
theorem Tx.at_ (h : Tx xs) (i : Int) : 0 ≤ at_ xs i ∧ Lx.at_ xs i ≤ 255:=h.byte i.toNat
theorem peek_f (hx : Tx xs) (h0 : 0 ≤ i + n) (h1 : i + n ≤ 4611686018427387904) : spec_reader_peek.f xs i o n = some (Lx.at_ xs (i + n),i,o):=by
 unfold spec_reader_peek.f
 rw [w64 (by omega) (by omega)]
 by_cases h : i + n ≥ xs.length
 ·rw [if_pos h,at_past h]
 ·rw [if_neg h,if_pos h0,if_pos (by omega)];rfl
theorem peek0_f (hx : Tx xs) (h0 : 0 ≤ i) (h1 : i ≤ xs.length) : spec_reader_peek.f xs i o 0 = some (Lx.at_ xs i,i,o):=by
 have:=hx.len
 rw [peek_f hx (by omega) (by omega),Int.add_zero]
theorem over_f : spec_reader_over.f xs i o = some (decide (i ≥ (xs.length : Int)),i,o):=rfl
theorem isBlank_f : spec_IsBlank.f c = some (decide (Ws c)):=by
 unfold spec_IsBlank.f Ws
 by_cases h1 : c = 32
 ·simp [h1]
 by_cases h2 : c = 10
 ·simp [h1,h2]
 by_cases h3 : c = 13
 ·simp [h1,h2,h3]
 by_cases h4 : c = 9
 ·simp [h1,h2,h3,h4]
 by_cases h5 : c = 12 <;> simp [h1,h2,h3,h4,h5]
theorem isDigit_f : spec_isDigit.f c = some (decide (Dg c)):=by
 unfold spec_isDigit.f Dg
 by_cases h1 : c ≥ 48 <;> simp [h1] <;> omega
theorem isNewline_f : spec_isNewline.f c = some (decide (c = 10 ∨ c = 13 ∨ c = 12)):=by
 unfold spec_isNewline.f
 by_cases h1 : c = 10
 ·simp [h1]
 by_cases h2 : c = 13
 ·simp [h1,h2]
 by_cases h3 : c = 12 <;> simp [h1,h2,h3]
theorem isLetter_f : spec_isLetter.f c = some (decide ((97 ≤ c ∧ c ≤ 122) ∨ (65 ≤ c ∧ c ≤ 90))):=by
 unfold spec_isLetter.f
 by_cases h1 : c ≥ 97
 ·by_cases h2 : c ≤ 122
  ·simp [h1,h2]
  ·by_cases h3 : c ≥ 65 <;> simp [h1,h2,h3] <;> omega
 ·by_cases h3 : c ≥ 65 <;> simp [h1,h3] <;> omega
theorem isStart_f : spec_isStart.f c = some (decide (Sn c)):=by
 unfold spec_isStart.f
 rw [isLetter_f]
 simp only [Option.bind_some,decide_eq_true_eq]
 by_cases h1 : (97 ≤ c ∧ c ≤ 122) ∨ (65 ≤ c ∧ c ≤ 90)
 ·rw [if_pos h1]
  have h3 : Sn c:=by unfold Sn;omega
  rw [decide_eq_true h3]
 ·rw [if_neg h1]
  by_cases h2 : c = 95
  ·have h3 : Sn c:=by unfold Sn;omega
   rw [if_pos h2,decide_eq_true h3]
  ·rw [if_neg h2]
   have h3 : (c ≥ 128) ↔ Sn c:=by unfold Sn;omega
   exact congrArg some (decide_eq_decide.2 h3)
theorem isNameByte_f : spec_isNameByte.f c = some (decide (Nm c)):=by
 unfold spec_isNameByte.f
 rw [isStart_f]
 simp only [Option.bind_some,decide_eq_true_eq]
 by_cases h1 : Sn c
 ·rw [if_pos h1];simp [h1.nm]
 ·rw [if_neg h1,isDigit_f]
  simp only [Option.bind_some,decide_eq_true_eq]
  by_cases h2 : Dg c
  ·rw [if_pos h2]
   have : Nm c:=by unfold Dg at h2;unfold Nm;omega
   simp [this]
  ·rw [if_neg h2]
   have h3 : c = 45 ↔ Nm c:=by unfold Sn at h1;unfold Dg at h2;unfold Nm;omega
   refine congrArg some ?_
   rw [Bool.eq_iff_iff]
   simp [h3]
theorem isControl_f : spec_isControl.f c = some (decide (c ≤ 8 ∨ c = 11 ∨ (14 ≤ c ∧ c ≤ 31) ∨ c = 127)):=by
 unfold spec_isControl.f
 by_cases h1 : c ≤ 8
 ·simp [h1]
 by_cases h2 : c = 11
 ·simp [h1,h2]
 by_cases h3 : c ≥ 14
 ·by_cases h4 : c ≤ 31
  ·simp [h1,h2,h3,h4]
  ·by_cases h5 : c = 127
   ·simp [h5]
   ·simp [h1,h2,h3,h4,h5]
 ·by_cases h5 : c = 127
  ·omega
  ·simp [h1,h2,h3,h5]
theorem hexValue_f (hc : 0 ≤ c) (hc2 : c ≤ 255) : ∃ v,(∀ k,1 ≤ k → spec_hexValue.f k c = some v) ∧ (0 ≤ v ↔ Hx c):=by
 have hj : ∀ b : Bool,(b = true ↔ (97 ≤ c ∧ c ≤ 102)) → ¬ Dg c → ∃ v,(∀ k,1 ≤ k → spec_hexValue.j0 k c b = some v) ∧ (0 ≤ v ↔ Hx c):=by
  intro b hb hd
  unfold Dg at hd;unfold Hx
  cases b with
  | true =>
   have hb:=hb.1 rfl
   refine ⟨((c - 97) % 256) + 10,fun k hk => ?_,by omega⟩
   obtain ⟨k,rfl⟩ : ∃ m,k = m + 1:=⟨k - 1,by omega⟩
   simp [spec_hexValue.j0]
  | false =>
   have hb : ¬ (97 ≤ c ∧ c ≤ 102):=fun h => by have:=hb.2 h;cases this
   by_cases h1 : c ≥ 65 ∧ c ≤ 70
   ·refine ⟨((c - 65) % 256) + 10,fun k hk => ?_,by omega⟩
    obtain ⟨k,rfl⟩ : ∃ m,k = m + 1:=⟨k - 1,by omega⟩
    simp [spec_hexValue.j0,h1]
   ·refine ⟨-1,fun k hk => ?_,by omega⟩
    obtain ⟨k,rfl⟩ : ∃ m,k = m + 1:=⟨k - 1,by omega⟩
    simp only [spec_hexValue.j0]
    rw [if_neg (by decide)]
    by_cases h2 : c ≥ 65
    ·rw [if_pos h2,if_neg (by omega)]
    ·rw [if_neg h2]
 unfold spec_hexValue.f
 rw [isDigit_f]
 simp only [Option.bind_some,decide_eq_true_eq]
 by_cases h1 : Dg c
 ·refine ⟨(c - 48) % 256,fun k hk => by rw [if_pos h1],?_⟩
  unfold Dg at h1;unfold Hx;omega
 ·by_cases h2 : c ≥ 97
  ·obtain ⟨v,hv,hv2⟩:=hj (decide (c ≤ 102)) (by simp;omega) h1
   exact ⟨v,fun k hk => by rw [if_neg h1,if_pos h2];exact hv k hk,hv2⟩
  ·obtain ⟨v,hv,hv2⟩:=hj false (by simp;omega) h1
   exact ⟨v,fun k hk => by rw [if_neg h1,if_neg h2];exact hv k hk,hv2⟩
theorem at_in (h : Lx.at_ xs i ≠ 0) (h0 : 0 ≤ i) : i + 1 ≤ xs.length:=by have:=at_lt h;omega
theorem escapes_f (hx : Tx xs) (h0 : 0 ≤ i + n) (h1 : i + n ≤ xs.length + 8) (hi : i ≤ xs.length + 8) (hn : 0 ≤ n) (hn8 : n ≤ 8) : ∃ b o',spec_reader_escapes.f xs i o n = some (b,i,o') ∧ (o = true → o' = true) ∧
  (b = true → Lx.at_ xs (i + n) = 92 ∧ i + n + 1 < xs.length) ∧ (Lx.at_ xs (i + n) ≠ 92 → b = false ∧ o' = o):=by
 have hl:=hx.len
 unfold spec_reader_escapes.f
 rw [peek_f hx h0 (by omega)]
 simp only [Option.bind_some]
 by_cases h2 : Lx.at_ xs (i + n) = 92
 ·rw [if_pos h2,w64 (x:=i + n) (by omega) (by omega),w64 (by omega) (by omega)]
  by_cases h3 : i + n + 1 ≥ xs.length
  ·rw [if_pos h3]
   exact ⟨false,true,rfl,fun _ => rfl,(fun h => by cases h),fun h => absurd h2 h⟩
  ·rw [if_neg h3,w64 (x:=n + 1) (by omega) (by omega),peek_f hx (by omega) (by omega)]
   simp only [Option.bind_some]
   rw [isNewline_f]
   simp only [Option.bind_some]
   exact ⟨_,o,rfl,id,fun _ => ⟨h2,by omega⟩,fun h => absurd h2 h⟩
 ·rw [if_neg h2]
  exact ⟨false,o,rfl,id,(fun h => by cases h),fun _ => ⟨rfl,rfl⟩⟩
theorem run_snoc {f : Int → Prop} [DecidablePred f] (hf : ¬ f 0) (h0 : 0 ≤ i) (h1 : i ≤ xs.length) : run f (xs ++ [0]) i = run f xs i:=by
 have h2:=run_ge (f:=f) (bs:=xs) (p:=i)
 have h3:=run_le (f:=f) (bs:=xs) h0 h1
 refine run_uniq h0 h2 (by simp;omega) (fun j a b => by rw [at_snoc];exact run_all h0 j a b) (.inr ?_)
 rw [at_snoc]
 by_cases h4 : run f xs i < xs.length
 ·exact run_end h0 h4
 ·rw [at_past (by omega)];exact hf
theorem blanks_l (hx : Tx xs) : ∀ (d : Nat) (k : Nat) (i : Int),0 ≤ i → i ≤ xs.length → (xs.length : Int) - i ≤ d → d + 1 ≤ k → spec_reader_blanks.l0 k xs i o = some (run Ws xs i,o):=by
 have hl:=hx.len
 intro d
 induction d with
 | zero =>
  intro k i h0 h1 hd hk
  obtain ⟨k,rfl⟩ : ∃ m,k = m + 1:=⟨k - 1,by omega⟩
  have hn : ¬ Ws (Lx.at_ xs i):=by rw [at_past (by omega)];decide
  simp only [spec_reader_blanks.l0]
  rw [peek0_f hx h0 h1]
  simp only [Option.bind_some]
  rw [isBlank_f]
  simp only [Option.bind_some,decide_eq_true_eq]
  rw [if_neg hn,run_stop h0 h1 hn]
 | succ d ih =>
  intro k i h0 h1 hd hk
  obtain ⟨k,rfl⟩ : ∃ m,k = m + 1:=⟨k - 1,by omega⟩
  simp only [spec_reader_blanks.l0]
  rw [peek0_f hx h0 h1]
  simp only [Option.bind_some]
  rw [isBlank_f]
  simp only [Option.bind_some,decide_eq_true_eq]
  by_cases hn : Ws (Lx.at_ xs i)
  ·have hlt : i + 1 ≤ xs.length:=at_in (fun e => by rw [e] at hn;revert hn;decide) h0
   rw [if_pos hn,w64 (by omega) (by omega),run_step h0 (by omega) hn]
   exact ih k (i + 1) (by omega) hlt (by omega) (by omega)
  ·rw [if_neg hn,run_stop h0 h1 hn]
theorem blanks_f (hx : Tx xs) (h0 : 0 ≤ i) (h1 : i ≤ xs.length) (hk : xs.length + 1 ≤ k) : spec_reader_blanks.f k xs i o = some (run Ws xs i,o) :=
 blanks_l hx xs.length k i h0 h1 (by omega) hk
theorem digits_l (hx : Tx xs) : ∀ (d : Nat) (k : Nat) (i : Int),0 ≤ i → i ≤ xs.length → (xs.length : Int) - i ≤ d → d + 1 ≤ k → spec_reader_digits.l0 k xs i o = some (run Dg xs i,o):=by
 have hl:=hx.len
 intro d
 induction d with
 | zero =>
  intro k i h0 h1 hd hk
  obtain ⟨k,rfl⟩ : ∃ m,k = m + 1:=⟨k - 1,by omega⟩
  have hn : ¬ Dg (Lx.at_ xs i):=by rw [at_past (by omega)];decide
  simp only [spec_reader_digits.l0]
  rw [peek0_f hx h0 h1]
  simp only [Option.bind_some]
  rw [isDigit_f]
  simp only [Option.bind_some,decide_eq_true_eq]
  rw [if_neg hn,run_stop h0 h1 hn]
 | succ d ih =>
  intro k i h0 h1 hd hk
  obtain ⟨k,rfl⟩ : ∃ m,k = m + 1:=⟨k - 1,by omega⟩
  simp only [spec_reader_digits.l0]
  rw [peek0_f hx h0 h1]
  simp only [Option.bind_some]
  rw [isDigit_f]
  simp only [Option.bind_some,decide_eq_true_eq]
  by_cases hn : Dg (Lx.at_ xs i)
  ·have hlt : i + 1 ≤ xs.length:=at_in (fun e => by rw [e] at hn;revert hn;decide) h0
   rw [if_pos hn,w64 (by omega) (by omega),run_step h0 (by omega) hn]
   exact ih k (i + 1) (by omega) hlt (by omega) (by omega)
  ·rw [if_neg hn,run_stop h0 h1 hn]
theorem digits_f (hx : Tx xs) (h0 : 0 ≤ i) (h1 : i ≤ xs.length) (hk : xs.length + 1 ≤ k) : spec_reader_digits.f k xs i o = some (run Dg xs i,o) :=
 digits_l hx xs.length k i h0 h1 (by omega) hk
theorem escape_l0 (hx : Tx xs) : ∀ (d : Nat) (i : Int),0 ≤ i → i ≤ xs.length → (xs.length : Int) - i ≤ d → ∃ i',(∀ k,d + 1 ≤ k → spec_reader_escape.l0 k xs i o = some (i',o)) ∧ i ≤ i' ∧ i' ≤ xs.length:=by
 have hl:=hx.len
 intro d
 induction d with
 | zero =>
  intro i h0 h1 hd
  refine ⟨i,fun k hk => ?_,Int.le_refl _,h1⟩
  obtain ⟨k,rfl⟩ : ∃ m,k = m + 1:=⟨k - 1,by omega⟩
  simp only [spec_reader_escape.l0,over_f,Option.bind_some,decide_eq_true_eq]
  rw [if_pos (by omega)]
 | succ d ih =>
  intro i h0 h1 hd
  by_cases h2 : i ≥ xs.length
  ·refine ⟨i,fun k hk => ?_,Int.le_refl _,h1⟩
   obtain ⟨k,rfl⟩ : ∃ m,k = m + 1:=⟨k - 1,by omega⟩
   simp only [spec_reader_escape.l0,over_f,Option.bind_some,decide_eq_true_eq]
   rw [if_pos (by omega)]
  ·by_cases h3 : Go.bits .and .u8 (Lx.at_ xs i) 192 = 128
   ·obtain ⟨i',h4,h5,h6⟩:=ih (i + 1) (by omega) (by omega) (by omega)
    refine ⟨i',fun k hk => ?_,by omega,h6⟩
    obtain ⟨k,rfl⟩ : ∃ m,k = m + 1:=⟨k - 1,by omega⟩
    simp only [spec_reader_escape.l0,over_f,Option.bind_some,decide_eq_true_eq]
    rw [if_neg (by omega),peek0_f hx h0 h1]
    simp only [Option.bind_some]
    rw [if_pos h3,w64 (by omega) (by omega)]
    exact h4 k (by omega)
   ·refine ⟨i,fun k hk => ?_,Int.le_refl _,h1⟩
    obtain ⟨k,rfl⟩ : ∃ m,k = m + 1:=⟨k - 1,by omega⟩
    simp only [spec_reader_escape.l0,over_f,Option.bind_some,decide_eq_true_eq]
    rw [if_neg (by omega),peek0_f hx h0 h1]
    simp only [Option.bind_some]
    rw [if_neg h3]
theorem escape_j3 (hx : Tx xs) (h0 : 0 ≤ i) (h1 : i ≤ xs.length) : ∃ i',(∀ k,1 ≤ k → spec_reader_escape.j3 k xs i o = some (i',o)) ∧ i ≤ i' ∧ i' ≤ xs.length:=by
 have hl:=hx.len
 by_cases hn : Ws (Lx.at_ xs i)
 ·have hlt : i + 1 ≤ xs.length:=at_in (fun e => by rw [e] at hn;revert hn;decide) h0
  refine ⟨i + 1,fun k hk => ?_,by omega,hlt⟩
  obtain ⟨k,rfl⟩ : ∃ m,k = m + 1:=⟨k - 1,by omega⟩
  simp only [spec_reader_escape.j3]
  rw [peek0_f hx h0 h1]
  simp only [Option.bind_some]
  rw [isBlank_f]
  simp only [Option.bind_some,decide_eq_true_eq]
  rw [if_pos hn,w64 (by omega) (by omega)]
 ·refine ⟨i,fun k hk => ?_,Int.le_refl _,h1⟩
  obtain ⟨k,rfl⟩ : ∃ m,k = m + 1:=⟨k - 1,by omega⟩
  simp only [spec_reader_escape.j3]
  rw [peek0_f hx h0 h1]
  simp only [Option.bind_some]
  rw [isBlank_f]
  simp only [Option.bind_some,decide_eq_true_eq]
  rw [if_neg hn]
theorem escape_j2 (hx : Tx xs) (h0 : 0 ≤ i) (h1 : i ≤ xs.length) : ∃ i' o',(∀ k,2 ≤ k → spec_reader_escape.j2 k xs i o = some (i',o')) ∧ i ≤ i' ∧ i' ≤ xs.length ∧ (o = true → o' = true):=by
 by_cases h2 : Lx.at_ xs i = 13
 ·obtain ⟨i',h3,h4,h5⟩:=escape_j3 (o:=true) hx h0 h1
  refine ⟨i',true,fun k hk => ?_,h4,h5,fun _ => rfl⟩
  obtain ⟨k,rfl⟩ : ∃ m,k = m + 1:=⟨k - 1,by omega⟩
  simp only [spec_reader_escape.j2]
  rw [peek0_f hx h0 h1]
  simp only [Option.bind_some]
  rw [if_pos h2]
  exact h3 k (by omega)
 ·obtain ⟨i',h3,h4,h5⟩:=escape_j3 (o:=o) hx h0 h1
  refine ⟨i',o,fun k hk => ?_,h4,h5,id⟩
  obtain ⟨k,rfl⟩ : ∃ m,k = m + 1:=⟨k - 1,by omega⟩
  simp only [spec_reader_escape.j2]
  rw [peek0_f hx h0 h1]
  simp only [Option.bind_some]
  rw [if_neg h2]
  exact h3 k (by omega)
theorem escape_l1 (hx : Tx xs) : ∀ (d : Nat) (n i : Int),0 ≤ n → 6 - n ≤ d → 0 ≤ i → i ≤ xs.length → ∃ i' o',(∀ k,d + 4 ≤ k → spec_reader_escape.l1 k n xs i o = some (i',o')) ∧ i ≤ i' ∧ i' ≤ xs.length ∧ (o = true → o' = true):=by
 have hl:=hx.len
 intro d
 induction d with
 | zero =>
  intro n i hn hd h0 h1
  obtain ⟨i',o',h3,h4,h5,h6⟩:=escape_j2 (o:=o) hx h0 h1
  refine ⟨i',o',fun k hk => ?_,h4,h5,h6⟩
  obtain ⟨k,rfl⟩ : ∃ m,k = m + 1:=⟨k - 1,by omega⟩
  simp only [spec_reader_escape.l1]
  rw [if_neg (by omega)]
  exact h3 k (by omega)
 | succ d ih =>
  intro n i hn hd h0 h1
  by_cases h2 : n < 6
  ·have hb:=hx.at_ i
   obtain ⟨v,hv,hv2⟩:=hexValue_f hb.1 hb.2
   by_cases h7 : Hx (Lx.at_ xs i)
   ·have hlt : i + 1 ≤ xs.length:=at_in (fun e => by rw [e] at h7;revert h7;decide) h0
    obtain ⟨i',o',h3,h4,h5,h6⟩:=ih (n + 1) (i + 1) (by omega) (by omega) (by omega) hlt
    refine ⟨i',o',fun k hk => ?_,by omega,h5,h6⟩
    obtain ⟨k,rfl⟩ : ∃ m,k = m + 1:=⟨k - 1,by omega⟩
    simp only [spec_reader_escape.l1]
    rw [if_pos h2,peek0_f hx h0 h1]
    simp only [Option.bind_some]
    rw [hv k (by omega)]
    simp only [Option.bind_some]
    rw [if_pos (hv2.2 h7),w64 (x:=n + 1) (by omega) (by omega),w64 (x:=i + 1) (by omega) (by omega)]
    exact h3 k (by omega)
   ·obtain ⟨i',o',h3,h4,h5,h6⟩:=escape_j2 (o:=o) hx h0 h1
    refine ⟨i',o',fun k hk => ?_,h4,h5,h6⟩
    obtain ⟨k,rfl⟩ : ∃ m,k = m + 1:=⟨k - 1,by omega⟩
    simp only [spec_reader_escape.l1]
    rw [if_pos h2,peek0_f hx h0 h1]
    simp only [Option.bind_some]
    rw [hv k (by omega)]
    simp only [Option.bind_some]
    rw [if_neg (fun h => h7 (hv2.1 h))]
    exact h3 k (by omega)
  ·obtain ⟨i',o',h3,h4,h5,h6⟩:=escape_j2 (o:=o) hx h0 h1
   refine ⟨i',o',fun k hk => ?_,h4,h5,h6⟩
   obtain ⟨k,rfl⟩ : ∃ m,k = m + 1:=⟨k - 1,by omega⟩
   simp only [spec_reader_escape.l1]
   rw [if_neg h2]
   exact h3 k (by omega)
theorem escape_f (hx : Tx xs) (h0 : 0 ≤ i) (h1 : i + 1 < xs.length) : ∃ i' o',(∀ k,xs.length + 12 ≤ k → spec_reader_escape.f k xs i o = some (i',o')) ∧ i < i' ∧ i' ≤ xs.length ∧ (o = true → o' = true):=by
 have hl:=hx.len
 have hb:=hx.at_ (i + 1)
 obtain ⟨v,hv,hv2⟩:=hexValue_f hb.1 hb.2
 by_cases h7 : Hx (Lx.at_ xs (i + 1))
 ·obtain ⟨i',o',h3,h4,h5,h6⟩:=escape_l1 (o:=o) hx 6 0 (i + 1) (by omega) (by omega) (by omega) (by omega)
  refine ⟨i',o',fun k hk => ?_,by omega,h5,h6⟩
  unfold spec_reader_escape.f
  rw [w64 (by omega) (by omega),peek0_f hx (by omega) (by omega)]
  simp only [Option.bind_some]
  rw [hv k (by omega)]
  simp only [Option.bind_some]
  rw [if_neg (by have:=hv2.2 h7;omega)]
  exact h3 k (by omega)
 ·obtain ⟨i',h3,h4,h5⟩:=escape_l0 (o:=o) hx xs.length (i + 1 + 1) (by omega) (by omega) (by omega)
  refine ⟨i',o,fun k hk => ?_,by omega,h5,id⟩
  unfold spec_reader_escape.f
  rw [w64 (by omega) (by omega),peek0_f hx (by omega) (by omega)]
  simp only [Option.bind_some]
  rw [hv k (by omega)]
  simp only [Option.bind_some]
  rw [if_pos (by rcases Int.lt_or_le v 0 with h|h;exact h;exact absurd (hv2.1 h) h7),w64 (by omega) (by omega)]
  exact h3 k (by omega)
theorem name_l (hx : Tx xs) : ∀ (d : Nat) (i : Int) (o : Bool),0 ≤ i → i ≤ xs.length → (xs.length : Int) - i ≤ d → ∃ i' o',(∀ k,d + xs.length + 14 ≤ k → spec_reader_name.l0 k xs i o = some (i',o')) ∧ i ≤ i' ∧ i' ≤ xs.length ∧ (o = true → o' = true) ∧
  (Nm (Lx.at_ xs i) → i < i') ∧ (Nb xs → i' = run Nm xs i ∧ o' = o):=by
 have hl:=hx.len
 intro d
 induction d with
 | zero =>
  intro i o h0 h1 hd
  have hz : Lx.at_ xs i = 0:=at_past (by omega)
  refine ⟨i,o,fun k hk => ?_,Int.le_refl _,h1,id,fun h => absurd (hz ▸ h) (by decide : ¬ Nm 0),fun _ => ⟨(run_stop h0 h1 (by rw [hz];decide)).symm,rfl⟩⟩
  obtain ⟨k,rfl⟩ : ∃ m,k = m + 1:=⟨k - 1,by omega⟩
  simp only [spec_reader_name.l0,over_f,Option.bind_some,decide_eq_true_eq]
  rw [if_pos (by omega)]
 | succ d ih =>
  intro i o h0 h1 hd
  by_cases h2 : i ≥ xs.length
  ·have hz : Lx.at_ xs i = 0:=at_past (by omega)
   refine ⟨i,o,fun k hk => ?_,Int.le_refl _,h1,id,fun h => absurd (hz ▸ h) (by decide : ¬ Nm 0),fun _ => ⟨(run_stop h0 h1 (by rw [hz];decide)).symm,rfl⟩⟩
   obtain ⟨k,rfl⟩ : ∃ m,k = m + 1:=⟨k - 1,by omega⟩
   simp only [spec_reader_name.l0,over_f,Option.bind_some,decide_eq_true_eq]
   rw [if_pos (by omega)]
  ·by_cases h3 : Nm (Lx.at_ xs i)
   ·obtain ⟨i',o',h4,h5,h6,h7,h8,h9⟩:=ih (i + 1) o (by omega) (by omega) (by omega)
    refine ⟨i',o',fun k hk => ?_,by omega,h6,h7,fun _ => by omega,fun hn => ?_⟩
    ·obtain ⟨k,rfl⟩ : ∃ m,k = m + 1:=⟨k - 1,by omega⟩
     simp only [spec_reader_name.l0,over_f,Option.bind_some,decide_eq_true_eq]
     rw [if_neg (by omega),peek0_f hx h0 h1]
     simp only [Option.bind_some]
     rw [isNameByte_f]
     simp only [Option.bind_some,decide_eq_true_eq]
     rw [if_pos h3,w64 (by omega) (by omega)]
     exact h4 k (by omega)
    ·rw [run_step h0 (by omega) h3];exact h9 hn
   ·obtain ⟨b,o1,e1,e2,e3,e4⟩:=escapes_f (o:=o) (n:=0) (i:=i) hx (by omega) (by omega) (by omega) (by omega) (by omega)
    rw [Int.add_zero] at e3 e4
    cases b with
    | true =>
     have e5:=e3 rfl
     obtain ⟨i1,o2,f1,f2,f3,f4⟩:=escape_f (o:=o1) hx h0 e5.2
     obtain ⟨i',o',h4,h5,h6,h7,h8,h9⟩:=ih i1 o2 (by omega) (by omega) (by omega)
     refine ⟨i',o',fun k hk => ?_,by omega,h6,fun h => h7 (f4 (e2 h)),fun _ => by omega,fun hn => absurd e5.1 (hn i)⟩
     obtain ⟨k,rfl⟩ : ∃ m,k = m + 1:=⟨k - 1,by omega⟩
     simp only [spec_reader_name.l0,over_f,Option.bind_some,decide_eq_true_eq]
     rw [if_neg (by omega),peek0_f hx h0 h1]
     simp only [Option.bind_some]
     rw [isNameByte_f]
     simp only [Option.bind_some,decide_eq_true_eq]
     rw [if_neg h3,e1]
     simp only [Option.bind_some,if_true]
     rw [f1 k (by omega)]
     simp only [Option.bind_some]
     exact h4 k (by omega)
    | false =>
     refine ⟨i,o1,fun k hk => ?_,Int.le_refl _,h1,e2,fun h => absurd h h3,fun hn => ⟨(run_stop h0 h1 h3).symm,(e4 (hn i)).2⟩⟩
     obtain ⟨k,rfl⟩ : ∃ m,k = m + 1:=⟨k - 1,by omega⟩
     simp only [spec_reader_name.l0,over_f,Option.bind_some,decide_eq_true_eq]
     rw [if_neg (by omega),peek0_f hx h0 h1]
     simp only [Option.bind_some]
     rw [isNameByte_f]
     simp only [Option.bind_some,decide_eq_true_eq]
     rw [if_neg h3,e1]
     simp
theorem name_f (hx : Tx xs) (h0 : 0 ≤ i) (h1 : i ≤ xs.length) : ∃ i' o',(∀ k,xs.length + xs.length + 14 ≤ k → spec_reader_name.f k xs i o = some (i',o')) ∧ i ≤ i' ∧ i' ≤ xs.length ∧ (o = true → o' = true) ∧
  (Nm (Lx.at_ xs i) → i < i') ∧ (Nb xs → i' = run Nm xs i ∧ o' = o):=name_l hx xs.length i o h0 h1 (by omega)
theorem name_esc (hx : Tx xs) (h0 : 0 ≤ i) (h1 : i ≤ xs.length) {b : Bool} {o1 o2 : Bool} (he : spec_reader_escapes.f xs i o1 0 = some (true,i,o2)) : ∃ i' o',(∀ k,xs.length + xs.length + 16 ≤ k → spec_reader_name.f k xs i o = some (i',o')) ∧ i < i' ∧ i' ≤ xs.length ∧ (o = true → o' = true):=by
 have hl:=hx.len
 by_cases h3 : Nm (Lx.at_ xs i)
 ·obtain ⟨i',o',a1,a2,a3,a4,a5,a6⟩:=name_f (o:=o) hx h0 h1
  exact ⟨i',o',fun k hk => a1 k (by omega),a5 h3,a3,a4⟩
 ·obtain ⟨b,o3,e1,e2,e3,e4⟩:=escapes_f (o:=o) (n:=0) (i:=i) hx (by omega) (by omega) (by omega) (by omega) (by omega)
  have hb : b = true:=by
   have g1:=e1
   unfold spec_reader_escapes.f at g1 he
   rw [peek0_f hx h0 h1] at g1 he
   simp only [Option.bind_some] at g1 he
   by_cases h4 : Lx.at_ xs i = 92
   ·rw [if_pos h4] at g1 he
    by_cases h5 : wrap64 (wrap64 (i + 0) + 1) ≥ (xs.length : Int)
    ·rw [if_pos h5] at he;simp at he
    ·rw [if_neg h5] at g1 he
     rw [w64 (x:=0 + 1) (by omega) (by omega),peek_f hx (by omega) (by omega)] at g1 he
     simp only [Option.bind_some] at g1 he
     rw [isNewline_f] at g1 he
     simp only [Option.bind_some,Option.some.injEq,Prod.mk.injEq] at g1 he
     rw [← g1.1,he.1]
   ·rw [if_neg h4] at he;simp at he
  subst hb
  rw [Int.add_zero] at e3
  have e5:=e3 rfl
  obtain ⟨i1,o4,f1,f2,f3,f4⟩:=escape_f (o:=o3) hx h0 e5.2
  obtain ⟨i',o',h4,h5,h6,h7,h8,h9⟩:=name_l hx xs.length i1 o4 (by omega) (by omega) (by omega)
  refine ⟨i',o',fun k hk => ?_,by omega,h6,fun h => h7 (f4 (e2 h))⟩
  unfold spec_reader_name.f
  obtain ⟨k,rfl⟩ : ∃ m,k = m + 1:=⟨k - 1,by omega⟩
  simp only [spec_reader_name.l0,over_f,Option.bind_some,decide_eq_true_eq]
  rw [if_neg (by omega),peek0_f hx h0 h1]
  simp only [Option.bind_some]
  rw [isNameByte_f]
  simp only [Option.bind_some,decide_eq_true_eq]
  rw [if_neg h3,e1]
  simp only [Option.bind_some,if_true]
  rw [f1 k (by omega)]
  simp only [Option.bind_some]
  exact h4 k (by omega)
theorem identifies_f (hx : Tx xs) (h0 : 0 ≤ i) (h1 : i ≤ xs.length) (hn : 0 ≤ n) (hn4 : n ≤ 2) : ∃ b o',(∀ k,1 ≤ k → spec_reader_identifies.f k xs i o n = some (b,i,o')) ∧ (o = true → o' = true) ∧
  (b = true → Nm (Lx.at_ xs (i + n)) ∨ (n = 0 → spec_reader_escapes.f xs i o 0 = some (true,i,o'))) ∧ (b = true → i + n < xs.length) ∧
  (Nb xs → (b = true ↔ Idt xs (i + n)) ∧ (o' = false → ¬ (Lx.at_ xs (i + n) = 45 ∧ Lx.at_ xs (i + n + 1) = 45))):=by
 have hl:=hx.len
 by_cases h2 : Lx.at_ xs (i + n) = 45
 ·have hns : ¬ Sn (45 : Int):=by decide
  have hlt : i + n < xs.length:=at_lt (by rw [h2];decide)
  have hj : ∀ o1 : Bool,(o = true → o1 = true) → (o1 = false → Lx.at_ xs (i + n + 1) ≠ 45) → ∃ b o',(∀ k,1 ≤ k → spec_reader_identifies.j0 k n xs i o1 = some (b,i,o')) ∧ (o = true → o' = true) ∧ (Nb xs → (b = true ↔ Idt xs (i + n)) ∧ (o' = false → Lx.at_ xs (i + n + 1) ≠ 45)):=by
   intro o1 ho1 ho2
   by_cases h3 : Sn (Lx.at_ xs (i + (n + 1)))
   ·refine ⟨true,o1,fun k hk => ?_,ho1,fun _ => ⟨⟨fun _ => .inr ⟨h2,by rw [show i + n + 1 = i + (n + 1) by omega];exact h3⟩,fun _ => rfl⟩,ho2⟩⟩
    obtain ⟨k,rfl⟩ : ∃ m,k = m + 1:=⟨k - 1,by omega⟩
    simp only [spec_reader_identifies.j0]
    rw [w64 (x:=n + 1) (by omega) (by omega),peek_f hx (by omega) (by omega)]
    simp only [Option.bind_some]
    rw [isStart_f]
    simp only [Option.bind_some,decide_eq_true_eq]
    rw [if_pos h3]
   ·obtain ⟨b,o2,e1,e2,e3,e4⟩:=escapes_f (o:=o1) (n:=n + 1) (i:=i) hx (by omega) (by omega) (by omega) (by omega) (by omega)
    refine ⟨b,o2,fun k hk => ?_,fun h => e2 (ho1 h),fun hn => ?_⟩
    ·obtain ⟨k,rfl⟩ : ∃ m,k = m + 1:=⟨k - 1,by omega⟩
     simp only [spec_reader_identifies.j0]
     rw [w64 (x:=n + 1) (by omega) (by omega),peek_f hx (by omega) (by omega)]
     simp only [Option.bind_some]
     rw [isStart_f]
     simp only [Option.bind_some,decide_eq_true_eq]
     rw [if_neg h3,e1]
     rfl
    ·obtain ⟨rfl,rfl⟩:=e4 (hn _)
     refine ⟨⟨(fun h => by cases h),?_⟩,ho2⟩
     rintro (h|⟨_,h⟩)
     ·rw [h2] at h;exact absurd h hns
     ·rw [show i + n + 1 = i + (n + 1) by omega] at h;exact absurd h h3
  by_cases h3 : Lx.at_ xs (i + (n + 1)) = 45
  ·obtain ⟨b,o',a1,a2,a3⟩:=hj true (fun _ => rfl) (fun h => by cases h)
   refine ⟨b,o',fun k hk => ?_,a2,fun _ => .inl (by rw [h2];decide),fun _ => hlt,fun hn => ⟨(a3 hn).1,fun h h' => (a3 hn).2 h h'.2⟩⟩
   unfold spec_reader_identifies.f
   rw [peek_f hx (by omega) (by omega)]
   simp only [Option.bind_some]
   rw [if_pos h2,w64 (x:=n + 1) (by omega) (by omega),peek_f hx (by omega) (by omega)]
   simp only [Option.bind_some]
   rw [if_pos h3]
   exact a1 k hk
  ·obtain ⟨b,o',a1,a2,a3⟩:=hj o id (fun _ => by rw [show i + n + 1 = i + (n + 1) by omega];exact h3)
   refine ⟨b,o',fun k hk => ?_,a2,fun _ => .inl (by rw [h2];decide),fun _ => hlt,fun hn => ⟨(a3 hn).1,fun h h' => (a3 hn).2 h h'.2⟩⟩
   unfold spec_reader_identifies.f
   rw [peek_f hx (by omega) (by omega)]
   simp only [Option.bind_some]
   rw [if_pos h2,w64 (x:=n + 1) (by omega) (by omega),peek_f hx (by omega) (by omega)]
   simp only [Option.bind_some]
   rw [if_neg h3]
   exact a1 k hk
 ·by_cases h3 : Sn (Lx.at_ xs (i + n))
  ·refine ⟨true,o,fun k hk => ?_,id,fun _ => .inl h3.nm,fun _ => at_lt (fun e => by rw [e] at h3;revert h3;decide),fun _ => ⟨⟨fun _ => .inl h3,fun _ => rfl⟩,fun _ h => h2 h.1⟩⟩
   unfold spec_reader_identifies.f
   rw [peek_f hx (by omega) (by omega)]
   simp only [Option.bind_some]
   rw [if_neg h2,isStart_f]
   simp only [Option.bind_some,decide_eq_true_eq]
   rw [if_pos h3]
  ·obtain ⟨b,o2,e1,e2,e3,e4⟩:=escapes_f (o:=o) (n:=n) (i:=i) hx (by omega) (by omega) (by omega) (by omega) (by omega)
   refine ⟨b,o2,fun k hk => ?_,e2,fun hb => .inr fun hz => ?_,fun hb => by have:=(e3 hb).2;omega,fun hnb => ?_⟩
   ·unfold spec_reader_identifies.f
    rw [peek_f hx (by omega) (by omega)]
    simp only [Option.bind_some]
    rw [if_neg h2,isStart_f]
    simp only [Option.bind_some,decide_eq_true_eq]
    rw [if_neg h3,e1]
    rfl
   ·subst hz;rw [e1,hb]
   ·obtain ⟨rfl,rfl⟩:=e4 (hnb _)
    refine ⟨⟨(fun h => by cases h),?_⟩,fun _ h => h2 h.1⟩
    rintro (h|⟨h,_⟩)
    ·exact absurd h h3
    ·exact absurd h h2
end
section
variable {xs : List Int} {i n c : Int} {o : Bool} {k : Nat}
abbrev kStr : ByteArray:=⟨#[115,116,114,105,110,103]⟩
abbrev kBad : ByteArray:=⟨#[98,97,100,32,115,116,114,105,110,103]⟩
abbrev kCom : ByteArray:=⟨#[99,111,109,109,101,110,116]⟩
abbrev kRan : ByteArray:=⟨#[114,97,110,103,101]⟩
abbrev kDim : ByteArray:=⟨#[100,105,109,101,110,115,105,111,110]⟩
abbrev kPct : ByteArray:=⟨#[112,101,114,99,101,110,116,97,103,101]⟩
abbrev kNum : ByteArray:=⟨#[110,117,109,98,101,114]⟩
abbrev kUrl : ByteArray:=⟨#[117,114,108]⟩
theorem quoted_l (hx : Tx xs) (q : Int) : ∀ (d : Nat) (j : Int) (o : Bool),0 ≤ j → j ≤ xs.length → (xs.length : Int) - j ≤ d → ∃ kind i' o',(∀ k,d + d + xs.length + 20 ≤ k → spec_reader_quoted.l0 k q xs j o = some (kind,i',o')) ∧ j ≤ i' ∧ i' ≤ xs.length ∧ (o = true → o' = true) ∧
  (Nb xs → N0 xs → o' = false → kind = kStr ∧ ∃ r,i' = r + 1 ∧ j ≤ r ∧ r < xs.length ∧ Lx.at_ xs r = q ∧ ∀ m,j ≤ m → m < r → Sc q (Lx.at_ xs m)):=by
 have hl:=hx.len
 intro d
 induction d with
 | zero =>
  intro j o h0 h1 hd
  refine ⟨kStr,j,true,fun k hk => ?_,Int.le_refl _,h1,fun _ => rfl,fun _ _ h => by cases h⟩
  ·obtain ⟨k,rfl⟩ : ∃ m,k = m + 1:=⟨k - 1,by omega⟩
   simp only [spec_reader_quoted.l0,over_f,Option.bind_some,decide_eq_true_eq]
   rw [if_pos (by omega)]
 | succ d ih =>
  intro j o h0 h1 hd
  by_cases h2 : j ≥ xs.length
  ·refine ⟨kStr,j,true,fun k hk => ?_,Int.le_refl _,h1,fun _ => rfl,fun _ _ h => by cases h⟩
   ·obtain ⟨k,rfl⟩ : ∃ m,k = m + 1:=⟨k - 1,by omega⟩
    simp only [spec_reader_quoted.l0,over_f,Option.bind_some,decide_eq_true_eq]
    rw [if_pos (by omega)]
  ·have hstep : ∀ k,spec_reader_quoted.l0 (k + 1) q xs j o = (if Lx.at_ xs j = q then (some ((⟨#[115,116,114,105,110,103]⟩ : ByteArray),j + 1,o)) else (if (Lx.at_ xs j = 10 ∨ Lx.at_ xs j = 13 ∨ Lx.at_ xs j = 12) then (some ((⟨#[98,97,100,32,115,116,114,105,110,103]⟩ : ByteArray),j,true)) else (if Lx.at_ xs j = 92 then (spec_reader_quoted.j1 k q (decide (Lx.at_ xs (j + 1) = 10 ∨ Lx.at_ xs (j + 1) = 13 ∨ Lx.at_ xs (j + 1) = 12)) xs j o) else (spec_reader_quoted.j1 k q false xs j o)))):=by
    intro k
    simp only [spec_reader_quoted.l0,over_f,Option.bind_some,decide_eq_true_eq]
    rw [if_neg h2,peek0_f hx h0 h1]
    simp only [Option.bind_some]
    rw [w64 (by omega) (by omega),isNewline_f]
    simp only [Option.bind_some,decide_eq_true_eq]
    rw [peek_f hx (by omega) (by omega)]
    simp only [Option.bind_some]
    rw [isNewline_f]
    simp only [Option.bind_some]
   by_cases h3 : Lx.at_ xs j = q
   ·refine ⟨kStr,j + 1,o,fun k hk => ?_,by omega,by omega,id,fun _ _ _ => ⟨rfl,j,rfl,Int.le_refl _,by omega,h3,fun m a b => by omega⟩⟩
    obtain ⟨k,rfl⟩ : ∃ m,k = m + 1:=⟨k - 1,by omega⟩
    rw [hstep,if_pos h3]
   ·by_cases h4 : Lx.at_ xs j = 10 ∨ Lx.at_ xs j = 13 ∨ Lx.at_ xs j = 12
    ·refine ⟨kBad,j,true,fun k hk => ?_,Int.le_refl _,h1,fun _ => rfl,fun _ _ h => by cases h⟩
     ·obtain ⟨k,rfl⟩ : ∃ m,k = m + 1:=⟨k - 1,by omega⟩
      rw [hstep,if_neg h3,if_pos h4]
    ·
     have hj1 : ∃ kind i' o',(∀ k,d + d + xs.length + 21 ≤ k → spec_reader_quoted.j1 k q false xs j o = some (kind,i',o')) ∧ j ≤ i' ∧ i' ≤ xs.length ∧ (o = true → o' = true) ∧
       (Nb xs → N0 xs → o' = false → kind = kStr ∧ ∃ r,i' = r + 1 ∧ j + 1 ≤ r ∧ r < xs.length ∧ Lx.at_ xs r = q ∧ ∀ m,j + 1 ≤ m → m < r → Sc q (Lx.at_ xs m)):=by
      obtain ⟨b,o1,e1,e2,e3,e4⟩:=escapes_f (o:=o) (n:=0) (i:=j) hx (by omega) (by omega) (by omega) (by omega) (by omega)
      rw [Int.add_zero] at e3 e4
      cases b with
      | true =>
       have e5:=e3 rfl
       obtain ⟨i1,o2,f1,f2,f3,f4⟩:=escape_f (o:=o1) hx h0 e5.2
       obtain ⟨kind,i',o',g1,g2,g3,g4,g5⟩:=ih i1 o2 (by omega) (by omega) (by omega)
       refine ⟨kind,i',o',fun k hk => ?_,by omega,g3,fun h => g4 (f4 (e2 h)),fun hn => absurd e5.1 (hn j)⟩
       obtain ⟨k,rfl⟩ : ∃ m,k = m + 1:=⟨k - 1,by omega⟩
       simp only [spec_reader_quoted.j1]
       rw [if_neg (by decide),e1]
       simp only [Option.bind_some,if_true]
       rw [f1 k (by omega)]
       simp only [Option.bind_some]
       exact g1 k (by omega)
      | false =>
       obtain ⟨kind,i',o',g1,g2,g3,g4,g5⟩:=ih (j + 1) o1 (by omega) (by omega) (by omega)
       refine ⟨kind,i',o',fun k hk => ?_,by omega,g3,fun h => g4 (e2 h),fun hn h0' ho' => g5 hn h0' ho'⟩
       obtain ⟨k,rfl⟩ : ∃ m,k = m + 1:=⟨k - 1,by omega⟩
       simp only [spec_reader_quoted.j1]
       rw [if_neg (by decide),e1]
       simp only [Option.bind_some]
       rw [if_neg (by decide),w64 (by omega) (by omega)]
       exact g1 k (by omega)
     by_cases h5 : Lx.at_ xs j = 92
     ·by_cases h6 : Lx.at_ xs (j + 1) = 10 ∨ Lx.at_ xs (j + 1) = 13 ∨ Lx.at_ xs (j + 1) = 12
      ·have h7 : j + 1 + 1 ≤ xs.length:=at_in (by omega) (by omega)
       obtain ⟨kind,i',o',g1,g2,g3,g4,g5⟩:=ih (j + 2) (if Lx.at_ xs (j + 1) = 13 then true else o) (by omega) (by omega) (by omega)
       refine ⟨kind,i',o',fun k hk => ?_,by omega,g3,fun h => g4 (by rw [h];split <;> rfl),fun hn => absurd h5 (hn j)⟩
       obtain ⟨k,rfl⟩ : ∃ m,k = m + 1:=⟨k - 1,by omega⟩
       rw [hstep,if_neg h3,if_neg h4,if_pos h5,decide_eq_true h6]
       obtain ⟨k,rfl⟩ : ∃ m,k = m + 1:=⟨k - 1,by omega⟩
       simp only [spec_reader_quoted.j1,if_true]
       rw [peek_f hx (by omega) (by omega)]
       simp only [Option.bind_some]
       rw [w64 (by omega) (by omega),← g1 k (by omega)]
       split <;> rfl
      ·obtain ⟨kind,i',o',g1,g2,g3,g4,g5⟩:=hj1
       refine ⟨kind,i',o',fun k hk => ?_,g2,g3,g4,fun hn => absurd h5 (hn j)⟩
       obtain ⟨k,rfl⟩ : ∃ m,k = m + 1:=⟨k - 1,by omega⟩
       rw [hstep,if_neg h3,if_neg h4,if_pos h5,decide_eq_false h6]
       exact g1 k (by omega)
     ·obtain ⟨kind,i',o',g1,g2,g3,g4,g5⟩:=hj1
      refine ⟨kind,i',o',fun k hk => ?_,g2,g3,g4,fun hn hz ho' => ?_⟩
      ·obtain ⟨k,rfl⟩ : ∃ m,k = m + 1:=⟨k - 1,by omega⟩
       rw [hstep,if_neg h3,if_neg h4,if_neg h5]
       exact g1 k (by omega)
      ·obtain ⟨r1,r,r2,r3,r4,r5,r6⟩:=g5 hn hz ho'
       refine ⟨r1,r,r2,by omega,r4,r5,fun m a b => ?_⟩
       by_cases hm : j + 1 ≤ m
       ·exact r6 m hm b
       ·obtain rfl : m = j:=by omega
        have hz:=hz m h0 (by omega)
        unfold Sc
        simp
        omega
theorem quoted_f (hx : Tx xs) (h0 : 0 ≤ i) (h1 : i < xs.length) : ∃ kind i' o',(∀ k,xs.length + xs.length + xs.length + 20 ≤ k → spec_reader_quoted.f k xs i o = some (kind,i',o')) ∧ i < i' ∧ i' ≤ xs.length ∧ (o = true → o' = true) ∧
  (Nb xs → N0 xs → o' = false → kind = kStr ∧ ∃ r,i' = r + 1 ∧ i + 1 ≤ r ∧ r < xs.length ∧ Lx.at_ xs r = Lx.at_ xs i ∧ ∀ m,i + 1 ≤ m → m < r → Sc (Lx.at_ xs i) (Lx.at_ xs m)):=by
 have hl:=hx.len
 obtain ⟨kind,i',o',g1,g2,g3,g4,g5⟩:=quoted_l hx (Lx.at_ xs i) xs.length (i + 1) o (by omega) (by omega) (by omega)
 refine ⟨kind,i',o',fun k hk => ?_,by omega,g3,g4,g5⟩
 unfold spec_reader_quoted.f
 rw [peek0_f hx h0 (by omega)]
 simp only [Option.bind_some]
 rw [w64 (by omega) (by omega)]
 exact g1 k (by omega)
theorem comment_l (hx : Tx xs) : ∀ (d : Nat) (j : Int) (o : Bool),0 ≤ j → j ≤ xs.length → (xs.length : Int) - j ≤ d → ∃ i' o',(∀ k,d + 1 ≤ k → spec_reader_comment.l0 k xs j o = some (kCom,i',o')) ∧ j ≤ i' ∧ i' ≤ xs.length ∧ (o = true → o' = true):=by
 have hl:=hx.len
 intro d
 induction d with
 | zero =>
  intro j o h0 h1 hd
  refine ⟨j,true,fun k hk => ?_,Int.le_refl _,h1,fun _ => rfl⟩
  obtain ⟨k,rfl⟩ : ∃ m,k = m + 1:=⟨k - 1,by omega⟩
  simp only [spec_reader_comment.l0,over_f,Option.bind_some,decide_eq_true_eq]
  rw [if_pos (by omega)]
 | succ d ih =>
  intro j o h0 h1 hd
  by_cases h2 : j ≥ xs.length
  ·refine ⟨j,true,fun k hk => ?_,Int.le_refl _,h1,fun _ => rfl⟩
   obtain ⟨k,rfl⟩ : ∃ m,k = m + 1:=⟨k - 1,by omega⟩
   simp only [spec_reader_comment.l0,over_f,Option.bind_some,decide_eq_true_eq]
   rw [if_pos (by omega)]
  ·obtain ⟨i',o',g1,g2,g3,g4⟩:=ih (j + 1) o (by omega) (by omega) (by omega)
   by_cases h3 : Lx.at_ xs j = 42
   ·by_cases h4 : Lx.at_ xs (j + 1) = 47
    ·have h5 : j + 1 + 1 ≤ xs.length:=at_in (by omega) (by omega)
     refine ⟨j + 2,o,fun k hk => ?_,by omega,by omega,id⟩
     obtain ⟨k,rfl⟩ : ∃ m,k = m + 1:=⟨k - 1,by omega⟩
     simp only [spec_reader_comment.l0,over_f,Option.bind_some,decide_eq_true_eq]
     rw [if_neg h2,peek0_f hx h0 h1]
     simp only [Option.bind_some]
     rw [if_pos h3,peek_f hx (by omega) (by omega)]
     simp only [Option.bind_some]
     rw [if_pos h4,w64 (by omega) (by omega)]
    ·refine ⟨i',o',fun k hk => ?_,by omega,g3,g4⟩
     obtain ⟨k,rfl⟩ : ∃ m,k = m + 1:=⟨k - 1,by omega⟩
     simp only [spec_reader_comment.l0,over_f,Option.bind_some,decide_eq_true_eq]
     rw [if_neg h2,peek0_f hx h0 h1]
     simp only [Option.bind_some]
     rw [if_pos h3,peek_f hx (by omega) (by omega)]
     simp only [Option.bind_some]
     rw [if_neg h4,w64 (by omega) (by omega)]
     exact g1 k (by omega)
   ·refine ⟨i',o',fun k hk => ?_,by omega,g3,g4⟩
    obtain ⟨k,rfl⟩ : ∃ m,k = m + 1:=⟨k - 1,by omega⟩
    simp only [spec_reader_comment.l0,over_f,Option.bind_some,decide_eq_true_eq]
    rw [if_neg h2,peek0_f hx h0 h1]
    simp only [Option.bind_some]
    rw [if_neg h3,w64 (by omega) (by omega)]
    exact g1 k (by omega)
theorem comment_f (hx : Tx xs) (h0 : 0 ≤ i) (h1 : i + 2 ≤ xs.length) : ∃ i' o',(∀ k,xs.length + 1 ≤ k → spec_reader_comment.f k xs i o = some (kCom,i',o')) ∧ i < i' ∧ i' ≤ xs.length ∧ (o = true → o' = true):=by
 have hl:=hx.len
 obtain ⟨i',o',g1,g2,g3,g4⟩:=comment_l hx xs.length (i + 2) o (by omega) (by omega) (by omega)
 refine ⟨i',o',fun k hk => ?_,by omega,g3,g4⟩
 unfold spec_reader_comment.f
 rw [w64 (by omega) (by omega)]
 exact g1 k (by omega)
theorem codes_j8 (hx : Tx xs) (h0 : 0 ≤ i) (h1 : i ≤ xs.length) : ∃ o',(∀ k,2 ≤ k → spec_reader_codes.j8 k xs i o = some (kRan,i,o')) ∧ (o = true → o' = true):=by
 have hb:=hx.at_ i
 obtain ⟨v,hv,hv2⟩:=hexValue_f hb.1 hb.2
 by_cases h2 : v ≥ 0
 ·refine ⟨true,fun k hk => ?_,fun _ => rfl⟩
  obtain ⟨k,rfl⟩ : ∃ m,k = m + 1:=⟨k - 1,by omega⟩
  simp only [spec_reader_codes.j8]
  rw [peek0_f hx h0 h1]
  simp only [Option.bind_some]
  rw [hv k (by omega)]
  simp only [Option.bind_some]
  rw [if_pos h2]
 ·refine ⟨o,fun k hk => ?_,id⟩
  obtain ⟨k,rfl⟩ : ∃ m,k = m + 1:=⟨k - 1,by omega⟩
  simp only [spec_reader_codes.j8]
  rw [peek0_f hx h0 h1]
  simp only [Option.bind_some]
  rw [hv k (by omega)]
  simp only [Option.bind_some]
  rw [if_neg h2]
theorem codes_l2 (hx : Tx xs) : ∀ (d : Nat) (n i : Int),0 ≤ n → 6 - n ≤ d → 0 ≤ i → i ≤ xs.length → ∃ i' o',(∀ k,d + 4 ≤ k → spec_reader_codes.l2 k n xs i o = some (kRan,i',o')) ∧ i ≤ i' ∧ i' ≤ xs.length ∧ (o = true → o' = true):=by
 have hl:=hx.len
 intro d
 induction d with
 | zero =>
  intro n i hn hd h0 h1
  obtain ⟨o',h3,h4⟩:=codes_j8 (o:=o) hx h0 h1
  refine ⟨i,o',fun k hk => ?_,Int.le_refl _,h1,h4⟩
  obtain ⟨k,rfl⟩ : ∃ m,k = m + 1:=⟨k - 1,by omega⟩
  simp only [spec_reader_codes.l2]
  rw [if_neg (by omega)]
  exact h3 k (by omega)
 | succ d ih =>
  intro n i hn hd h0 h1
  obtain ⟨o1,h3,h4⟩:=codes_j8 (o:=o) hx h0 h1
  by_cases h2 : n < 6
  ·have hb:=hx.at_ i
   obtain ⟨v,hv,hv2⟩:=hexValue_f hb.1 hb.2
   by_cases h7 : v ≥ 0
   ·have h8:=hv2.1 h7
    have hlt : i + 1 ≤ xs.length:=at_in (fun e => by rw [e] at h8;exact absurd h8 (by decide)) h0
    obtain ⟨i',o',g1,g2,g3,g4⟩:=ih (n + 1) (i + 1) (by omega) (by omega) (by omega) hlt
    refine ⟨i',o',fun k hk => ?_,by omega,g3,g4⟩
    obtain ⟨k,rfl⟩ : ∃ m,k = m + 1:=⟨k - 1,by omega⟩
    simp only [spec_reader_codes.l2]
    rw [if_pos h2,peek0_f hx h0 h1]
    simp only [Option.bind_some]
    rw [hv k (by omega)]
    simp only [Option.bind_some]
    rw [if_pos h7,w64 (x:=n + 1) (by omega) (by omega),w64 (x:=i + 1) (by omega) (by omega)]
    exact g1 k (by omega)
   ·refine ⟨i,o1,fun k hk => ?_,Int.le_refl _,h1,h4⟩
    obtain ⟨k,rfl⟩ : ∃ m,k = m + 1:=⟨k - 1,by omega⟩
    simp only [spec_reader_codes.l2]
    rw [if_pos h2,peek0_f hx h0 h1]
    simp only [Option.bind_some]
    rw [hv k (by omega)]
    simp only [Option.bind_some]
    rw [if_neg h7]
    exact h3 k (by omega)
  ·refine ⟨i,o1,fun k hk => ?_,Int.le_refl _,h1,h4⟩
   obtain ⟨k,rfl⟩ : ∃ m,k = m + 1:=⟨k - 1,by omega⟩
   simp only [spec_reader_codes.l2]
   rw [if_neg h2]
   exact h3 k (by omega)
def CdEnd (xs : List Int) (i : Int) (o : Bool) (K : Nat) (f : Nat → Option (ByteArray × Int × Bool)) : Prop :=
 ∃ i' o',(∀ k,K ≤ k → f k = some (kRan,i',o')) ∧ i ≤ i' ∧ i' ≤ xs.length ∧ (o = true → o' = true)
theorem codes_j6 (hx : Tx xs) (h0 : 0 ≤ i) (h1 : i ≤ xs.length) (b : Bool) (hb : b = true → i + 1 ≤ xs.length) : CdEnd xs i o 12 (fun k => spec_reader_codes.j6 k b xs i o):=by
 have hl:=hx.len
 cases b with
 | true =>
  have hb:=hb rfl
  obtain ⟨i',o',g1,g2,g3,g4⟩:=codes_l2 (o:=o) hx 6 0 (i + 1) (by omega) (by omega) (by omega) hb
  refine ⟨i',o',fun k hk => ?_,by omega,g3,g4⟩
  obtain ⟨k,rfl⟩ : ∃ m,k = m + 1:=⟨k - 1,by omega⟩
  simp only [spec_reader_codes.j6,if_true]
  rw [w64 (by omega) (by omega)]
  exact g1 k (by omega)
 | false =>
  refine ⟨i,o,fun k hk => ?_,Int.le_refl _,h1,id⟩
  obtain ⟨k,rfl⟩ : ∃ m,k = m + 1:=⟨k - 1,by omega⟩
  simp only [spec_reader_codes.j6]
  rw [if_neg (by decide)]
theorem codes_j5 (hx : Tx xs) (h0 : 0 ≤ i) (h1 : i ≤ xs.length) (b : Bool) : CdEnd xs i o 13 (fun k => spec_reader_codes.j5 k b xs i o):=by
 have hl:=hx.len
 have hf:=codes_j6 (o:=o) hx h0 h1 false (fun h => by cases h)
 obtain ⟨i1,o1,f1,f2,f3,f4⟩:=hf
 cases b with
 | true =>
  refine ⟨i1,o1,fun k hk => ?_,f2,f3,f4⟩
  obtain ⟨k,rfl⟩ : ∃ m,k = m + 1:=⟨k - 1,by omega⟩
  simp only [spec_reader_codes.j5,if_true]
  exact f1 k (by omega)
 | false =>
  by_cases h2 : Lx.at_ xs i = 45
  ·have hb:=hx.at_ (i + 1)
   obtain ⟨v,hv,hv2⟩:=hexValue_f hb.1 hb.2
   obtain ⟨i2,o2,g1,g2,g3,g4⟩:=codes_j6 (o:=o) hx h0 h1 (decide (v ≥ 0)) (fun _ => at_in (by omega) h0)
   refine ⟨i2,o2,fun k hk => ?_,g2,g3,g4⟩
   obtain ⟨k,rfl⟩ : ∃ m,k = m + 1:=⟨k - 1,by omega⟩
   simp only [spec_reader_codes.j5]
   rw [if_neg (by decide),peek0_f hx h0 h1]
   simp only [Option.bind_some]
   rw [if_pos h2,peek_f hx (by omega) (by omega)]
   simp only [Option.bind_some]
   rw [hv k (by omega)]
   simp only [Option.bind_some]
   exact g1 k (by omega)
  ·refine ⟨i1,o1,fun k hk => ?_,f2,f3,f4⟩
   obtain ⟨k,rfl⟩ : ∃ m,k = m + 1:=⟨k - 1,by omega⟩
   simp only [spec_reader_codes.j5]
   rw [if_neg (by decide),peek0_f hx h0 h1]
   simp only [Option.bind_some]
   rw [if_neg h2]
   exact f1 k (by omega)
theorem codes_j4 (hx : Tx xs) (h0 : 0 ≤ i) (h1 : i ≤ xs.length) (b b2 : Bool) : CdEnd xs i o 14 (fun k => spec_reader_codes.j4 k b b2 xs i o):=by
 cases b2 with
 | true =>
  obtain ⟨i1,o1,f1,f2,f3,f4⟩:=codes_j5 (o:=true) hx h0 h1 b
  refine ⟨i1,o1,fun k hk => ?_,f2,f3,fun _ => f4 rfl⟩
  obtain ⟨k,rfl⟩ : ∃ m,k = m + 1:=⟨k - 1,by omega⟩
  simp only [spec_reader_codes.j4,if_true]
  exact f1 k (by omega)
 | false =>
  obtain ⟨i1,o1,f1,f2,f3,f4⟩:=codes_j5 (o:=o) hx h0 h1 b
  refine ⟨i1,o1,fun k hk => ?_,f2,f3,f4⟩
  obtain ⟨k,rfl⟩ : ∃ m,k = m + 1:=⟨k - 1,by omega⟩
  simp only [spec_reader_codes.j4]
  rw [if_neg (by decide)]
  exact f1 k (by omega)
theorem codes_j3 (hx : Tx xs) (h0 : 0 ≤ i) (h1 : i ≤ xs.length) (b : Bool) : CdEnd xs i o 15 (fun k => spec_reader_codes.j3 k b xs i o):=by
 have hl:=hx.len
 have hb:=hx.at_ i
 obtain ⟨v,hv,hv2⟩:=hexValue_f hb.1 hb.2
 have hb':=hx.at_ (i + 1)
 obtain ⟨v',hv',hv2'⟩:=hexValue_f hb'.1 hb'.2
 have key : ∃ b2 : Bool,∀ k,1 ≤ k → spec_reader_codes.j3 (k + 1) b xs i o = spec_reader_codes.j4 k b b2 xs i o:=by
  by_cases h2 : v ≥ 0
  ·refine ⟨true,fun k hk => ?_⟩
   simp only [spec_reader_codes.j3]
   rw [peek0_f hx h0 h1]
   simp only [Option.bind_some]
   rw [hv k (by omega)]
   simp only [Option.bind_some]
   rw [if_pos h2]
  ·by_cases h3 : Lx.at_ xs i = 63
   ·refine ⟨true,fun k hk => ?_⟩
    simp only [spec_reader_codes.j3]
    rw [peek0_f hx h0 h1]
    simp only [Option.bind_some]
    rw [hv k (by omega)]
    simp only [Option.bind_some]
    rw [if_neg h2,peek0_f hx h0 h1]
    simp only [Option.bind_some]
    rw [if_pos h3]
   ·by_cases h4 : Lx.at_ xs i = 45
    ·cases b with
     | true =>
      refine ⟨true,fun k hk => ?_⟩
      simp only [spec_reader_codes.j3]
      rw [peek0_f hx h0 h1]
      simp only [Option.bind_some]
      rw [hv k (by omega)]
      simp only [Option.bind_some]
      rw [if_neg h2,peek0_f hx h0 h1]
      simp only [Option.bind_some]
      rw [if_neg h3,peek0_f hx h0 h1]
      simp only [Option.bind_some]
      rw [if_pos h4,if_pos trivial]
     | false =>
      refine ⟨decide (v' < 0),fun k hk => ?_⟩
      simp only [spec_reader_codes.j3]
      rw [peek0_f hx h0 h1]
      simp only [Option.bind_some]
      rw [hv k (by omega)]
      simp only [Option.bind_some]
      rw [if_neg h2,peek0_f hx h0 h1]
      simp only [Option.bind_some]
      rw [if_neg h3,peek0_f hx h0 h1]
      simp only [Option.bind_some]
      rw [if_pos h4,if_neg (by decide),peek_f hx (by omega) (by omega)]
      simp only [Option.bind_some]
      rw [hv' k (by omega)]
      simp only [Option.bind_some]
    ·refine ⟨false,fun k hk => ?_⟩
     simp only [spec_reader_codes.j3]
     rw [peek0_f hx h0 h1]
     simp only [Option.bind_some]
     rw [hv k (by omega)]
     simp only [Option.bind_some]
     rw [if_neg h2,peek0_f hx h0 h1]
     simp only [Option.bind_some]
     rw [if_neg h3,peek0_f hx h0 h1]
     simp only [Option.bind_some]
     rw [if_neg h4]
 obtain ⟨b2,hk2⟩:=key
 obtain ⟨i1,o1,f1,f2,f3,f4⟩:=codes_j4 (o:=o) hx h0 h1 b b2
 refine ⟨i1,o1,fun k hk => ?_,f2,f3,f4⟩
 obtain ⟨k,rfl⟩ : ∃ m,k = m + 1:=⟨k - 1,by omega⟩
 show spec_reader_codes.j3 (k + 1) b xs i o = _
 rw [hk2 k (by omega)]
 exact f1 k (by omega)
theorem codes_l1 (hx : Tx xs) : ∀ (d : Nat) (n i : Int) (b : Bool),0 ≤ n → 6 - n ≤ d → 0 ≤ i → i ≤ xs.length → CdEnd xs i o (d + 16) (fun k => spec_reader_codes.l1 k n b xs i o):=by
 have hl:=hx.len
 intro d
 induction d with
 | zero =>
  intro n i b hn hd h0 h1
  obtain ⟨i1,o1,f1,f2,f3,f4⟩:=codes_j3 (o:=o) hx h0 h1 b
  refine ⟨i1,o1,fun k hk => ?_,f2,f3,f4⟩
  obtain ⟨k,rfl⟩ : ∃ m,k = m + 1:=⟨k - 1,by omega⟩
  simp only [spec_reader_codes.l1]
  rw [if_neg (by omega)]
  exact f1 k (by omega)
 | succ d ih =>
  intro n i b hn hd h0 h1
  obtain ⟨i1,o1,f1,f2,f3,f4⟩:=codes_j3 (o:=o) hx h0 h1 b
  by_cases h2 : n < 6
  ·by_cases h3 : Lx.at_ xs i = 63
   ·have hlt : i + 1 ≤ xs.length:=at_in (by omega) h0
    obtain ⟨i',o',g1,g2,g3,g4⟩:=ih (n + 1) (i + 1) true (by omega) (by omega) (by omega) hlt
    refine ⟨i',o',fun k hk => ?_,by omega,g3,g4⟩
    obtain ⟨k,rfl⟩ : ∃ m,k = m + 1:=⟨k - 1,by omega⟩
    simp only [spec_reader_codes.l1]
    rw [if_pos h2,peek0_f hx h0 h1]
    simp only [Option.bind_some]
    rw [if_pos h3,w64 (x:=n + 1) (by omega) (by omega),w64 (x:=i + 1) (by omega) (by omega)]
    exact g1 k (by omega)
   ·refine ⟨i1,o1,fun k hk => ?_,f2,f3,f4⟩
    obtain ⟨k,rfl⟩ : ∃ m,k = m + 1:=⟨k - 1,by omega⟩
    simp only [spec_reader_codes.l1]
    rw [if_pos h2,peek0_f hx h0 h1]
    simp only [Option.bind_some]
    rw [if_neg h3]
    exact f1 k (by omega)
  ·refine ⟨i1,o1,fun k hk => ?_,f2,f3,f4⟩
   obtain ⟨k,rfl⟩ : ∃ m,k = m + 1:=⟨k - 1,by omega⟩
   simp only [spec_reader_codes.l1]
   rw [if_neg h2]
   exact f1 k (by omega)
theorem codes_l0 (hx : Tx xs) : ∀ (d : Nat) (n i : Int),0 ≤ n → 6 - n ≤ d → 0 ≤ i → i ≤ xs.length → CdEnd xs i o (d + 24) (fun k => spec_reader_codes.l0 k n xs i o):=by
 have hl:=hx.len
 intro d
 induction d with
 | zero =>
  intro n i hn hd h0 h1
  obtain ⟨i1,o1,f1,f2,f3,f4⟩:=codes_l1 (o:=o) hx 6 n i false hn (by omega) h0 h1
  refine ⟨i1,o1,fun k hk => ?_,f2,f3,f4⟩
  obtain ⟨k,rfl⟩ : ∃ m,k = m + 1:=⟨k - 1,by omega⟩
  simp only [spec_reader_codes.l0]
  rw [if_neg (by omega)]
  obtain ⟨k,rfl⟩ : ∃ m,k = m + 1:=⟨k - 1,by omega⟩
  simp only [spec_reader_codes.j1]
  exact f1 k (by omega)
 | succ d ih =>
  intro n i hn hd h0 h1
  obtain ⟨i1,o1,f1,f2,f3,f4⟩:=codes_l1 (o:=o) hx 6 n i false hn (by omega) h0 h1
  by_cases h2 : n < 6
  ·have hb:=hx.at_ i
   obtain ⟨v,hv,hv2⟩:=hexValue_f hb.1 hb.2
   by_cases h7 : v ≥ 0
   ·have h8:=hv2.1 h7
    have hlt : i + 1 ≤ xs.length:=at_in (fun e => by rw [e] at h8;exact absurd h8 (by decide)) h0
    obtain ⟨i',o',g1,g2,g3,g4⟩:=ih (n + 1) (i + 1) (by omega) (by omega) (by omega) hlt
    refine ⟨i',o',fun k hk => ?_,by omega,g3,g4⟩
    obtain ⟨k,rfl⟩ : ∃ m,k = m + 1:=⟨k - 1,by omega⟩
    simp only [spec_reader_codes.l0]
    rw [if_pos h2,peek0_f hx h0 h1]
    simp only [Option.bind_some]
    rw [hv k (by omega)]
    simp only [Option.bind_some]
    rw [if_pos h7,w64 (x:=n + 1) (by omega) (by omega),w64 (x:=i + 1) (by omega) (by omega)]
    exact g1 k (by omega)
   ·refine ⟨i1,o1,fun k hk => ?_,f2,f3,f4⟩
    obtain ⟨k,rfl⟩ : ∃ m,k = m + 1:=⟨k - 1,by omega⟩
    simp only [spec_reader_codes.l0]
    rw [if_pos h2,peek0_f hx h0 h1]
    simp only [Option.bind_some]
    rw [hv k (by omega)]
    simp only [Option.bind_some]
    rw [if_neg h7]
    obtain ⟨k,rfl⟩ : ∃ m,k = m + 1:=⟨k - 1,by omega⟩
    simp only [spec_reader_codes.j1]
    exact f1 k (by omega)
  ·refine ⟨i1,o1,fun k hk => ?_,f2,f3,f4⟩
   obtain ⟨k,rfl⟩ : ∃ m,k = m + 1:=⟨k - 1,by omega⟩
   simp only [spec_reader_codes.l0]
   rw [if_neg h2]
   obtain ⟨k,rfl⟩ : ∃ m,k = m + 1:=⟨k - 1,by omega⟩
   simp only [spec_reader_codes.j1]
   exact f1 k (by omega)
theorem codes_f (hx : Tx xs) (h0 : 0 ≤ i) (h1 : i + 2 ≤ xs.length) : ∃ i' o',(∀ k,30 ≤ k → spec_reader_codes.f k xs i o = some (kRan,i',o')) ∧ i < i' ∧ i' ≤ xs.length ∧ (o = true → o' = true):=by
 have hl:=hx.len
 obtain ⟨i',o',g1,g2,g3,g4⟩:=codes_l0 (o:=o) hx 6 0 (i + 2) (by omega) (by omega) (by omega) (by omega)
 refine ⟨i',o',fun k hk => ?_,by omega,g3,g4⟩
 unfold spec_reader_codes.f
 rw [w64 (by omega) (by omega)]
 exact g1 k (by omega)
end
section
variable {xs : List Int} {i n c q p : Int} {o : Bool} {k : Nat}
def sg (xs : List Int) (i : Int) : Int:=if Lx.at_ xs i = 43 ∨ Lx.at_ xs i = 45 then 1 else 0
def NumAt (xs : List Int) (i : Int) : Prop:=Dg (Lx.at_ xs (i + sg xs i)) ∨ (Lx.at_ xs (i + sg xs i) = 46 ∧ Dg (Lx.at_ xs (i + sg xs i + 1)))
theorem sg_or (xs : List Int) (i : Int) : sg xs i = 0 ∨ sg xs i = 1:=by unfold sg;split <;> simp
theorem sg_sgn (xs : List Int) (i : Int) : ∃ b,Sgn xs i (i + sg xs i) b:=by
 unfold sg Sgn
 by_cases h1 : Lx.at_ xs i = 43
 ·exact ⟨true,.inl ⟨rfl,h1,by rw [if_pos (.inl h1)]⟩⟩
 ·by_cases h2 : Lx.at_ xs i = 45
  ·exact ⟨true,.inr (.inl ⟨rfl,h2,by rw [if_pos (.inr h2)]⟩)⟩
  ·exact ⟨false,.inr (.inr ⟨rfl,by simpa using h1,by simpa using h2,by rw [if_neg (by omega)];omega⟩)⟩
theorem numbers_j1 (hx : Tx xs) (h0 : 0 ≤ i) (h1 : i ≤ xs.length) (hn : 0 ≤ n) (hn1 : n ≤ 1) : ∃ b,(∀ k,1 ≤ k → spec_reader_numbers.j1 k n xs i o = some (b,i,o)) ∧ (b = true ↔ Dg (Lx.at_ xs (i + n)) ∨ (Lx.at_ xs (i + n) = 46 ∧ Dg (Lx.at_ xs (i + n + 1)))):=by
 have hl:=hx.len
 by_cases h2 : Dg (Lx.at_ xs (i + n))
 ·refine ⟨true,fun k hk => ?_,⟨fun _ => .inl h2,fun _ => rfl⟩⟩
  obtain ⟨k,rfl⟩ : ∃ m,k = m + 1:=⟨k - 1,by omega⟩
  simp only [spec_reader_numbers.j1]
  rw [peek_f hx (by omega) (by omega)]
  simp only [Option.bind_some]
  rw [isDigit_f]
  simp only [Option.bind_some,decide_eq_true_eq]
  rw [if_pos h2]
 ·by_cases h3 : Lx.at_ xs (i + n) = 46
  ·refine ⟨decide (Dg (Lx.at_ xs (i + (n + 1)))),fun k hk => ?_,?_⟩
   ·obtain ⟨k,rfl⟩ : ∃ m,k = m + 1:=⟨k - 1,by omega⟩
    simp only [spec_reader_numbers.j1]
    rw [peek_f hx (by omega) (by omega)]
    simp only [Option.bind_some]
    rw [isDigit_f]
    simp only [Option.bind_some,decide_eq_true_eq]
    rw [if_neg h2,peek_f hx (by omega) (by omega)]
    simp only [Option.bind_some]
    rw [if_pos h3,w64 (x:=n + 1) (by omega) (by omega),peek_f hx (by omega) (by omega)]
    simp only [Option.bind_some]
    rw [isDigit_f]
    rfl
   ·rw [decide_eq_true_eq,show i + n + 1 = i + (n + 1) by omega]
    exact ⟨fun h => .inr ⟨h3,h⟩,fun h => by rcases h with h|h;exact absurd h h2;exact h.2⟩
  ·refine ⟨false,fun k hk => ?_,⟨(fun h => by cases h),fun h => by rcases h with h|h;exact absurd h h2;exact absurd h.1 h3⟩⟩
   obtain ⟨k,rfl⟩ : ∃ m,k = m + 1:=⟨k - 1,by omega⟩
   simp only [spec_reader_numbers.j1]
   rw [peek_f hx (by omega) (by omega)]
   simp only [Option.bind_some]
   rw [isDigit_f]
   simp only [Option.bind_some,decide_eq_true_eq]
   rw [if_neg h2,peek_f hx (by omega) (by omega)]
   simp only [Option.bind_some]
   rw [if_neg h3]
theorem numbers_f (hx : Tx xs) (h0 : 0 ≤ i) (h1 : i ≤ xs.length) : ∃ b,(∀ k,3 ≤ k → spec_reader_numbers.f k xs i o = some (b,i,o)) ∧ (b = true ↔ NumAt xs i):=by
 have hs:=sg_or xs i
 obtain ⟨b,hb,hb2⟩:=numbers_j1 (n:=sg xs i) (o:=o) hx h0 h1 (by omega) (by omega)
 refine ⟨b,fun k hk => ?_,hb2⟩
 obtain ⟨k,rfl⟩ : ∃ m,k = m + 1:=⟨k - 1,by omega⟩
 unfold spec_reader_numbers.f
 rw [peek0_f hx h0 h1]
 simp only [Option.bind_some]
 have hj:=hb k (by omega)
 unfold sg at hj
 by_cases h2 : Lx.at_ xs i = 43
 ·rw [if_pos h2]
  rw [if_pos (.inl h2)] at hj
  simp only [spec_reader_numbers.j0,if_true]
  exact hj
 ·rw [if_neg h2]
  by_cases h3 : Lx.at_ xs i = 45
  ·rw [if_pos (.inr h3)] at hj
   simp only [spec_reader_numbers.j0]
   rw [if_pos (by simpa using h3)]
   exact hj
  ·rw [if_neg (by omega)] at hj
   simp only [spec_reader_numbers.j0]
   rw [if_neg (by simpa using h3)]
   exact hj
def UnitS (xs : List Int) (q : Int) (kind : ByteArray) (i' : Int) : Prop :=
 (kind = kDim ∧ Idt xs q ∧ i' = run Nm xs q) ∨ (kind = kPct ∧ Lx.at_ xs q = 37 ∧ i' = q + 1) ∨ (kind = kNum ∧ Lx.at_ xs q ≠ 37 ∧ NoIdt xs q ∧ i' = q)
def NuEnd (xs : List Int) (q : Int) (o : Bool) (f : Nat → Option (ByteArray × Int × Bool)) : Prop :=
 ∃ kind i' o',(∀ k,xs.length + xs.length + 20 ≤ k → f k = some (kind,i',o')) ∧ q ≤ i' ∧ i' ≤ xs.length ∧ (o = true → o' = true) ∧ (Nb xs → o' = false → UnitS xs q kind i')
theorem numeric_j7 (hx : Tx xs) (h0 : 0 ≤ i) (h1 : i ≤ xs.length) : NuEnd xs i o (fun k => spec_reader_numeric.j7 k xs i o):=by
 have hl:=hx.len
 obtain ⟨b,o1,a1,a2,a3,a4,a5⟩:=identifies_f (o:=o) (n:=0) hx h0 h1 (by omega) (by omega)
 rw [Int.add_zero] at a3 a4 a5
 cases b with
 | true =>
  obtain ⟨i',o',b1,b2,b3,b4,b5,b6⟩:=name_f (o:=o1) hx h0 h1
  refine ⟨kDim,i',o',fun k hk => ?_,b2,b3,fun h => b4 (a2 h),fun hn ho' => .inl ⟨rfl,(a5 hn).1.1 rfl,(b6 hn).1⟩⟩
  obtain ⟨k,rfl⟩ : ∃ m,k = m + 1:=⟨k - 1,by omega⟩
  simp only [spec_reader_numeric.j7]
  rw [a1 k (by omega)]
  simp only [Option.bind_some,if_true]
  rw [b1 k (by omega)]
  rfl
 | false =>
  by_cases h2 : Lx.at_ xs i = 37
  ·refine ⟨kPct,i + 1,o1,fun k hk => ?_,by omega,at_in (by omega) h0,a2,fun hn ho' => .inr (.inl ⟨rfl,h2,rfl⟩)⟩
   obtain ⟨k,rfl⟩ : ∃ m,k = m + 1:=⟨k - 1,by omega⟩
   simp only [spec_reader_numeric.j7]
   rw [a1 k (by omega)]
   simp only [Option.bind_some]
   rw [if_neg (by decide),peek0_f hx h0 h1]
   simp only [Option.bind_some]
   rw [if_pos h2,w64 (by omega) (by omega)]
  ·refine ⟨kNum,i,o1,fun k hk => ?_,Int.le_refl _,h1,a2,fun hn ho' => .inr (.inr ⟨rfl,h2,?_,rfl⟩)⟩
   ·obtain ⟨k,rfl⟩ : ∃ m,k = m + 1:=⟨k - 1,by omega⟩
    simp only [spec_reader_numeric.j7]
    rw [a1 k (by omega)]
    simp only [Option.bind_some]
    rw [if_neg (by decide),peek0_f hx h0 h1]
    simp only [Option.bind_some]
    rw [if_neg h2]
   ·have h3:=(a5 hn).2 ho'
    have h4 : ¬ Idt xs i:=fun h => by have:=(a5 hn).1.2 h;cases this
    unfold Idt at h4;unfold NoIdt
    by_cases h5 : Lx.at_ xs i = 45
    ·exact .inr ⟨h5,fun h => h4 (.inr ⟨h5,h⟩),fun h => h3 ⟨h5,h⟩⟩
    ·exact .inl ⟨fun h => h4 (.inl h),h5⟩
def ExEnd (xs : List Int) (q2 : Int) (o : Bool) (K : Nat) (f : Nat → Option (ByteArray × Int × Bool)) : Prop :=
 ∃ kind i' o',(∀ k,xs.length + xs.length + K ≤ k → f k = some (kind,i',o')) ∧ q2 ≤ i' ∧ i' ≤ xs.length ∧ (o = true → o' = true) ∧ (Nb xs → o' = false → ∃ q,Expo xs q2 q ∧ UnitS xs q kind i')
theorem numeric_j6 (hx : Tx xs) (h0 : 0 ≤ i) (h1 : i ≤ xs.length) (hn : 0 ≤ n) (hn2 : n ≤ 2) : ∃ q,((Dg (Lx.at_ xs (i + n)) ∧ q = run Dg xs (i + n)) ∨ (¬ Dg (Lx.at_ xs (i + n)) ∧ q = i)) ∧ i ≤ q ∧ q ≤ xs.length ∧
  ∀ k,xs.length + 1 ≤ k → spec_reader_numeric.j6 (k + 1) n xs i o = spec_reader_numeric.j7 k xs q o:=by
 have hl:=hx.len
 by_cases h3 : Dg (Lx.at_ xs (i + n))
 ·have hlt : i + n + 1 ≤ xs.length:=at_in (fun e => by rw [e] at h3;exact absurd h3 (by decide)) (by omega)
  have hge:=run_ge (f:=Dg) (bs:=xs) (p:=i + n)
  have hle:=run_le (f:=Dg) (bs:=xs) (p:=i + n) (by omega) (by omega)
  refine ⟨_,.inl ⟨h3,rfl⟩,by omega,hle,fun k hk => ?_⟩
  simp only [spec_reader_numeric.j6]
  rw [peek_f hx (by omega) (by omega)]
  simp only [Option.bind_some]
  rw [isDigit_f]
  simp only [Option.bind_some,decide_eq_true_eq]
  rw [if_pos h3,w64 (by omega) (by omega),digits_f hx (by omega) (by omega) hk]
  simp only [Option.bind_some]
 ·refine ⟨i,.inr ⟨h3,rfl⟩,Int.le_refl _,h1,fun k hk => ?_⟩
  simp only [spec_reader_numeric.j6]
  rw [peek_f hx (by omega) (by omega)]
  simp only [Option.bind_some]
  rw [isDigit_f]
  simp only [Option.bind_some,decide_eq_true_eq]
  rw [if_neg h3]
theorem numeric_j3 (hx : Tx xs) (h0 : 0 ≤ i) (h1 : i ≤ xs.length) : ExEnd xs i o 30 (fun k => spec_reader_numeric.j3 k xs i o):=by
 have hl:=hx.len
 by_cases h2 : Lx.at_ xs i = 101 ∨ Lx.at_ xs i = 69
 ·have hi1 : i + 1 ≤ xs.length:=at_in (by omega) h0
  have hs:=sg_or xs (i + 1)
  obtain ⟨sb,hsb⟩:=sg_sgn xs (i + 1)
  obtain ⟨q,hq,hq1,hq2,hq3⟩:=numeric_j6 (o:=o) (n:=1 + sg xs (i + 1)) hx h0 h1 (by omega) (by omega)
  rw [show i + (1 + sg xs (i + 1)) = i + 1 + sg xs (i + 1) by omega] at hq
  have hj4 : ∀ k,spec_reader_numeric.j4 (k + 2) true xs i o = spec_reader_numeric.j6 k (1 + sg xs (i + 1)) xs i o:=by
   intro k
   simp only [spec_reader_numeric.j4,if_true]
   rw [peek_f hx (by omega) (by omega)]
   simp only [Option.bind_some]
   unfold sg
   by_cases h3 : Lx.at_ xs (i + 1) = 43
   ·rw [if_pos h3,if_pos (.inl h3)]
    simp only [spec_reader_numeric.j5,if_true]
    rfl
   ·rw [if_neg h3]
    by_cases h4 : Lx.at_ xs (i + 1) = 45
    ·rw [if_pos (.inr h4)]
     simp only [spec_reader_numeric.j5]
     rw [if_pos (by simpa using h4)]
     rfl
    ·rw [if_neg (by omega)]
     simp only [spec_reader_numeric.j5]
     rw [if_neg (by simpa using h4)]
     rfl
  have hj3 : ∀ k,spec_reader_numeric.j3 (k + 3) xs i o = spec_reader_numeric.j6 k (1 + sg xs (i + 1)) xs i o:=by
   intro k
   simp only [spec_reader_numeric.j3]
   rw [peek0_f hx h0 h1]
   simp only [Option.bind_some]
   by_cases h3 : Lx.at_ xs i = 101
   ·rw [if_pos h3];exact hj4 k
   ·rw [if_neg h3,show (Lx.at_ xs i == 69) = true by simp;omega];exact hj4 k
  obtain ⟨kind,i',o',g1,g2,g3,g4,g5⟩:=numeric_j7 (o:=o) (i:=q) hx (by omega) hq2
  refine ⟨kind,i',o',fun k hk => ?_,by omega,g3,g4,fun hn ho' => ⟨q,.inr ⟨h2,_,sb,hsb,hq⟩,g5 hn ho'⟩⟩
  obtain ⟨k,rfl⟩ : ∃ m,k = m + 4:=⟨k - 4,by omega⟩
  show spec_reader_numeric.j3 (k + 1 + 3) xs i o = _
  rw [hj3,hq3 k (by omega)]
  exact g1 k (by omega)
 ·obtain ⟨kind,i',o',g1,g2,g3,g4,g5⟩:=numeric_j7 (o:=o) (i:=i) hx h0 h1
  refine ⟨kind,i',o',fun k hk => ?_,g2,g3,g4,fun hn ho' => ⟨i,.inl ⟨by simp;omega,by simp;omega,rfl⟩,g5 hn ho'⟩⟩
  obtain ⟨k,rfl⟩ : ∃ m,k = m + 2:=⟨k - 2,by omega⟩
  simp only [spec_reader_numeric.j3]
  rw [peek0_f hx h0 h1]
  simp only [Option.bind_some]
  rw [if_neg (by omega),show (Lx.at_ xs i == 69) = false by simp;omega]
  simp only [spec_reader_numeric.j4]
  rw [if_neg (by decide)]
  exact g1 k (by omega)
theorem numeric_j1 (hx : Tx xs) (h0 : 0 ≤ q) (h1 : q ≤ xs.length) : ∃ kind i' o',(∀ k,xs.length + xs.length + 40 ≤ k → spec_reader_numeric.j1 k xs q o = some (kind,i',o')) ∧ q ≤ i' ∧ i' ≤ xs.length ∧ (o = true → o' = true) ∧
  ((Dg (Lx.at_ xs q) ∨ (Lx.at_ xs q = 46 ∧ Dg (Lx.at_ xs (q + 1)))) → q < i') ∧
  (Nb xs → (Dg (Lx.at_ xs q) ∨ (Lx.at_ xs q = 46 ∧ Dg (Lx.at_ xs (q + 1)))) → o' = false → ∃ q1 q2 fd e,((fd = true ∧ Dg (Lx.at_ xs q) ∧ q1 = run Dg xs q) ∨ (fd = false ∧ ¬ Dg (Lx.at_ xs q) ∧ q1 = q)) ∧
   ((Lx.at_ xs q1 = 46 ∧ Dg (Lx.at_ xs (q1 + 1)) ∧ q2 = run Dg xs (q1 + 1)) ∨ (Lx.at_ xs q1 = 46 ∧ ¬ Dg (Lx.at_ xs (q1 + 1)) ∧ fd = true ∧ q2 = q1) ∨ ((Lx.at_ xs q1 == 46) = false ∧ fd = true ∧ q2 = q1)) ∧
   Expo xs q2 e ∧ UnitS xs e kind i'):=by
 have hl:=hx.len
 have hge:=run_ge (f:=Dg) (bs:=xs) (p:=q)
 have hle:=run_le (f:=Dg) (bs:=xs) (p:=q) h0 h1
 have hnd : ¬ Dg (46 : Int):=by decide
 have hlt : Dg (Lx.at_ xs q) → q < run Dg xs q:=by
  intro h
  have hq : q < xs.length:=at_lt (fun e => by rw [e] at h;exact absurd h (by decide))
  rw [run_step h0 hq h]
  have:=run_ge (f:=Dg) (bs:=xs) (p:=q + 1)
  omega
 have hfd : ∃ fd : Bool,((fd = true ∧ Dg (Lx.at_ xs q) ∧ run Dg xs q = run Dg xs q) ∨ (fd = false ∧ ¬ Dg (Lx.at_ xs q) ∧ run Dg xs q = q)):=by
  by_cases h : Dg (Lx.at_ xs q)
  ·exact ⟨true,.inl ⟨rfl,h,rfl⟩⟩
  ·exact ⟨false,.inr ⟨rfl,h,run_stop h0 h1 h⟩⟩
 obtain ⟨fd,hfd⟩:=hfd
 by_cases h2 : Lx.at_ xs (run Dg xs q) = 46 ∧ Dg (Lx.at_ xs (run Dg xs q + 1))
 ·have hl1 : run Dg xs q + 1 + 1 ≤ xs.length:=at_in (fun e => by rw [e] at h2;exact absurd h2.2 (by decide)) (by omega)
  have hge2:=run_ge (f:=Dg) (bs:=xs) (p:=run Dg xs q + 1)
  have hle2:=run_le (f:=Dg) (bs:=xs) (p:=run Dg xs q + 1) (by omega) (by omega)
  obtain ⟨kind,i',o',g1,g2,g3,g4,g5⟩:=numeric_j3 (o:=o) (i:=run Dg xs (run Dg xs q + 1)) hx (by omega) hle2
  refine ⟨kind,i',o',fun k hk => ?_,by omega,g3,g4,fun _ => by omega,fun hn _ ho' => ?_⟩
  ·obtain ⟨k,rfl⟩ : ∃ m,k = m + 2:=⟨k - 2,by omega⟩
   simp only [spec_reader_numeric.j1]
   rw [digits_f hx h0 h1 (by omega)]
   simp only [Option.bind_some]
   rw [peek0_f hx (by omega) hle]
   simp only [Option.bind_some]
   rw [if_pos h2.1,peek_f hx (by omega) (by omega)]
   simp only [Option.bind_some]
   rw [isDigit_f]
   simp only [Option.bind_some]
   rw [decide_eq_true h2.2]
   simp only [spec_reader_numeric.j2,if_true]
   rw [w64 (by omega) (by omega),digits_f hx (by omega) (by omega) (by omega)]
   simp only [Option.bind_some]
   exact g1 k (by omega)
  ·obtain ⟨e,e1,e2⟩:=g5 hn ho'
   exact ⟨_,_,fd,e,hfd,.inl ⟨h2.1,h2.2,rfl⟩,e1,e2⟩
 ·obtain ⟨kind,i',o',g1,g2,g3,g4,g5⟩:=numeric_j3 (o:=o) (i:=run Dg xs q) hx (by omega) hle
  have hd : (Dg (Lx.at_ xs q) ∨ (Lx.at_ xs q = 46 ∧ Dg (Lx.at_ xs (q + 1)))) → Dg (Lx.at_ xs q):=by
   intro h
   by_cases h3 : Dg (Lx.at_ xs q)
   ·exact h3
   ·rcases h with h|h
    ·exact h
    ·exfalso;apply h2;rw [run_stop h0 h1 h3];exact h
  refine ⟨kind,i',o',fun k hk => ?_,by omega,g3,g4,fun h => by have:=hlt (hd h);omega,fun hn hd' ho' => ?_⟩
  ·obtain ⟨k,rfl⟩ : ∃ m,k = m + 2:=⟨k - 2,by omega⟩
   simp only [spec_reader_numeric.j1]
   rw [digits_f hx h0 h1 (by omega)]
   simp only [Option.bind_some]
   rw [peek0_f hx (by omega) hle]
   simp only [Option.bind_some]
   by_cases h3 : Lx.at_ xs (run Dg xs q) = 46
   ·rw [if_pos h3,peek_f hx (by omega) (by omega)]
    simp only [Option.bind_some]
    rw [isDigit_f]
    simp only [Option.bind_some]
    rw [decide_eq_false (fun h => h2 ⟨h3,h⟩)]
    simp only [spec_reader_numeric.j2]
    rw [if_neg (by decide)]
    exact g1 k (by omega)
   ·rw [if_neg h3]
    simp only [spec_reader_numeric.j2]
    rw [if_neg (by decide)]
    exact g1 k (by omega)
  ·obtain ⟨e,e1,e2⟩:=g5 hn ho'
   have hf : fd = true:=by
    rcases hfd with h|h
    ·exact h.1
    ·exact absurd (hd hd') h.2.1
   refine ⟨_,_,fd,e,hfd,?_,e1,e2⟩
   by_cases h3 : Lx.at_ xs (run Dg xs q) = 46
   ·exact .inr (.inl ⟨h3,fun h => h2 ⟨h3,h⟩,hf,rfl⟩)
   ·exact .inr (.inr ⟨by simpa using h3,hf,rfl⟩)
theorem numeric_f (hx : Tx xs) (h0 : 0 ≤ i) (h1 : i ≤ xs.length) : ∃ kind i' o',(∀ k,xs.length + xs.length + 50 ≤ k → spec_reader_numeric.f k xs i o = some (kind,i',o')) ∧ i ≤ i' ∧ i' ≤ xs.length ∧ (o = true → o' = true) ∧ (NumAt xs i → i < i') ∧
  (Nb xs → NumAt xs i → o' = false → ∃ q,Num xs i q ∧ UnitS xs q kind i'):=by
 have hl:=hx.len
 have hs:=sg_or xs i
 obtain ⟨sb,hsb⟩:=sg_sgn xs i
 have hle : i + sg xs i ≤ xs.length:=by
  by_cases h : Lx.at_ xs i = 43 ∨ Lx.at_ xs i = 45
  ·have:=at_in (xs:=xs) (i:=i) (by omega) h0;omega
  ·unfold sg;rw [if_neg h];omega
 obtain ⟨kind,i',o',g1,g2,g3,g4,g5,g6⟩:=numeric_j1 (o:=o) (q:=i + sg xs i) hx (by omega) hle
 refine ⟨kind,i',o',fun k hk => ?_,by omega,g3,g4,fun h => by have:=g5 h;omega,fun hn hN ho' => ?_⟩
 ·obtain ⟨k,rfl⟩ : ∃ m,k = m + 1:=⟨k - 1,by omega⟩
  unfold spec_reader_numeric.f
  rw [peek0_f hx h0 h1]
  simp only [Option.bind_some]
  have hj:=g1 k (by omega)
  unfold sg at hj
  by_cases h2 : Lx.at_ xs i = 43
  ·rw [if_pos h2]
   rw [if_pos (.inl h2)] at hj
   simp only [spec_reader_numeric.j0,if_true]
   rw [w64 (by omega) (by omega)]
   exact hj
  ·rw [if_neg h2]
   by_cases h3 : Lx.at_ xs i = 45
   ·rw [if_pos (.inr h3)] at hj
    simp only [spec_reader_numeric.j0]
    rw [if_pos (by simpa using h3),w64 (by omega) (by omega)]
    exact hj
   ·rw [if_neg (by omega),Int.add_zero] at hj
    simp only [spec_reader_numeric.j0]
    rw [if_neg (by simpa using h3)]
    exact hj
 ·obtain ⟨q1,q2,fd,e,a1,a2,a3,a4⟩:=g6 hn hN ho'
  exact ⟨e,⟨_,q1,q2,sb,fd,hsb,a1,a2,a3⟩,a4⟩
def AddrT (xs : List Int) (a : Int) (i' : Int) : Prop :=
 (Lx.at_ xs (run Uc xs a) = 41 ∧ i' = run Uc xs a + 1) ∨ (Ws (Lx.at_ xs (run Uc xs a)) ∧ Lx.at_ xs (run Ws xs (run Uc xs a)) = 41 ∧ i' = run Ws xs (run Uc xs a) + 1)
theorem uc_of {b : Int} (h1 : b ≠ 41) (h2 : ¬ Ws b) (h3 : ¬ (b = 34 ∨ b = 39 ∨ b = 40)) (h4 : ¬ (b ≤ 8 ∨ b = 11 ∨ (14 ≤ b ∧ b ≤ 31) ∨ b = 127)) (h5 : b ≠ 92) : Uc b:=by
 unfold Ws at h2
 unfold Uc
 simp
 omega
theorem address_l (hx : Tx xs) : ∀ (d : Nat) (j : Int) (o : Bool),0 ≤ j → j ≤ xs.length → (xs.length : Int) - j ≤ d → ∃ kind i' o',(∀ k,d + d + xs.length + xs.length + 30 ≤ k → spec_reader_address.l0 k xs j o = some (kind,i',o')) ∧ j ≤ i' ∧ i' ≤ xs.length ∧ (o = true → o' = true) ∧
  (Nb xs → o' = false → kind = kUrl ∧ AddrT xs j i'):=by
 have hl:=hx.len
 intro d
 induction d with
 | zero =>
  intro j o h0 h1 hd
  refine ⟨kUrl,j,true,fun k hk => ?_,Int.le_refl _,h1,fun _ => rfl,fun _ h => by cases h⟩
  obtain ⟨k,rfl⟩ : ∃ m,k = m + 1:=⟨k - 1,by omega⟩
  simp only [spec_reader_address.l0,over_f,Option.bind_some,decide_eq_true_eq]
  rw [if_pos (by omega)]
 | succ d ih =>
  intro j o h0 h1 hd
  by_cases h2 : j ≥ xs.length
  ·refine ⟨kUrl,j,true,fun k hk => ?_,Int.le_refl _,h1,fun _ => rfl,fun _ h => by cases h⟩
   obtain ⟨k,rfl⟩ : ∃ m,k = m + 1:=⟨k - 1,by omega⟩
   simp only [spec_reader_address.l0,over_f,Option.bind_some,decide_eq_true_eq]
   rw [if_pos (by omega)]
  ·by_cases h3 : Lx.at_ xs j = 41
   ·refine ⟨kUrl,j + 1,o,fun k hk => ?_,by omega,by omega,id,fun _ _ => ⟨rfl,?_⟩⟩
    ·obtain ⟨k,rfl⟩ : ∃ m,k = m + 1:=⟨k - 1,by omega⟩
     simp only [spec_reader_address.l0,over_f,Option.bind_some,decide_eq_true_eq]
     rw [if_neg h2,peek0_f hx h0 h1]
     simp only [Option.bind_some]
     rw [if_pos h3,w64 (by omega) (by omega)]
    ·have hr : run Uc xs j = j:=run_stop h0 h1 (by rw [h3];decide)
     unfold AddrT;rw [hr];exact .inl ⟨h3,rfl⟩
   ·by_cases h4 : Ws (Lx.at_ xs j)
    ·have hr : run Uc xs j = j:=run_stop h0 h1 (by unfold Ws at h4;unfold Uc;simp;omega)
     have b1:=run_ge (f:=Ws) (bs:=xs) (p:=j)
     have b2:=run_le (f:=Ws) (bs:=xs) (p:=j) h0 h1
     by_cases h5 : Lx.at_ xs (run Ws xs j) = 41
     ·have h6 : run Ws xs j + 1 ≤ xs.length:=at_in (by omega) (by omega)
      refine ⟨kUrl,run Ws xs j + 1,o,fun k hk => ?_,by omega,h6,id,fun _ _ => ⟨rfl,?_⟩⟩
      ·obtain ⟨k,rfl⟩ : ∃ m,k = m + 1:=⟨k - 1,by omega⟩
       simp only [spec_reader_address.l0,over_f,Option.bind_some,decide_eq_true_eq]
       rw [if_neg h2,peek0_f hx h0 h1]
       simp only [Option.bind_some]
       rw [if_neg h3,isBlank_f]
       simp only [Option.bind_some,decide_eq_true_eq]
       rw [if_pos h4,blanks_f hx h0 h1 (by omega)]
       simp only [Option.bind_some]
       rw [peek0_f hx (by omega) b2]
       simp only [Option.bind_some]
       rw [if_pos h5,w64 (by omega) (by omega)]
      ·unfold AddrT;rw [hr];exact .inr ⟨h4,h5,rfl⟩
     ·refine ⟨⟨#[98,97,100,32,117,114,108]⟩,run Ws xs j,true,fun k hk => ?_,by omega,b2,fun _ => rfl,fun _ h => by cases h⟩
      obtain ⟨k,rfl⟩ : ∃ m,k = m + 1:=⟨k - 1,by omega⟩
      simp only [spec_reader_address.l0,over_f,Option.bind_some,decide_eq_true_eq]
      rw [if_neg h2,peek0_f hx h0 h1]
      simp only [Option.bind_some]
      rw [if_neg h3,isBlank_f]
      simp only [Option.bind_some,decide_eq_true_eq]
      rw [if_pos h4,blanks_f hx h0 h1 (by omega)]
      simp only [Option.bind_some]
      rw [peek0_f hx (by omega) b2]
      simp only [Option.bind_some]
      rw [if_neg h5]
      rfl
    ·
     have hstep : ∃ b : Bool,(b = true ↔ ((Lx.at_ xs j = 34 ∨ Lx.at_ xs j = 39 ∨ Lx.at_ xs j = 40) ∨ (Lx.at_ xs j ≤ 8 ∨ Lx.at_ xs j = 11 ∨ (14 ≤ Lx.at_ xs j ∧ Lx.at_ xs j ≤ 31) ∨ Lx.at_ xs j = 127))) ∧
       ∀ k,1 ≤ k → spec_reader_address.l0 (k + 1) xs j o = spec_reader_address.j1 k (Lx.at_ xs j) b xs j o:=by
      by_cases h5 : Lx.at_ xs j = 34 ∨ Lx.at_ xs j = 39 ∨ Lx.at_ xs j = 40
      ·refine ⟨true,⟨fun _ => .inl h5,fun _ => rfl⟩,fun k hk => ?_⟩
       simp only [spec_reader_address.l0,over_f,Option.bind_some,decide_eq_true_eq]
       rw [if_neg h2,peek0_f hx h0 h1]
       simp only [Option.bind_some]
       rw [if_neg h3,isBlank_f]
       simp only [Option.bind_some,decide_eq_true_eq]
       rw [if_neg h4]
       by_cases a : Lx.at_ xs j = 34
       ·rw [if_pos a]
       ·rw [if_neg a]
        by_cases b : Lx.at_ xs j = 39
        ·rw [if_pos b]
        ·rw [if_neg b,if_pos (by omega)]
      ·refine ⟨decide (Lx.at_ xs j ≤ 8 ∨ Lx.at_ xs j = 11 ∨ (14 ≤ Lx.at_ xs j ∧ Lx.at_ xs j ≤ 31) ∨ Lx.at_ xs j = 127),?_,fun k hk => ?_⟩
       ·rw [decide_eq_true_eq]
        exact ⟨.inr,fun h => h.resolve_left h5⟩
       ·simp only [spec_reader_address.l0,over_f,Option.bind_some,decide_eq_true_eq]
        rw [if_neg h2,peek0_f hx h0 h1]
        simp only [Option.bind_some]
        rw [if_neg h3,isBlank_f]
        simp only [Option.bind_some,decide_eq_true_eq]
        rw [if_neg h4,if_neg (by omega),if_neg (by omega),if_neg (by omega),isControl_f]
        simp only [Option.bind_some]
     obtain ⟨b,hb,hk1⟩:=hstep
     cases b with
     | true =>
      refine ⟨⟨#[98,97,100,32,117,114,108]⟩,j,true,fun k hk => ?_,by omega,h1,fun _ => rfl,fun _ h => by cases h⟩
      obtain ⟨k,rfl⟩ : ∃ m,k = m + 2:=⟨k - 2,by omega⟩
      rw [hk1 (k + 1) (by omega)]
      simp only [spec_reader_address.j1,if_true]
      rfl
     | false =>
      have hb2 : ¬ ((Lx.at_ xs j = 34 ∨ Lx.at_ xs j = 39 ∨ Lx.at_ xs j = 40) ∨ (Lx.at_ xs j ≤ 8 ∨ Lx.at_ xs j = 11 ∨ (14 ≤ Lx.at_ xs j ∧ Lx.at_ xs j ≤ 31) ∨ Lx.at_ xs j = 127)):=fun h => by have:=hb.2 h;cases this
      by_cases h6 : Lx.at_ xs j = 92
      ·obtain ⟨b,o1,e1,e2,e3,e4⟩:=escapes_f (o:=o) (n:=0) (i:=j) hx (by omega) (by omega) (by omega) (by omega) (by omega)
       rw [Int.add_zero] at e3 e4
       cases b with
       | true =>
        have e5:=e3 rfl
        obtain ⟨i1,o2,f1,f2,f3,f4⟩:=escape_f (o:=o1) hx h0 e5.2
        obtain ⟨kind,i',o',g1,g2,g3,g4,g5⟩:=ih i1 o2 (by omega) (by omega) (by omega)
        refine ⟨kind,i',o',fun k hk => ?_,by omega,g3,fun h => g4 (f4 (e2 h)),fun hn => absurd h6 (hn j)⟩
        obtain ⟨k,rfl⟩ : ∃ m,k = m + 2:=⟨k - 2,by omega⟩
        rw [hk1 (k + 1) (by omega)]
        simp only [spec_reader_address.j1]
        rw [if_neg (by decide),if_pos h6,e1]
        simp only [Option.bind_some,if_true]
        rw [f1 k (by omega)]
        simp only [Option.bind_some]
        exact g1 k (by omega)
       | false =>
        refine ⟨⟨#[98,97,100,32,117,114,108]⟩,j,true,fun k hk => ?_,by omega,h1,fun _ => rfl,fun _ h => by cases h⟩
        obtain ⟨k,rfl⟩ : ∃ m,k = m + 2:=⟨k - 2,by omega⟩
        rw [hk1 (k + 1) (by omega)]
        simp only [spec_reader_address.j1]
        rw [if_neg (by decide),if_pos h6,e1]
        simp only [Option.bind_some]
        rw [if_neg (by decide)]
        rfl
      ·obtain ⟨kind,i',o',g1,g2,g3,g4,g5⟩:=ih (j + 1) o (by omega) (by omega) (by omega)
       refine ⟨kind,i',o',fun k hk => ?_,by omega,g3,g4,fun hn ho' => ?_⟩
       ·obtain ⟨k,rfl⟩ : ∃ m,k = m + 2:=⟨k - 2,by omega⟩
        rw [hk1 (k + 1) (by omega)]
        simp only [spec_reader_address.j1]
        rw [if_neg (by decide),if_neg h6,w64 (by omega) (by omega)]
        exact g1 k (by omega)
       ·obtain ⟨e1,e2⟩:=g5 hn ho'
        refine ⟨e1,?_⟩
        have hu : Uc (Lx.at_ xs j):=uc_of h3 h4 (fun h => hb2 (.inl h)) (fun h => hb2 (.inr h)) h6
        unfold AddrT at *
        rw [run_step h0 (by omega) hu]
        exact e2
theorem address_f (hx : Tx xs) (h0 : 0 ≤ i) (h1 : i ≤ xs.length) : ∃ kind i' o',(∀ k,xs.length + xs.length + xs.length + xs.length + 30 ≤ k → spec_reader_address.f k xs i o = some (kind,i',o')) ∧ i ≤ i' ∧ i' ≤ xs.length ∧ (o = true → o' = true) ∧
  (Nb xs → o' = false → kind = kUrl ∧ Urla (xs ++ [0]) i i'):=by
 have hl:=hx.len
 have b1:=run_ge (f:=Ws) (bs:=xs) (p:=i)
 have b2:=run_le (f:=Ws) (bs:=xs) (p:=i) h0 h1
 obtain ⟨kind,i',o',g1,g2,g3,g4,g5⟩:=address_l hx xs.length (run Ws xs i) o (by omega) b2 (by omega)
 refine ⟨kind,i',o',fun k hk => ?_,by omega,g3,g4,fun hn ho' => ?_⟩
 ·unfold spec_reader_address.f
  rw [blanks_f hx h0 h1 (by omega)]
  simp only [Option.bind_some]
  exact g1 k (by omega)
 ·obtain ⟨e1,e2⟩:=g5 hn ho'
  refine ⟨e1,run Ws xs i,run Uc xs (run Ws xs i),(run_snoc (by decide) h0 h1).symm,(run_snoc uc0 (by omega) b2).symm,?_,?_,?_⟩
  ·rw [at_snoc]
   simp only [beq_eq_false_iff_ne,ne_eq]
   intro h
   have hr : run Uc xs (run Ws xs i) = run Ws xs i:=run_stop (by omega) b2 (by rw [h];decide)
   unfold AddrT at e2
   rw [hr,h] at e2
   rcases e2 with ⟨h,_⟩|⟨h,_⟩
   ·revert h;decide
   ·revert h;decide
  ·rw [at_snoc]
   simp only [beq_eq_false_iff_ne,ne_eq]
   intro h
   have hr : run Uc xs (run Ws xs i) = run Ws xs i:=run_stop (by omega) b2 (by rw [h];decide)
   unfold AddrT at e2
   rw [hr,h] at e2
   rcases e2 with ⟨h,_⟩|⟨h,_⟩
   ·revert h;decide
   ·revert h;decide
  ·have b3:=run_ge (f:=Uc) (bs:=xs) (p:=run Ws xs i)
   have b4:=run_le (f:=Uc) (bs:=xs) (p:=run Ws xs i) (by omega) b2
   rw [at_snoc,run_snoc (f:=Ws) (by decide) (by omega) b4,at_snoc]
   exact e2
end
abbrev kIdent : ByteArray:=⟨#[105,100,101,110,116]⟩
abbrev kFn : ByteArray:=⟨#[102,117,110,99,116,105,111,110]⟩
abbrev kAt : ByteArray:=⟨#[97,116]⟩
abbrev kHash : ByteArray:=⟨#[104,97,115,104]⟩
abbrev kDelim : ByteArray:=⟨#[100,101,108,105,109]⟩
abbrev kBlank : ByteArray:=⟨#[98,108,97,110,107]⟩
inductive Kc : ByteArray → Int → Prop where
 | ident : Kc kIdent 1
 | fn : Kc kFn 2
 | at_ : Kc kAt 3
 | hash : Kc kHash 4
 | str : Kc kStr 5
 | url : Kc kUrl 7
 | num : Kc kNum 10
 | pct : Kc kPct 11
 | dim : Kc kDim 12
 | lp : Kc ⟨#[40]⟩ 28
 | rp : Kc ⟨#[41]⟩ 29
 | lb : Kc ⟨#[91]⟩ 26
 | rb : Kc ⟨#[93]⟩ 27
 | lc : Kc ⟨#[123]⟩ 30
 | rc : Kc ⟨#[125]⟩ 31
 | colon : Kc ⟨#[58]⟩ 23
 | semi : Kc ⟨#[59]⟩ 24
 | comma : Kc ⟨#[44]⟩ 25
 | m1 : Kc ⟨#[126,61]⟩ 14
 | m2 : Kc ⟨#[124,61]⟩ 15
 | m3 : Kc ⟨#[94,61]⟩ 16
 | m4 : Kc ⟨#[36,61]⟩ 17
 | m5 : Kc ⟨#[42,61]⟩ 18
inductive Ko : ByteArray → Prop where
 | blank : Ko kBlank
 | com : Ko kCom
 | ran : Ko kRan
 | cdc : Ko ⟨#[45,45,62]⟩
 | cdo : Ko ⟨#[60,33,45,45]⟩
 | col : Ko ⟨#[124,124]⟩
def DelimOk (b : Int) : Prop:=b = 42 ∨ b = 126 ∨ b = 46 ∨ b = 43 ∨ b = 62 ∨ b = 61
def TokR (xs : List Int) (i : Int) (kind : ByteArray) (i' : Int) : Prop :=
 (∃ t,Kc kind t ∧ Tok (xs ++ [0]) i t i') ∨ Ko kind ∨ (kind = kDelim ∧ i' = i + 1 ∧ (DelimOk (at_ xs i) → Tok (xs ++ [0]) i 9 (i + 1)))
section
variable {xs : List Int} {i n c nx q p : Int} {o : Bool} {k : Nat}
theorem Has_l (xs : List Int) (c : Int) (hl : xs.length ≤ 140737488355328) : ∀ (d : Nat) (j : Nat),j ≤ xs.length → xs.length - j ≤ d → ∃ b,(∀ k,d + 1 ≤ k → spec_Has.l0 k c xs (xs.length : Int) (j : Int) = some b) ∧ (b = true ↔ ∃ m : Nat,j ≤ m ∧ m < xs.length ∧ xs.getD m 0 = c):=by
 intro d
 induction d with
 | zero =>
  intro j h1 hd
  refine ⟨false,fun k hk => ?_,⟨(fun h => by cases h),fun ⟨m,a,b,_⟩ => by omega⟩⟩
  obtain ⟨k,rfl⟩ : ∃ m,k = m + 1:=⟨k - 1,by omega⟩
  simp only [spec_Has.l0]
  rw [if_neg (by omega)]
 | succ d ih =>
  intro j h1 hd
  by_cases h2 : j < xs.length
  ·by_cases h3 : rd xs (j : Int) = c
   ·refine ⟨true,fun k hk => ?_,⟨fun _ => ⟨j,Nat.le_refl _,h2,by simpa [rd] using h3⟩,fun _ => rfl⟩⟩
    obtain ⟨k,rfl⟩ : ∃ m,k = m + 1:=⟨k - 1,by omega⟩
    simp only [spec_Has.l0]
    rw [if_pos (by omega),if_pos (by omega),if_pos (by omega),if_pos h3]
   ·obtain ⟨b,hb,hb2⟩:=ih (j + 1) (by omega) (by omega)
    refine ⟨b,fun k hk => ?_,hb2.trans ⟨fun ⟨m,a,e⟩ => ⟨m,by omega,e⟩,fun ⟨m,a,e,f⟩ => ⟨m,?_,e,f⟩⟩⟩
    ·obtain ⟨k,rfl⟩ : ∃ m,k = m + 1:=⟨k - 1,by omega⟩
     simp only [spec_Has.l0]
     rw [if_pos (by omega),if_pos (by omega),if_pos (by omega),if_neg h3,w64 (by omega) (by omega)]
     have:=hb k (by omega)
     rwa [show ((j + 1 : Nat) : Int) = (j : Int) + 1 by omega] at this
    ·rcases Nat.lt_or_ge j m with h|h
     ·omega
     ·obtain rfl : m = j:=by omega
      exact absurd (by simpa [rd] using f) h3
  ·refine ⟨false,fun k hk => ?_,⟨(fun h => by cases h),fun ⟨m,a,b,_⟩ => by omega⟩⟩
   obtain ⟨k,rfl⟩ : ∃ m,k = m + 1:=⟨k - 1,by omega⟩
   simp only [spec_Has.l0]
   rw [if_neg (by omega)]
theorem Has_f (xs : List Int) (c : Int) (hl : xs.length ≤ 140737488355328) : ∃ b,(∀ k,xs.length + 1 ≤ k → spec_Has.f k xs c = some b) ∧ (b = true ↔ ∃ m : Nat,m < xs.length ∧ xs.getD m 0 = c):=by
 obtain ⟨b,h1,h2⟩:=Has_l xs c hl xs.length 0 (by omega) (by omega)
 exact ⟨b,fun k hk => h1 k hk,h2.trans ⟨fun ⟨m,_,h⟩ => ⟨m,h⟩,fun ⟨m,h⟩ => ⟨m,Nat.zero_le _,h⟩⟩⟩
theorem Lower_f (h0 : 0 ≤ c) (h1 : c ≤ 255) : spec_Lower.f c = some (if 65 ≤ c ∧ c ≤ 90 then c + 32 else c):=by
 unfold spec_Lower.f
 by_cases h2 : c ≥ 65
 ·by_cases h3 : c ≤ 90
  ·rw [if_pos h2,if_pos h3,if_pos ⟨h2,h3⟩]
   congr 1
   omega
  ·rw [if_pos h2,if_neg h3,if_neg (by omega)]
 ·rw [if_neg h2,if_neg (by omega)]
theorem EqualFold_l (ys zs : List Int) (hy : ∀ j : Nat,0 ≤ ys.getD j 0 ∧ ys.getD j 0 ≤ 255) (he : ys.length = zs.length) (hl : ys.length ≤ 140737488355328) : ∀ (d : Nat) (j : Nat),j ≤ ys.length → ys.length - j ≤ d →
  ∃ b,(∀ k,d + 1 ≤ k → spec_EqualFold.l0 k zs ys (ys.length : Int) (j : Int) = some b) ∧ (b = true ↔ ∀ m : Nat,j ≤ m → m < ys.length → (if 65 ≤ ys.getD m 0 ∧ ys.getD m 0 ≤ 90 then ys.getD m 0 + 32 else ys.getD m 0) = zs.getD m 0):=by
 intro d
 induction d with
 | zero =>
  intro j h1 hd
  refine ⟨true,fun k hk => ?_,⟨fun _ m a b => by omega,fun _ => rfl⟩⟩
  obtain ⟨k,rfl⟩ : ∃ m,k = m + 1:=⟨k - 1,by omega⟩
  simp only [spec_EqualFold.l0]
  rw [if_neg (by omega)]
 | succ d ih =>
  intro j h1 hd
  by_cases h2 : j < ys.length
  ·have hyj:=hy j
   have hr : rd ys (j : Int) = ys.getD j 0:=by simp [rd]
   have hz : rd zs (j : Int) = zs.getD j 0:=by simp [rd]
   by_cases h3 : (if 65 ≤ ys.getD j 0 ∧ ys.getD j 0 ≤ 90 then ys.getD j 0 + 32 else ys.getD j 0) = zs.getD j 0
   ·obtain ⟨b,hb,hb2⟩:=ih (j + 1) (by omega) (by omega)
    refine ⟨b,fun k hk => ?_,hb2.trans ⟨fun h m a e => ?_,fun h m a e => h m (by omega) e⟩⟩
    ·obtain ⟨k,rfl⟩ : ∃ m,k = m + 1:=⟨k - 1,by omega⟩
     simp only [spec_EqualFold.l0]
     rw [if_pos (by omega),if_pos (by omega),if_pos (by omega),hr,Lower_f hyj.1 hyj.2]
     simp only [Option.bind_some]
     rw [if_pos (by omega),hz,if_pos h3,w64 (by omega) (by omega)]
     have:=hb k (by omega)
     rwa [show ((j + 1 : Nat) : Int) = (j : Int) + 1 by omega] at this
    ·rcases Nat.lt_or_ge j m with h'|h'
     ·exact h m (by omega) e
     ·obtain rfl : m = j:=by omega
      exact h3
   ·refine ⟨false,fun k hk => ?_,⟨(fun h => by cases h),fun h => absurd (h j (Nat.le_refl _) h2) h3⟩⟩
    obtain ⟨k,rfl⟩ : ∃ m,k = m + 1:=⟨k - 1,by omega⟩
    simp only [spec_EqualFold.l0]
    rw [if_pos (by omega),if_pos (by omega),if_pos (by omega),hr,Lower_f hyj.1 hyj.2]
    simp only [Option.bind_some]
    rw [if_pos (by omega),hz,if_neg h3]
  ·refine ⟨true,fun k hk => ?_,⟨fun _ m a b => by omega,fun _ => rfl⟩⟩
   obtain ⟨k,rfl⟩ : ∃ m,k = m + 1:=⟨k - 1,by omega⟩
   simp only [spec_EqualFold.l0]
   rw [if_neg (by omega)]
theorem isUrl_f (ys : List Int) (hy : ∀ j : Nat,0 ≤ ys.getD j 0 ∧ ys.getD j 0 ≤ 255) (hl : ys.length ≤ 140737488355328) : ∃ b,(∀ k,ys.length + 1 ≤ k → spec_EqualFold.f k ys [117,114,108] = some b) ∧ (b = true ↔ IsUrl ys):=by
 by_cases h : ys.length = 3
 ·obtain ⟨b,h1,h2⟩:=EqualFold_l ys [117,114,108] hy h hl ys.length 0 (by omega) (by omega)
  refine ⟨b,fun k hk => ?_,h2.trans ⟨fun hm => ⟨h,?_,?_,?_⟩,fun hu m _ e => ?_⟩⟩
  ·unfold spec_EqualFold.f
   rw [if_pos (by rw [h];rfl)]
   exact h1 k hk
  ·have:=hm 0 (Nat.le_refl _) (by omega)
   have h4:=hy 0
   simp only [List.getD_cons_zero] at this
   unfold Fa
   split at this <;> omega
  ·have:=hm 1 (by omega) (by omega)
   have h4:=hy 1
   simp only [List.getD_cons_succ,List.getD_cons_zero] at this
   unfold Fa
   split at this <;> omega
  ·have:=hm 2 (by omega) (by omega)
   have h4:=hy 2
   simp only [List.getD_cons_succ,List.getD_cons_zero] at this
   unfold Fa
   split at this <;> omega
  ·obtain ⟨_,u0,u1,u2⟩:=hu
   unfold Fa at u0 u1 u2
   have hm : m = 0 ∨ m = 1 ∨ m = 2:=by omega
   rcases hm with rfl|rfl|rfl
   ·simp only [List.getD_cons_zero]
    split <;> omega
   ·simp only [List.getD_cons_succ,List.getD_cons_zero]
    split <;> omega
   ·simp only [List.getD_cons_succ,List.getD_cons_zero]
    split <;> omega
 ·refine ⟨false,fun k hk => ?_,⟨(fun h => by cases h),fun hu => absurd hu.1 h⟩⟩
  unfold spec_EqualFold.f
  rw [if_neg (by simp;omega)]
def SgE (xs : List Int) (i : Int) (o : Bool) (K : Nat) (f : Nat → Option (ByteArray × Int × Bool)) : Prop :=
 ∃ kind i' o',(∀ k,K ≤ k → f k = some (kind,i',o')) ∧ i < i' ∧ i' ≤ xs.length ∧ (o = true → o' = true) ∧ (Nb xs → ¬ NumAt xs i → o' = false → TokR xs i kind i')
theorem SgE.up {K K' : Nat} {f g : Nat → Option (ByteArray × Int × Bool)} (h : SgE xs i o K f) (hK : K < K') (hg : ∀ k,g (k + 1) = f k) : SgE xs i o K' g:=by
 obtain ⟨kind,i',o',h1,h2⟩:=h
 refine ⟨kind,i',o',fun k hk => ?_,h2⟩
 obtain ⟨k,rfl⟩ : ∃ m,k = m + 1:=⟨k - 1,by omega⟩
 rw [hg]
 exact h1 k (by omega)
theorem sign_j4 (hx : Tx xs) (h0 : 0 ≤ i) (h1 : i < xs.length) (b : Bool) (hb : b = true → i + 4 ≤ xs.length) (hm : (Lx.at_ xs i = 42 ∨ Lx.at_ xs i = 126) → Lx.at_ xs (i + 1) ≠ 61) : SgE xs i o 20 (fun k => spec_reader_sign.j4 k (Lx.at_ xs i) b xs i o):=by
 have hl:=hx.len
 cases b with
 | true =>
  have hb:=hb rfl
  refine ⟨⟨#[60,33,45,45]⟩,i + 4,o,fun k hk => ?_,by omega,hb,id,fun _ _ _ => .inr (.inl .cdo)⟩
  obtain ⟨k,rfl⟩ : ∃ m,k = m + 1:=⟨k - 1,by omega⟩
  simp only [spec_reader_sign.j4,if_true]
  rw [w64 (by omega) (by omega)]
 | false =>
  obtain ⟨b,hb1,hb2⟩:=Has_f [40,41,44,58,59,91,93,123,125] (Lx.at_ xs i) (by decide)
  cases b with
  | true =>
   obtain ⟨m,hm1,hm2⟩:=hb2.1 rfl
   refine ⟨strOfNums [Lx.at_ xs i],i + 1,o,fun k hk => ?_,by omega,by omega,id,fun _ _ _ => .inl ?_⟩
   ·obtain ⟨k,rfl⟩ : ∃ m,k = m + 1:=⟨k - 1,by omega⟩
    simp only [spec_reader_sign.j4]
    rw [if_neg (by decide),hb1 k (by simp;omega)]
    simp only [Option.bind_some,if_true]
    unfold spec_reader_one.f
    rw [w64 (by omega) (by omega)]
    rfl
   ·have e : Lx.at_ (xs ++ [0]) i = Lx.at_ xs i:=at_snoc xs i
    have hm3 : m < 9:=hm1
    clear hb1 hb2
    rcases m with _|_|_|_|_|_|_|_|_|m
    ·simp at hm2;rw [← hm2];exact ⟨28,.lp,.bracket _ (.inl ⟨by rw [e,← hm2],rfl⟩)⟩
    ·simp at hm2;rw [← hm2];exact ⟨29,.rp,.bracket _ (.inr (.inl ⟨by rw [e,← hm2],rfl⟩))⟩
    ·simp at hm2;rw [← hm2];exact ⟨25,.comma,.comma (by rw [e,← hm2])⟩
    ·simp at hm2;rw [← hm2];exact ⟨23,.colon,.colon (by rw [e,← hm2])⟩
    ·simp at hm2;rw [← hm2];exact ⟨24,.semi,.semi (by rw [e,← hm2])⟩
    ·simp at hm2;rw [← hm2];exact ⟨26,.lb,.bracket _ (.inr (.inr (.inl ⟨by rw [e,← hm2],rfl⟩)))⟩
    ·simp at hm2;rw [← hm2];exact ⟨27,.rb,.bracket _ (.inr (.inr (.inr (.inl ⟨by rw [e,← hm2],rfl⟩))))⟩
    ·simp at hm2;rw [← hm2];exact ⟨30,.lc,.bracket _ (.inr (.inr (.inr (.inr (.inl ⟨by rw [e,← hm2],rfl⟩)))))⟩
    ·simp at hm2;rw [← hm2];exact ⟨31,.rc,.bracket _ (.inr (.inr (.inr (.inr (.inr ⟨by rw [e,← hm2],rfl⟩)))))⟩
    ·omega
  | false =>
   refine ⟨kDelim,i + 1,o,fun k hk => ?_,by omega,by omega,id,fun _ hN _ => .inr (.inr ⟨rfl,rfl,fun hd => ?_⟩)⟩
   ·obtain ⟨k,rfl⟩ : ∃ m,k = m + 1:=⟨k - 1,by omega⟩
    simp only [spec_reader_sign.j4]
    rw [if_neg (by decide),hb1 k (by simp;omega)]
    simp only [Option.bind_some]
    rw [if_neg (by decide)]
    unfold spec_reader_one.f
    rw [w64 (by omega) (by omega)]
    rfl
   ·have e : Lx.at_ (xs ++ [0]) i = Lx.at_ xs i:=at_snoc xs i
    have e1 : Lx.at_ (xs ++ [0]) (i + 1) = Lx.at_ xs (i + 1):=at_snoc xs (i + 1)
    have hnum : (Lx.at_ xs i = 46 ∨ Lx.at_ xs i = 43) → NoNum (xs ++ [0]) i:=by
     intro h
     obtain ⟨b,hs⟩:=sg_sgn (xs ++ [0]) i
     have es : sg (xs ++ [0]) i = sg xs i:=by unfold sg;rw [e]
     rw [es] at hs
     unfold NumAt at hN
     refine ⟨_,b,hs,by rw [at_snoc];exact fun h => hN (.inl h),?_⟩
     rw [at_snoc,at_snoc]
     by_cases h46 : Lx.at_ xs (i + sg xs i) = 46
     ·exact .inr ⟨h46,fun h => hN (.inr ⟨h46,h⟩)⟩
     ·exact .inl (by simpa using h46)
    unfold DelimOk at hd
    rcases hd with hd|hd|hd|hd|hd|hd
    ·exact .star (by rw [e];exact .inl hd) (by rw [e1];simpa using hm (.inl hd))
    ·exact .star (by rw [e];exact .inr hd) (by rw [e1];simpa using hm (.inr hd))
    ·exact .dot (by rw [e];exact .inl hd) (hnum (.inl hd))
    ·exact .dot (by rw [e];exact .inr hd) (hnum (.inr hd))
    ·exact .gt (by rw [e];exact .inl hd)
    ·exact .gt (by rw [e];exact .inr hd)
theorem sign_j3 (hx : Tx xs) (h0 : 0 ≤ i) (h1 : i < xs.length) (b : Bool) (hb : b = true ↔ (Lx.at_ xs (i + 1) = 61 ∧ (Lx.at_ xs i = 126 ∨ Lx.at_ xs i = 124 ∨ Lx.at_ xs i = 94 ∨ Lx.at_ xs i = 36 ∨ Lx.at_ xs i = 42))) :
  SgE xs i o 21 (fun k => spec_reader_sign.j3 k (Lx.at_ xs i) (Lx.at_ xs (i + 1)) b xs i o):=by
 have hl:=hx.len
 cases b with
 | true =>
  obtain ⟨h2,h3⟩:=hb.1 rfl
  have h4 : i + 1 + 1 ≤ xs.length:=at_in (by omega) (by omega)
  refine ⟨strOfNums [Lx.at_ xs i,61],i + 2,o,fun k hk => ?_,by omega,by omega,id,fun _ _ _ => .inl ?_⟩
  ·obtain ⟨k,rfl⟩ : ∃ m,k = m + 1:=⟨k - 1,by omega⟩
   simp only [spec_reader_sign.j3,if_true]
   unfold spec_reader_two.f
   rw [w64 (by omega) (by omega)]
   rfl
  ·have e : Lx.at_ (xs ++ [0]) i = Lx.at_ xs i:=at_snoc xs i
   have e1 : Lx.at_ (xs ++ [0]) (i + 1) = 61:=by rw [at_snoc];exact h2
   rcases h3 with h3|h3|h3|h3|h3
   ·rw [h3];exact ⟨14,.m1,.mat _ (.inl ⟨by rw [e,h3],rfl⟩) e1⟩
   ·rw [h3];exact ⟨15,.m2,.mat _ (.inr (.inl ⟨by rw [e,h3],rfl⟩)) e1⟩
   ·rw [h3];exact ⟨16,.m3,.mat _ (.inr (.inr (.inl ⟨by rw [e,h3],rfl⟩))) e1⟩
   ·rw [h3];exact ⟨17,.m4,.mat _ (.inr (.inr (.inr (.inl ⟨by rw [e,h3],rfl⟩)))) e1⟩
   ·rw [h3];exact ⟨18,.m5,.mat _ (.inr (.inr (.inr (.inr ⟨by rw [e,h3],rfl⟩)))) e1⟩
 | false =>
  have hm : (Lx.at_ xs i = 42 ∨ Lx.at_ xs i = 126) → Lx.at_ xs (i + 1) ≠ 61:=by
   intro h h2
   have:=hb.2 ⟨h2,by omega⟩
   cases this
  by_cases h2 : Lx.at_ xs i = 60
  ·by_cases h3 : Lx.at_ xs (i + 1) = 33
   ·by_cases h4 : Lx.at_ xs (i + 2) = 45
    ·refine (sign_j4 hx h0 h1 (Lx.at_ xs (i + 3) == 45) (fun h => ?_) hm).up (by omega) (fun k => ?_)
     ·have : Lx.at_ xs (i + 3) = 45:=by simpa using h
      have:=at_in (xs:=xs) (i:=i + 3) (by omega) (by omega)
      omega
     ·show spec_reader_sign.j3 (k + 1) _ _ _ _ _ _ = _
      simp only [spec_reader_sign.j3]
      rw [if_neg (by decide),if_pos h2,if_pos h3,peek_f hx (by omega) (by omega)]
      simp only [Option.bind_some]
      rw [if_pos h4,peek_f hx (by omega) (by omega)]
      rfl
    ·refine (sign_j4 hx h0 h1 false (fun h => by cases h) hm).up (by omega) (fun k => ?_)
     show spec_reader_sign.j3 (k + 1) _ _ _ _ _ _ = _
     simp only [spec_reader_sign.j3]
     rw [if_neg (by decide),if_pos h2,if_pos h3,peek_f hx (by omega) (by omega)]
     simp only [Option.bind_some]
     rw [if_neg h4]
   ·refine (sign_j4 hx h0 h1 false (fun h => by cases h) hm).up (by omega) (fun k => ?_)
    show spec_reader_sign.j3 (k + 1) _ _ _ _ _ _ = _
    simp only [spec_reader_sign.j3]
    rw [if_neg (by decide),if_pos h2,if_neg h3]
  ·refine (sign_j4 hx h0 h1 false (fun h => by cases h) hm).up (by omega) (fun k => ?_)
   show spec_reader_sign.j3 (k + 1) _ _ _ _ _ _ = _
   simp only [spec_reader_sign.j3]
   rw [if_neg (by decide),if_neg h2]
theorem sign_j2 (hx : Tx xs) (h0 : 0 ≤ i) (h1 : i < xs.length) (b : Bool) (hb : b = true → Lx.at_ xs (i + 1) ≠ 0) :
  SgE xs i o 22 (fun k => spec_reader_sign.j2 k (Lx.at_ xs i) (Lx.at_ xs (i + 1)) b xs i o):=by
 have hl:=hx.len
 cases b with
 | true =>
  have h4 : i + 1 + 1 ≤ xs.length:=at_in (hb rfl) (by omega)
  refine ⟨⟨#[124,124]⟩,i + 2,o,fun k hk => ?_,by omega,by omega,id,fun _ _ _ => .inr (.inl .col)⟩
  obtain ⟨k,rfl⟩ : ∃ m,k = m + 1:=⟨k - 1,by omega⟩
  simp only [spec_reader_sign.j2,if_true]
  unfold spec_reader_two.f
  rw [w64 (by omega) (by omega)]
  rfl
 | false =>
  by_cases h2 : Lx.at_ xs (i + 1) = 61
  ·by_cases h3 : Lx.at_ xs i = 126 ∨ Lx.at_ xs i = 124 ∨ Lx.at_ xs i = 94 ∨ Lx.at_ xs i = 36
   ·refine (sign_j3 hx h0 h1 true ⟨fun _ => ⟨h2,by omega⟩,fun _ => rfl⟩).up (by omega) (fun k => ?_)
    show spec_reader_sign.j2 (k + 1) _ _ _ _ _ _ = _
    simp only [spec_reader_sign.j2]
    rw [if_neg (by decide),if_pos h2]
    by_cases a : Lx.at_ xs i = 126
    ·rw [if_pos a]
    ·rw [if_neg a]
     by_cases b : Lx.at_ xs i = 124
     ·rw [if_pos b]
     ·rw [if_neg b]
      by_cases c : Lx.at_ xs i = 94
      ·rw [if_pos c]
      ·rw [if_neg c,if_pos (by omega)]
   ·refine (sign_j3 hx h0 h1 (Lx.at_ xs i == 42) ⟨fun h => ⟨h2,by have : Lx.at_ xs i = 42:=(by simpa using h);omega⟩,fun h => by simp;omega⟩).up (by omega) (fun k => ?_)
    show spec_reader_sign.j2 (k + 1) _ _ _ _ _ _ = _
    simp only [spec_reader_sign.j2]
    rw [if_neg (by decide),if_pos h2,if_neg (by omega),if_neg (by omega),if_neg (by omega),if_neg (by omega)]
  ·refine (sign_j3 hx h0 h1 false ⟨(fun h => by cases h),fun h => absurd h.1 h2⟩).up (by omega) (fun k => ?_)
   show spec_reader_sign.j2 (k + 1) _ _ _ _ _ _ = _
   simp only [spec_reader_sign.j2]
   rw [if_neg (by decide),if_neg h2]
theorem sign_j1 (hx : Tx xs) (h0 : 0 ≤ i) (h1 : i < xs.length) (b : Bool) (hb : b = true → Lx.at_ xs i = 64 ∧ (Nb xs → Idt xs (i + 1))) :
  SgE xs i o (xs.length + xs.length + 60) (fun k => spec_reader_sign.j1 k (Lx.at_ xs i) (Lx.at_ xs (i + 1)) b xs i o):=by
 have hl:=hx.len
 cases b with
 | true =>
  obtain ⟨h2,h3⟩:=hb rfl
  obtain ⟨i',o',g1,g2,g3,g4,g5,g6⟩:=name_f (o:=o) (i:=i + 1) hx (by omega) (by omega)
  refine ⟨kAt,i',o',fun k hk => ?_,by omega,g3,g4,fun hn _ _ => .inl ⟨3,.at_,?_⟩⟩
  ·obtain ⟨k,rfl⟩ : ∃ m,k = m + 1:=⟨k - 1,by omega⟩
   simp only [spec_reader_sign.j1,if_true]
   rw [w64 (by omega) (by omega),g1 k (by omega)]
   rfl
  ·rw [(g6 hn).1,← run_snoc (f:=Nm) (by decide) (by omega) (by omega)]
   refine .atw (by rw [at_snoc];exact h2) ?_
   have h4:=h3 hn
   unfold Idt at *
   rw [at_snoc,at_snoc]
   exact h4
 | false =>
  by_cases h2 : Lx.at_ xs i = 124
  ·refine (sign_j2 hx h0 h1 (Lx.at_ xs (i + 1) == 124) (fun h => by have : Lx.at_ xs (i + 1) = 124:=(by simpa using h);omega)).up (by omega) (fun k => ?_)
   show spec_reader_sign.j1 (k + 1) _ _ _ _ _ _ = _
   simp only [spec_reader_sign.j1]
   rw [if_neg (by decide),if_pos h2]
  ·refine (sign_j2 hx h0 h1 false (fun h => by cases h)).up (by omega) (fun k => ?_)
   show spec_reader_sign.j1 (k + 1) _ _ _ _ _ _ = _
   simp only [spec_reader_sign.j1]
   rw [if_neg (by decide),if_neg h2]
theorem sign_j0 (hx : Tx xs) (h0 : 0 ≤ i) (h1 : i < xs.length) (b : Bool) (hb : b = true → Lx.at_ xs i = 35 ∧ (Nb xs → Nm (Lx.at_ xs (i + 1)))) :
  SgE xs i o (xs.length + xs.length + 61) (fun k => spec_reader_sign.j0 k (Lx.at_ xs i) (Lx.at_ xs (i + 1)) b xs i o):=by
 have hl:=hx.len
 cases b with
 | true =>
  obtain ⟨h2,h3⟩:=hb rfl
  obtain ⟨i',o',g1,g2,g3,g4,g5,g6⟩:=name_f (o:=o) (i:=i + 1) hx (by omega) (by omega)
  refine ⟨kHash,i',o',fun k hk => ?_,by omega,g3,g4,fun hn _ _ => .inl ⟨4,.hash,?_⟩⟩
  ·obtain ⟨k,rfl⟩ : ∃ m,k = m + 1:=⟨k - 1,by omega⟩
   simp only [spec_reader_sign.j0,if_true]
   rw [w64 (by omega) (by omega),g1 k (by omega)]
   rfl
  ·rw [(g6 hn).1,← run_snoc (f:=Nm) (by decide) (by omega) (by omega)]
   exact .hash (by rw [at_snoc];exact h2) (by rw [at_snoc];exact h3 hn)
 | false =>
  by_cases h2 : Lx.at_ xs i = 64
  ·obtain ⟨b,o1,a1,a2,a3,a4,a5⟩:=identifies_f (o:=o) (n:=1) (i:=i) hx h0 (by omega) (by omega) (by omega)
   obtain ⟨kind,i',o',g1,g2,g3,g4,g5⟩:=sign_j1 (o:=o1) hx h0 h1 b (fun h => ⟨h2,fun hn => ((a5 hn).1.1 h)⟩)
   refine ⟨kind,i',o',fun k hk => ?_,g2,g3,fun h => g4 (a2 h),g5⟩
   obtain ⟨k,rfl⟩ : ∃ m,k = m + 1:=⟨k - 1,by omega⟩
   simp only [spec_reader_sign.j0]
   rw [if_neg (by decide),if_pos h2,a1 k (by omega)]
   simp only [Option.bind_some]
   exact g1 k (by omega)
  ·refine (sign_j1 hx h0 h1 false (fun h => by cases h)).up (by omega) (fun k => ?_)
   show spec_reader_sign.j0 (k + 1) _ _ _ _ _ _ = _
   simp only [spec_reader_sign.j0]
   rw [if_neg (by decide),if_neg h2]
theorem sign_f (hx : Tx xs) (h0 : 0 ≤ i) (h1 : i < xs.length) : SgE xs i o (xs.length + xs.length + 61) (fun k => spec_reader_sign.f k xs i o (Lx.at_ xs i) (Lx.at_ xs (i + 1))):=by
 have hl:=hx.len
 by_cases h2 : Lx.at_ xs i = 35
 ·by_cases h3 : Nm (Lx.at_ xs (i + 1))
  ·obtain ⟨kind,i',o',g1,g2⟩:=sign_j0 (o:=o) hx h0 h1 true (fun _ => ⟨h2,fun _ => h3⟩)
   refine ⟨kind,i',o',fun k hk => ?_,g2⟩
   show spec_reader_sign.f k _ _ _ _ _ = _
   unfold spec_reader_sign.f
   rw [if_pos h2,isNameByte_f]
   simp only [Option.bind_some,decide_eq_true_eq]
   rw [if_pos h3]
   exact g1 k hk
  ·obtain ⟨b,o1,e1,e2,e3,e4⟩:=escapes_f (o:=o) (n:=1) (i:=i) hx (by omega) (by omega) (by omega) (by omega) (by omega)
   obtain ⟨kind,i',o',g1,g2,g3,g4,g5⟩:=sign_j0 (o:=o1) hx h0 h1 b (fun h => ⟨h2,fun hn => absurd (e3 h).1 (hn _)⟩)
   refine ⟨kind,i',o',fun k hk => ?_,g2,g3,fun h => g4 (e2 h),g5⟩
   show spec_reader_sign.f k _ _ _ _ _ = _
   unfold spec_reader_sign.f
   rw [if_pos h2,isNameByte_f]
   simp only [Option.bind_some,decide_eq_true_eq]
   rw [if_neg h3,e1]
   simp only [Option.bind_some]
   exact g1 k hk
 ·obtain ⟨kind,i',o',g1,g2⟩:=sign_j0 (o:=o) hx h0 h1 false (fun h => by cases h)
  refine ⟨kind,i',o',fun k hk => ?_,g2⟩
  show spec_reader_sign.f k _ _ _ _ _ = _
  unfold spec_reader_sign.f
  rw [if_neg h2]
  exact g1 k hk
end
def LeS (x : Option (ByteArray × Int × Bool)) : Prop:=∀ r,x = some r → r.1.size ≤ 16
theorem LeS.none_ : LeS none:=fun r h => by cases h
theorem LeS.some_ {a : ByteArray} {b : Int × Bool} (h : a.size ≤ 16) : LeS (some (a,b)):=fun r e => by injection e with e;subst e;exact h
theorem LeS.bind_ {α : Type} {x : Option α} {f : α → Option (ByteArray × Int × Bool)} (h : ∀ a,LeS (f a)) : LeS (x.bind f):=fun r e => by
 obtain ⟨a,_,ha⟩:=Option.bind_eq_some_iff.1 e
 exact h a r ha
theorem LeS.ite_ {c : Prop} [Decidable c] {x y : Option (ByteArray × Int × Bool)} (hx : LeS x) (hy : LeS y) : LeS (if c then x else y):=by split <;> assumption
theorem quoted_sz : ∀ k,(∀ q xs i o,LeS (spec_reader_quoted.l0 k q xs i o)) ∧ (∀ q b xs i o,LeS (spec_reader_quoted.j1 k q b xs i o))
 | 0 => ⟨fun _ _ _ _ => LeS.none_,fun _ _ _ _ _ => LeS.none_⟩
 | k + 1 => by
  obtain ⟨ih0,ih1⟩:=quoted_sz k
  constructor
  ·intro q xs i o
   simp only [spec_reader_quoted.l0]
   repeat' (first|exact ih0 _ _ _ _|exact ih1 _ _ _ _ _|exact LeS.some_ (by decide)|exact LeS.none_|refine LeS.ite_ ?_ ?_|(refine LeS.bind_ fun _ => ?_))
  ·intro q b xs i o
   simp only [spec_reader_quoted.j1]
   repeat' (first|exact ih0 _ _ _ _|exact ih1 _ _ _ _ _|exact LeS.some_ (by decide)|exact LeS.none_|refine LeS.ite_ ?_ ?_|(refine LeS.bind_ fun _ => ?_))
theorem quoted_szf (k : Nat) (xs : List Int) (i : Int) (o : Bool) : LeS (spec_reader_quoted.f k xs i o):=by
 unfold spec_reader_quoted.f
 exact LeS.bind_ fun _ => (quoted_sz k).1 _ _ _ _
theorem wrong_sz (xs : List Int) (i : Int) (o : Bool) : LeS (spec_reader_wrong.f xs i o):=by unfold spec_reader_wrong.f;exact LeS.some_ (by decide)
theorem call_sz {x : Option (ByteArray × Int × Bool)} (h : LeS x) : LeS (x.bind fun bt => some (bt.1,bt.2.1,bt.2.2)):=fun r e => by
 obtain ⟨a,ha,e⟩:=Option.bind_eq_some_iff.1 e
 injection e with e
 subst e
 exact h a ha
theorem address_sz : ∀ k,(∀ xs i o,LeS (spec_reader_address.l0 k xs i o)) ∧ (∀ c b xs i o,LeS (spec_reader_address.j1 k c b xs i o))
 | 0 => ⟨fun _ _ _ => LeS.none_,fun _ _ _ _ _ => LeS.none_⟩
 | k + 1 => by
  obtain ⟨ih0,ih1⟩:=address_sz k
  constructor
  ·intro xs i o
   simp only [spec_reader_address.l0]
   repeat' (first|exact ih0 _ _ _|exact ih1 _ _ _ _ _|exact LeS.some_ (by decide)|exact call_sz (wrong_sz _ _ _)|refine LeS.ite_ ?_ ?_|(refine LeS.bind_ fun _ => ?_))
  ·intro c b xs i o
   simp only [spec_reader_address.j1]
   repeat' (first|exact ih0 _ _ _|exact ih1 _ _ _ _ _|exact LeS.some_ (by decide)|exact call_sz (wrong_sz _ _ _)|refine LeS.ite_ ?_ ?_|(refine LeS.bind_ fun _ => ?_))
theorem address_szf (k : Nat) (xs : List Int) (i : Int) (o : Bool) : LeS (spec_reader_address.f k xs i o):=by
 unfold spec_reader_address.f
 exact LeS.bind_ fun _ => (address_sz k).1 _ _ _
theorem numeric_sz7 : ∀ k xs i o,LeS (spec_reader_numeric.j7 k xs i o)
 | 0,_,_,_ => LeS.none_
 | k + 1,xs,i,o => by
  simp only [spec_reader_numeric.j7]
  repeat' (first|exact LeS.some_ (by decide)|refine LeS.ite_ ?_ ?_|(refine LeS.bind_ fun _ => ?_))
theorem numeric_sz6 : ∀ k n xs i o,LeS (spec_reader_numeric.j6 k n xs i o)
 | 0,_,_,_,_ => LeS.none_
 | k + 1,n,xs,i,o => by
  simp only [spec_reader_numeric.j6]
  repeat' (first|exact numeric_sz7 _ _ _ _|refine LeS.ite_ ?_ ?_|(refine LeS.bind_ fun _ => ?_))
theorem numeric_sz5 : ∀ k n b xs i o,LeS (spec_reader_numeric.j5 k n b xs i o)
 | 0,_,_,_,_,_ => LeS.none_
 | k + 1,n,b,xs,i,o => by
  simp only [spec_reader_numeric.j5]
  repeat' (first|exact numeric_sz6 _ _ _ _ _|refine LeS.ite_ ?_ ?_|(refine LeS.bind_ fun _ => ?_))
theorem numeric_sz4 : ∀ k b xs i o,LeS (spec_reader_numeric.j4 k b xs i o)
 | 0,_,_,_,_ => LeS.none_
 | k + 1,b,xs,i,o => by
  simp only [spec_reader_numeric.j4]
  repeat' (first|exact numeric_sz5 _ _ _ _ _ _|exact numeric_sz7 _ _ _ _|refine LeS.ite_ ?_ ?_|(refine LeS.bind_ fun _ => ?_))
theorem numeric_sz3 : ∀ k xs i o,LeS (spec_reader_numeric.j3 k xs i o)
 | 0,_,_,_ => LeS.none_
 | k + 1,xs,i,o => by
  simp only [spec_reader_numeric.j3]
  repeat' (first|exact numeric_sz4 _ _ _ _ _|refine LeS.ite_ ?_ ?_|(refine LeS.bind_ fun _ => ?_))
theorem numeric_sz2 : ∀ k b xs i o,LeS (spec_reader_numeric.j2 k b xs i o)
 | 0,_,_,_,_ => LeS.none_
 | k + 1,b,xs,i,o => by
  simp only [spec_reader_numeric.j2]
  repeat' (first|exact numeric_sz3 _ _ _ _|refine LeS.ite_ ?_ ?_|(refine LeS.bind_ fun _ => ?_))
theorem numeric_sz1 : ∀ k xs i o,LeS (spec_reader_numeric.j1 k xs i o)
 | 0,_,_,_ => LeS.none_
 | k + 1,xs,i,o => by
  simp only [spec_reader_numeric.j1]
  repeat' (first|exact numeric_sz2 _ _ _ _ _|refine LeS.ite_ ?_ ?_|(refine LeS.bind_ fun _ => ?_))
theorem numeric_szf (k : Nat) (xs : List Int) (i : Int) (o : Bool) : LeS (spec_reader_numeric.f k xs i o):=by
 have h0 : ∀ k b xs i o,LeS (spec_reader_numeric.j0 k b xs i o):=by
  intro k
  cases k with
  | zero => exact fun _ _ _ _ => LeS.none_
  | succ k =>
   intro b xs i o
   simp only [spec_reader_numeric.j0]
   repeat' (first|exact numeric_sz1 _ _ _ _|refine LeS.ite_ ?_ ?_)
 unfold spec_reader_numeric.f
 repeat' (first|exact h0 _ _ _ _ _|refine LeS.ite_ ?_ ?_|(refine LeS.bind_ fun _ => ?_))
theorem nums_sz (a : List Int) : (strOfNums a).size = a.length:=by simp [strOfNums,ByteArray.size]
theorem sign_sz4 : ∀ k c b xs i o,LeS (spec_reader_sign.j4 k c b xs i o)
 | 0,_,_,_,_,_ => LeS.none_
 | k + 1,c,b,xs,i,o => by
  simp only [spec_reader_sign.j4]
  refine LeS.ite_ (LeS.some_ (by decide)) (LeS.bind_ fun _ => LeS.ite_ (call_sz ?_) (call_sz ?_))
  ·unfold spec_reader_one.f
   exact LeS.some_ (by rw [nums_sz];simp)
  ·unfold spec_reader_one.f
   exact LeS.some_ (by decide)
theorem sign_sz3 : ∀ k c n b xs i o,LeS (spec_reader_sign.j3 k c n b xs i o)
 | 0,_,_,_,_,_,_ => LeS.none_
 | k + 1,c,n,b,xs,i,o => by
  simp only [spec_reader_sign.j3]
  refine LeS.ite_ (call_sz ?_) ?_
  ·unfold spec_reader_two.f
   exact LeS.some_ (by rw [nums_sz];simp)
  ·repeat' (first|exact sign_sz4 _ _ _ _ _ _|refine LeS.ite_ ?_ ?_|(refine LeS.bind_ fun _ => ?_))
theorem sign_sz2 : ∀ k c n b xs i o,LeS (spec_reader_sign.j2 k c n b xs i o)
 | 0,_,_,_,_,_,_ => LeS.none_
 | k + 1,c,n,b,xs,i,o => by
  simp only [spec_reader_sign.j2]
  refine LeS.ite_ (call_sz ?_) ?_
  ·unfold spec_reader_two.f
   exact LeS.some_ (by decide)
  ·repeat' (first|exact sign_sz3 _ _ _ _ _ _ _|refine LeS.ite_ ?_ ?_|(refine LeS.bind_ fun _ => ?_))
theorem sign_sz1 : ∀ k c n b xs i o,LeS (spec_reader_sign.j1 k c n b xs i o)
 | 0,_,_,_,_,_,_ => LeS.none_
 | k + 1,c,n,b,xs,i,o => by
  simp only [spec_reader_sign.j1]
  repeat' (first|exact LeS.some_ (by decide)|exact sign_sz2 _ _ _ _ _ _ _|refine LeS.ite_ ?_ ?_|(refine LeS.bind_ fun _ => ?_))
theorem sign_sz0 : ∀ k c n b xs i o,LeS (spec_reader_sign.j0 k c n b xs i o)
 | 0,_,_,_,_,_,_ => LeS.none_
 | k + 1,c,n,b,xs,i,o => by
  simp only [spec_reader_sign.j0]
  repeat' (first|exact LeS.some_ (by decide)|exact sign_sz1 _ _ _ _ _ _ _|refine LeS.ite_ ?_ ?_|(refine LeS.bind_ fun _ => ?_))
theorem sign_szf (k : Nat) (xs : List Int) (i : Int) (o : Bool) (c n : Int) : LeS (spec_reader_sign.f k xs i o c n):=by
 unfold spec_reader_sign.f
 repeat' (first|exact sign_sz0 _ _ _ _ _ _ _|refine LeS.ite_ ?_ ?_|(refine LeS.bind_ fun _ => ?_))
end Go.Proofs.YtlglijnaeaonpaaGreatDoor.Lx
end
