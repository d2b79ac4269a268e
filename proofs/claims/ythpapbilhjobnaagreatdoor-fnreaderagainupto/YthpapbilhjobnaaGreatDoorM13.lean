/-
  Parts of the proofs over the reader and the encoder of streams, joined: Wr2 Sp1 Sp2 Sp3 Ch Tk Bo. Conditions: each theorem names its own.
-/
import Derived.Test.YthpapbilhjobnaaGreatDoorM01
import Derived.Test.YthpapbilhjobnaaGreatDoorM12
import Derived.BigGuardPart
import Derived.Deep.DeepCutAuto
import Derived.StillTailTactics
set_option linter.unusedVariables false
set_option linter.unusedSimpArgs false
namespace Go.Proofs.YthpapbilhjobnaaGreatDoor
open Go.RowKit Pu
theorem Wrote.start {w : World} {W : Nat} {L : List Bool} {v : Value} (h : Wr w W L v) : Wrote w W L v w:=⟨v,h,Ext.refl _ _,.inl rfl⟩
theorem Moved.trans {w w1 : World} {v v1 v2 : Value} (h1 : Moved w v v1) (h2 : Moved w1 v1 v2) (hs : w.heap.size ≤ w1.heap.size) : Moved w v v2:=by
 rcases h2 with h2 | h2
 ·rcases h1 with h1 | h1
  ·exact .inl (h2.trans h1)
  ·exact .inr fun k hk => h1 k (h2 ▸ hk)
 ·exact .inr fun k hk => Nat.le_trans hs (h2 k hk)
theorem Wrote.trans {w w1 w2 : World} {W : Nat} {L1 L2 : List Bool} {v v1 : Value} (he : Ext (WM W v) w w1) (hm : Moved w v v1) (h : Wrote w1 W L2 v1 w2) : Wrote w W L2 v w2:=by
 obtain ⟨v2,h2,he2,hm2⟩:=h
 refine ⟨v2,h2,he.trans' he2 ?_,hm.trans hm2 he.size⟩
 rintro i hi (rfl | h)
 ·exact .inl rfl
 ·rcases hm with hm | hm
  ·exact .inr (hm ▸ h)
  ·have:=hm i h;omega
theorem bit_at (z : Int) (n : Nat) (hz : z = n) (W : Nat) (L : List Bool) (v : Value) (w : World) (hw : Wr w W L v) (hL : L.length ≤ 1099511627776) (hn : n < 4611686018427387904) :
  Calls Tryz.prog 29 #[.pointer (some ⟨W,0,none⟩),.int .i64 z] w fun e w' => e = .returned (.tuple #[]) ∧ Wrote w W (L ++ [n % 2 == 1]) v w':=by
 subst hz;exact bit_any W L v n w hw hL hn
set_option maxHeartbeats 1000000 in
theorem bits_any (W : Nat) (L : List Bool) (v : Value) (n many : Nat) (w : World) (hw : Wr w W L v) (hL : L.length + many ≤ 1099511627776) (hn : n < 4611686018427387904) (hm : many ≤ 62) :
  Calls Tryz.prog 30 #[.pointer (some ⟨W,0,none⟩),.int .i64 n,.int .i64 many] w fun e w' => e = .returned (.tuple #[]) ∧ Wrote w W (L ++ lsb n many) v w':=by
 have HW:=Lib.hid hw;clear hw
 go_enter Tryz.func30,Tryz.ntmps30
 go_wp2
 go_loopw [8] (fun i wr => ∃ k : Nat,k ≤ many ∧ i = .int .i64 k ∧ Wrote w W (L ++ lsb n k) v wr) (fun i _ => many - (intOf i).toNat)
 case atStart => exact ⟨0,Nat.zero_le _,rfl,by simpa [lsb] using Wrote.start HW.out⟩
 case round =>
  obtain ⟨k,hk,rfl,v1,hw1,he1,hm1⟩:=hrel
  have H1:=Lib.hid hw1;have H2:=Lib.hid he1;have H3:=Lib.hid hm1;clear hw1 he1 hm1
  have hdiv : n / 2 ^ k < 4611686018427387904:=Nat.lt_of_le_of_lt (Nat.div_le_self _ _) hn
  by_cases hlt : k < many
  ·go_wp2_with fail
   refine (bit_at _ (n / 2 ^ k) (by simp) W _ v1 wr H1.out (by simp;omega) hdiv).mono ?_
   rintro e w2 ⟨rfl,h2⟩
   have HH : Hid (Wrote w W (L ++ lsb n (k + 1)) v w2):=by
    rw [lsb_snoc,← List.append_assoc]
    exact Wrote.trans (L1:=[]) H2.out H3.out h2
   clear h2
   go_wp2
   go_roundw
   case rel => exact ⟨k + 1,by omega,by go_num,HH.out⟩
   case measure => simp [intOf];omega
  ·obtain rfl : k = many:=by omega
   go_wp2
   go_end0
   exact ⟨rfl,v1,H1.out,H2.out,H3.out⟩
set_option maxHeartbeats 1000000 in
theorem code_any (W : Nat) (L : List Bool) (v : Value) (n long : Nat) (w : World) (hw : Wr w W L v) (hL : L.length + long ≤ 1099511627776) (hn : n < 4611686018427387904) (hm : long ≤ 62) :
  Calls Tryz.prog 39 #[.pointer (some ⟨W,0,none⟩),.int .i64 n,.int .i64 long] w fun e w' => e = .returned (.tuple #[]) ∧ Wrote w W (L ++ msb n long) v w':=by
 have HW:=Lib.hid hw;clear hw
 go_enter Tryz.func39,Tryz.ntmps39
 go_wp2
 go_loopw [6] (fun i wr => ∃ k : Nat,k ≤ long ∧ i = .int .i64 ((k : Int) - 1) ∧ Wrote w W (L ++ msb (n / 2 ^ k) (long - k)) v wr) (fun i _ => (intOf i + 1).toNat)
 case atStart => exact ⟨long,Nat.le_refl _,rfl,by simpa [msb,lsb] using Wrote.start HW.out⟩
 case round =>
  obtain ⟨k,hk,rfl,v1,hw1,he1,hm1⟩:=hrel
  have H1:=Lib.hid hw1;have H2:=Lib.hid he1;have H3:=Lib.hid hm1;clear hw1 he1 hm1
  cases k with
  | succ k =>
   have hdiv : n / 2 ^ k < 4611686018427387904:=Nat.lt_of_le_of_lt (Nat.div_le_self _ _) hn
   have ek : ((k + 1 : Nat) : Int) - 1 = (k : Int):=by omega
   rw [ek]
   go_wp2_with fail
   refine (bit_at _ (n / 2 ^ k) (by simp) W _ v1 wr H1.out (by simp;omega) hdiv).mono ?_
   rintro e w2 ⟨rfl,h2⟩
   have HH : Hid (Wrote w W (L ++ msb (n / 2 ^ k) (long - k)) v w2):=by
    have e1 : long - k = (long - (k + 1)) + 1:=by omega
    rw [e1,msb_snoc,Nat.div_div_eq_div_mul,← Nat.pow_succ,← List.append_assoc]
    exact Wrote.trans (L1:=[]) H2.out H3.out h2
   clear h2
   go_wp2
   go_roundw
   case rel => exact ⟨k,by omega,by go_num,HH.out⟩
   case measure => simp [intOf]
  | zero =>
   go_wp2
   go_end0
   simp only [Nat.pow_zero,Nat.div_one,Nat.sub_zero] at H1
   exact ⟨rfl,v1,H1.out,H2.out,H3.out⟩
theorem packed_align {bs : List UInt8} {L : List Bool} (h : Packed bs L) : Packed bs (L ++ List.replicate (8 * bs.length - L.length) false):=by
 obtain ⟨h1,h2,h3⟩:=h
 refine ⟨by simp;omega,by simp;omega,?_⟩
 rw [h3]
 simp
 omega
theorem align_any (W : Nat) (L : List Bool) (v : Value) (w : World) (hw : Wr w W L v) (hL : L.length ≤ 1099511627776) :
  Calls Tryz.prog 32 #[.pointer (some ⟨W,0,none⟩)] w fun e w' => e = .returned (.tuple #[]) ∧ ∃ k,k < 8 ∧ (L.length + k) % 8 = 0 ∧ Wrote w W (L ++ List.replicate k false) v w':=by
 obtain ⟨hblk,⟨bs,hown,hpk⟩,hne⟩:=hw
 have hc0 : w.cell? ⟨W,0,none⟩ = some v:=by rw [hblk.cell];rfl
 have hc1 : w.cell? ⟨W,1,none⟩ = some (.int .i64 L.length):=by rw [hblk.cell];rfl
 have hfW : ∀ o,w.frozen? ⟨W,o,none⟩ = false:=fun o => hblk.free o
 have hbl:=hpk.1
 obtain ⟨a,cap,rfl⟩ : ∃ a cap,v = .slice a bs.length cap:=by
  rcases hown.2 with ⟨rfl,h⟩ | ⟨g,cap,cur,rfl,_⟩
  ·rw [h];exact ⟨none,0,rfl⟩
  ·exact ⟨_,_,rfl⟩
 have hm : bs.length ≤ 1099511627776:=by omega
 have walk : Calls Tryz.prog 32 #[.pointer (some ⟨W,0,none⟩)] w fun e w' => e = .returned (.tuple #[]) ∧ w.setCell ⟨W,1,none⟩ (.int .i64 (8 * (bs.length : Int))) = w':=by
  clear hpk hown hne hblk hbl
  generalize bs.length = m at *
  generalize L.length = k at *
  go_enter Tryz.func32,Tryz.ntmps32
  go_wp2
  go_end0
  exact ⟨rfl,rfl⟩
 refine walk.mono ?_
 rintro e w' ⟨rfl,rfl⟩
 refine ⟨rfl,8 * bs.length - L.length,by omega,by omega,_,⟨?_,⟨bs,?_,packed_align hpk⟩,hne⟩,(Ext.refl _ w).setCell (fun _ => .inl rfl) _,.inl rfl⟩
 ·have:=hblk.set 1 (.int .i64 (8 * (bs.length : Int)))
  have e : (((L ++ List.replicate (8 * bs.length - L.length) false).length : Nat) : Int) = 8 * (bs.length : Int):=by simp;omega
  rw [e]
  simpa using this
 ·exact ownsRow_setCell_other hown hne _
end Go.Proofs.YthpapbilhjobnaaGreatDoor
namespace Go.Proofs.YthpapbilhjobnaaGreatDoor
open Go.RowKit Pu
theorem ret2 {a b c d : Int} (h1 : a = c) (h2 : b = d) : Ending.returned (.tuple #[.int .i64 a,.int .i64 b]) = .returned (.tuple #[.int .i64 c,.int .i64 d]):=by rw [h1,h2]
theorem ret3 {a b c x y z : Int} (h1 : a = x) (h2 : b = y) (h3 : c = z) : Ending.returned (.tuple #[.int .i64 a,.int .i64 b,.int .i64 c]) = .returned (.tuple #[.int .i64 x,.int .i64 y,.int .i64 z]):=by rw [h1,h2,h3]
theorem lbase_walk : ∀ k : Nat,k < 28 → 8 ≤ k → wrap64 (3 + wrap64 ((4 + (257 + (k : Int) - 257) % 4) * 2 ^ (k / 4 - 1))) = lbase (257 + k) ∧ (257 + (k : Int) - 257) / 4 - 1 = lextra (257 + k):=by decide +kernel
theorem dbase_walk : ∀ k : Nat,k < 30 → 4 ≤ k → wrap64 (1 + wrap64 ((2 + (k : Int) % 2) * 2 ^ (k / 2 - 1))) = dbase k ∧ (k : Int) / 2 - 1 = dextra k:=by decide +kernel
set_option maxHeartbeats 1000000 in
theorem lengthOf_any (s : Nat) (w : World) (h0 : 257 ≤ s) (h1 : s ≤ 285) :
  Calls Tryz.prog 55 #[.int .i64 s] w fun e w' => e = .returned (.tuple #[.int .i64 (lbase s),.int .i64 (lextra s)]) ∧ w = w':=by
 obtain ⟨k,rfl⟩ : ∃ k,s = 257 + k:=⟨s - 257,by omega⟩
 by_cases h8 : k < 8
 ·go_enter Tryz.func55,Tryz.ntmps55
  go_wp2
  go_ret2
  exact ⟨ret2 (by simp [lbase,h8];omega) (by simp [lextra,h8]),rfl⟩
 ·by_cases h28 : k = 28
  ·subst h28
   go_enter Tryz.func55,Tryz.ntmps55
   go_wp2
   go_ret2
   exact ⟨rfl,rfl⟩
  ·have hb : ((257 : Int) + (k : Int) - 257 == 28) = false:=by simp;omega
   have HB:=Lib.hid (lbase_walk k (by omega) (by omega))
   go_enter Tryz.func55,Tryz.ntmps55
   go_wp2
   go_ret2
   exact ⟨ret2 HB.out.1 HB.out.2,rfl⟩
set_option maxHeartbeats 1000000 in
theorem distanceOf_any (s : Nat) (w : World) (h1 : s ≤ 29) :
  Calls Tryz.prog 56 #[.int .i64 s] w fun e w' => e = .returned (.tuple #[.int .i64 (dbase s),.int .i64 (dextra s)]) ∧ w = w':=by
 by_cases h8 : s < 4
 ·go_enter Tryz.func56,Tryz.ntmps56
  go_wp2
  go_ret2
  exact ⟨ret2 (by simp [dbase,h8]) (by simp [dextra,h8]),rfl⟩
 ·have HB:=Lib.hid (dbase_walk s (by omega) (by omega))
  go_enter Tryz.func56,Tryz.ntmps56
  go_wp2
  go_ret2
  exact ⟨ret2 HB.out.1 HB.out.2,rfl⟩
set_option maxHeartbeats 1000000 in
theorem lengthSymbol_any (long : Nat) (w : World) (h0 : 3 ≤ long) (h1 : long ≤ 258) :
  Calls Tryz.prog 40 #[.int .i64 long] w fun e w' => e = .returned (.tuple #[.int .i64 (lsym long),.int .i64 ((long - lbase (lsym long) : Nat) : Int),.int .i64 (lextra (lsym long))]) ∧ w = w':=by
 by_cases h258 : long = 258
 ·subst h258
  go_enter Tryz.func40,Tryz.ntmps40
  go_wp2
  go_ret3
  exact ⟨rfl,rfl⟩
 ·have hb : ((long : Int) == 258) = false:=by simp;omega
  have e1 : lsym long = lsearch long 27:=by simp [lsym,h258]
  rw [e1]
  go_enter Tryz.func40,Tryz.ntmps40
  go_wp2
  go_loop [2] (fun i => ∃ k : Nat,k ≤ 27 ∧ i = .int .i64 ((257 + k : Nat) : Int) ∧ lsearch long 27 = lsearch long k) (fun i => (intOf i).toNat)
  case atStart => exact ⟨27,Nat.le_refl _,rfl,rfl⟩
  case round =>
   obtain ⟨k,hk,rfl,hs⟩:=hrel
   have HS:=Lib.hid hs;clear hs e1
   have hl:=lbase_le (257 + k) (by omega)
   by_cases hge : lbase (257 + k) ≤ long
   ·have HF : Hid (lsearch long k = 257 + k):=by
     cases k with
     | zero => rfl
     | succ k => show lsearch long (k + 1) = _;simp only [lsearch];rw [if_pos hge]
    go_wp2_with (go_at_call 55;refine (lengthOf_any (257 + k) _ (by omega) (by omega)).mono ?_;rintro e w' ⟨rfl,rfl⟩)
    go_ret3
    exact ⟨ret3 (by rw [HS.out,HF.out];simp) (by rw [HS.out,HF.out];omega) (by rw [HS.out,HF.out]),rfl⟩
   ·cases k with
    | zero => exfalso;simp [lbase] at hge;omega
    | succ k =>
     have HF : Hid (lsearch long (k + 1) = lsearch long k):=by
      show lsearch long (k + 1) = _;simp only [lsearch];rw [if_neg hge]
     go_wp2_with (go_at_call 55;refine (lengthOf_any (257 + (k + 1)) _ (by omega) (by omega)).mono ?_;rintro e w' ⟨rfl,rfl⟩)
     go_round
     case rel => exact ⟨k,by omega,by go_num,by rw [HS.out,HF.out]⟩
     case measure => simp [intOf];omega
set_option maxHeartbeats 1000000 in
theorem distanceSymbol_any (far : Nat) (w : World) (h0 : 1 ≤ far) (h1 : far ≤ 32768) :
  Calls Tryz.prog 41 #[.int .i64 far] w fun e w' => e = .returned (.tuple #[.int .i64 (dsym far),.int .i64 ((far - dbase (dsym far) : Nat) : Int),.int .i64 (dextra (dsym far))]) ∧ w = w':=by
 have e1 : dsym far = dsearch far 29:=rfl
 rw [e1]
 go_enter Tryz.func41,Tryz.ntmps41
 go_wp2
 go_loop [2] (fun i => ∃ k : Nat,k ≤ 29 ∧ i = .int .i64 (k : Int) ∧ dsearch far 29 = dsearch far k) (fun i => (intOf i).toNat)
 case atStart => exact ⟨29,Nat.le_refl _,rfl,rfl⟩
 case round =>
  obtain ⟨k,hk,rfl,hs⟩:=hrel
  have HS:=Lib.hid hs;clear hs e1
  have hl:=dbase_le k (by omega)
  by_cases hge : dbase k ≤ far
  ·have HF : Hid (dsearch far k = k):=by
    cases k with
    | zero => rfl
    | succ k => show dsearch far (k + 1) = _;simp only [dsearch];rw [if_pos hge]
   go_wp2_with (go_at_call 56;refine (distanceOf_any k _ (by omega)).mono ?_;rintro e w' ⟨rfl,rfl⟩)
   go_ret3
   exact ⟨ret3 (by rw [HS.out,HF.out]) (by rw [HS.out,HF.out];omega) (by rw [HS.out,HF.out]),rfl⟩
  ·cases k with
   | zero => exfalso;simp [dbase] at hge;omega
   | succ k =>
    have HF : Hid (dsearch far (k + 1) = dsearch far k):=by
     show dsearch far (k + 1) = _;simp only [dsearch];rw [if_neg hge]
    go_wp2_with (go_at_call 56;refine (distanceOf_any (k + 1) _ (by omega)).mono ?_;rintro e w' ⟨rfl,rfl⟩)
    go_round
    case rel => exact ⟨k,by omega,by go_num,by rw [HS.out,HF.out]⟩
    case measure => simp [intOf]
end Go.Proofs.YthpapbilhjobnaaGreatDoor
namespace Go.Proofs.YthpapbilhjobnaaGreatDoor
open Go.RowKit Pu
def Fresh (w : World) (e : TypeId) (xs : List Value) (v : Value) (w' : World) : Prop:=w'.ownsRow w.heap.size e 1 v xs.length xs ∧ Ext (fun _ => False) w w'
def hdrB (a b : Nat) : Bool:=a % 16 == 8 && decide (a / 16 ≤ 7) && (a * 256 + b) % 31 == 0
set_option maxHeartbeats 1000000 in
theorem isHeader_any (a b : Nat) (w : World) (ha : a < 256) (hb : b < 256) :
  Calls Tryz.prog 17 #[.int .u8 a,.int .u8 b] w fun e w' => e = .returned (.bool (hdrB a b)) ∧ w = w':=by
 have key : ∀ r : Bool,r = hdrB a b → Ending.returned (.bool r) = .returned (.bool (hdrB a b)):=fun r h => by rw [h]
 have HK:=Lib.hid key;clear key
 have c1 : ∀ x : Nat,((x : Int) % 31 == 0) = (x % 31 == 0):=fun x => by rw [Bool.eq_iff_iff];simp;omega
 have HC:=Lib.hid c1;clear c1
 go_enter Tryz.func17,Tryz.ntmps17
 go_wp2
 all_goals go_ret
 ·have h1 : (a : Int) % 16 = 8:=by assumption
  have h2 : (a : Int) / 16 ≤ 7:=by assumption
  refine ⟨HK.out _ ?_,rfl⟩
  have e1 : a % 16 = 8:=by omega
  have e2 : a / 16 ≤ 7:=by omega
  have:=HC.out (a * 256 + b)
  simp [hdrB,e1,e2]
  simpa using this
 ·have h1 : (a : Int) % 16 = 8:=by assumption
  have h2 : 7 < (a : Int) / 16:=by assumption
  refine ⟨HK.out _ ?_,rfl⟩
  have e2 : ¬ a / 16 ≤ 7:=by omega
  simp [hdrB,e2]
 ·have h1 : ¬ (a : Int) % 16 = 8:=by assumption
  refine ⟨HK.out _ ?_,rfl⟩
  have e1 : ¬ a % 16 = 8:=by omega
  simp [hdrB,e1]
def fourB (n : Nat) : List UInt8:=[UInt8.ofNat (n / 16777216),UInt8.ofNat (n / 65536),UInt8.ofNat (n / 256),UInt8.ofNat n]
theorem four_any (n : Nat) (w : World) (hn : n < 4294967296) :
  Calls Tryz.prog 20 #[.int .u32 n] w fun e w' => ∃ v,e = .returned v ∧ Fresh w 5 ((fourB n).map U8) v w':=by
 have walk : Calls Tryz.prog 20 #[.int .u32 n] w fun e w' => e = .returned (.slice (some ⟨w.heap.size,0,none⟩) 4 4) ∧
   w.alloc (.cells #[.int .u8 ((n : Int) / 16777216),.int .u8 ((n : Int) / 65536 % 256),.int .u8 ((n : Int) / 256 % 256),.int .u8 ((n : Int) % 256)] 5) = w':=by
  go_enter Tryz.func20,Tryz.ntmps20
  go_wp2
  go_ret
  exact ⟨rfl,rfl⟩
 refine walk.mono ?_
 rintro e w' ⟨rfl,rfl⟩
 refine ⟨_,rfl,?_,(Ext.refl _ w).alloc _⟩
 have e : (fourB n).map U8 = [.int .u8 ((n : Int) / 16777216),.int .u8 ((n : Int) / 65536 % 256),.int .u8 ((n : Int) / 256 % 256),.int .u8 ((n : Int) % 256)]:=by
  simp [fourB,U8]
  omega
 rw [e]
 exact World.ownsRow_lit (size:=1) w _ 4 (Nat.le_refl _) (by simp [maxLen]) rfl
def orderL : List Nat:=[16,17,18,0,8,7,9,6,10,5,11,4,12,3,13,2,14,1,15]
theorem order_any (w : World) : Calls Tryz.prog 44 #[] w fun e w' => e = .returned (.slice (some ⟨w.heap.size,0,none⟩) 19 19) ∧ w' = w.alloc (.cells (orderL.map IV).toArray 3):=by
 go_enter Tryz.func44,Tryz.ntmps44
 go_wp2
 go_ret
 exact ⟨rfl,rfl⟩
def adl (p : Nat × Nat) (c : UInt8) : Nat × Nat:=((p.1 + c.toNat) % 65521,(p.2 + (p.1 + c.toNat) % 65521) % 65521)
def adlS (l : List UInt8) : Nat × Nat:=l.foldl adl (1,0)
def adler (l : List UInt8) : Nat:=(adlS l).2 * 65536 + (adlS l).1
theorem adl_lt (l : List UInt8) (p : Nat × Nat) (h : p.1 < 65521 ∧ p.2 < 65521) : (l.foldl adl p).1 < 65521 ∧ (l.foldl adl p).2 < 65521:=by
 induction l generalizing p with
 | nil => exact h
 | cons c l ih => exact ih _ ⟨Nat.mod_lt _ (by omega),Nat.mod_lt _ (by omega)⟩
theorem adlS_lt (l : List UInt8) : (adlS l).1 < 65521 ∧ (adlS l).2 < 65521:=adl_lt l _ (by simp)
theorem adler_lt (l : List UInt8) : adler l < 4294967296:=by have:=adlS_lt l;unfold adler;omega
theorem adlS_snoc (l : List UInt8) (c : UInt8) : adlS (l ++ [c]) = adl (adlS l) c:=by simp [adlS]
theorem ret_u32 {a b : Int} (h : a = b) : Ending.returned (.int .u32 a) = .returned (.int .u32 b):=by rw [h]
set_option maxHeartbeats 1000000 in
theorem adler_nil (w : World) : Calls Tryz.prog 18 #[.slice none 0 0] w fun e w' => e = .returned (.int .u32 (adler [])) ∧ w = w':=by
 go_enter Tryz.func18,Tryz.ntmps18
 go_wp2
 go_loop [3,4,9] (fun s1 s2 i => s1 = .int .u32 1 ∧ s2 = .int .u32 0 ∧ i = .int .i64 0) (fun _ _ _ => 0)
 case atStart => exact ⟨rfl,rfl,rfl⟩
 case round =>
  obtain ⟨rfl,rfl,rfl⟩:=hrel
  go_wp2
  go_ret
  exact ⟨ret_u32 (by decide +kernel),rfl⟩
theorem or_sum (a b : Nat) (ha : a < 65521) (hb : b < 65521) : bits BinOp.or IntKind.u32 ((a : Int) * 65536) (b : Int) = ((a * 65536 + b : Nat) : Int):=by
 have h:=u32_or_nat (a * 65536) b (by omega) (by omega)
 rw [nat_join 16 (a * 65536) b (by omega) (by omega)] at h
 rw [← h]
 simp
set_option maxHeartbeats 1000000 in
theorem adler_some (b o cap : Nat) (l : List UInt8) (w : World) (hl : l.length ≤ 1099511627776) (hc : ∀ j x,(l.map U8)[j]? = some x → w.cell? ⟨b,o + j,none⟩ = some x) :
  Calls Tryz.prog 18 #[.slice (some ⟨b,o,none⟩) l.length cap] w fun e w' => e = .returned (.int .u32 (adler l)) ∧ w = w':=by
 have HC:=Lib.hid hc;clear hc
 obtain ⟨n,hn⟩ : ∃ n,l.length = n:=⟨_,rfl⟩
 have HN:=Lib.hid hn
 rw [hn] at hl ⊢
 clear hn
 go_enter Tryz.func18,Tryz.ntmps18
 go_wp2
 go_loop [3,4,9] (fun s1 s2 i => ∃ k : Nat,k ≤ n ∧ i = .int .i64 k ∧ s1 = .int .u32 (adlS (l.take k)).1 ∧ s2 = .int .u32 (adlS (l.take k)).2) (fun _ _ i => n - (intOf i).toNat)
 case atStart => exact ⟨0,by omega,rfl,rfl,rfl⟩
 case round =>
  obtain ⟨k,hk,rfl,rfl,rfl⟩:=hrel
  have hlt:=adlS_lt (l.take k)
  obtain ⟨h1,h2⟩:=hlt
  by_cases hkn : k < n
  ·have hkl : k < l.length:=by rw [HN.out];exact hkn
   have hcell : w.cell? ⟨b,o + k,none⟩ = some (.int .u8 (l[k].toNat : Int)):=HC.out k _ (by simp [hkl,U8])
   have hsn : adlS (l.take (k + 1)) = adl (adlS (l.take k)) l[k]:=by rw [← adlS_snoc,List.take_succ_eq_append_getElem hkl]
   have hb8:=l[k].toNat_lt
   have HS : Hid ((((adlS (l.take k)).1 : Int) + (l[k].toNat : Int)) % 65521 = ((adlS (l.take (k + 1))).1 : Int) ∧ (((adlS (l.take k)).2 : Int) + (((adlS (l.take k)).1 : Int) + (l[k].toNat : Int)) % 65521) % 65521 = ((adlS (l.take (k + 1))).2 : Int)):=by
    rw [hsn];simp [adl,Hid]
   clear hsn
   generalize (adlS (l.take k)).1 = s1 at *
   generalize (adlS (l.take k)).2 = s2 at *
   generalize l[k].toNat = c at *
   go_wp2
   go_round
   case rel => exact ⟨k + 1,by omega,by go_num,congrArg (Value.int .u32) HS.out.1,congrArg (Value.int .u32) HS.out.2⟩
   case measure => simp [intOf];omega
  ·obtain rfl : k = n:=by omega
   have hfull : l.take k = l:=List.take_of_length_le (by rw [HN.out];omega)
   rw [hfull] at h1 h2 ⊢
   have HO:=Lib.hid (or_sum (adlS l).2 (adlS l).1 h2 h1)
   go_wp2
   go_ret
   exact ⟨ret_u32 HO.out,rfl⟩
theorem adler_any (v : Value) (l : List UInt8) (w : World) (hl : l.length ≤ 1099511627776) (h : Rd w v (l.map U8)) :
  Calls Tryz.prog 18 #[v] w fun e w' => e = .returned (.int .u32 (adler l)) ∧ w = w':=by
 obtain ⟨cap,h1,h2,h3⟩:=h
 rcases h3 with ⟨rfl,h3⟩ | ⟨b,o,rfl,h3⟩
 ·obtain rfl : l = []:=by simpa using h3
  exact adler_nil w
 ·simpa using adler_some b o cap l w hl h3
def codesL (lens : List Nat) : List Nat:=(List.range lens.length).map fun s => if len lens s = 0 then 0 else codeOf lens s
def codesTo (lens : List Nat) (long k : Nat) : List Nat:=(List.range lens.length).map fun s => if len lens s = 0 then 0 else if len lens s < long ∨ len lens s = long ∧ s < k then codeOf lens s else 0
theorem first_le (lens : List Nat) (n : Nat) : first lens n ≤ 2 * lens.length * (2 ^ n - 1):=by
 induction n with
 | zero => simp [first]
 | succ n ih =>
  have hc : cnt lens n ≤ lens.length:=by unfold cnt;split;omega;exact List.count_le_length
  rw [first_step,Nat.pow_succ]
  have hp:=Nat.two_pow_pos n
  have e : 2 ^ n * 2 - 1 = 2 * (2 ^ n - 1) + 1:=by omega
  rw [e,Nat.mul_add (2 * lens.length),Nat.mul_one,Nat.mul_left_comm (2 * lens.length) 2]
  omega
theorem codesTo_length (lens : List Nat) (g k : Nat) : (codesTo lens g k).length = lens.length:=by simp [codesTo]
theorem codesTo_start (lens : List Nat) : codesTo lens 1 0 = List.replicate lens.length 0:=by
 refine List.ext_getElem (by simp [codesTo]) fun i h1 h2 => ?_
 simp only [codesTo,List.getElem_map,List.getElem_range,List.getElem_replicate]
 split
 ·rfl
 ·rw [if_neg (by omega)]
theorem codesTo_hit (lens : List Nat) (g k : Nat) (hk : k < lens.length) (hg : len lens k = g) (h0 : 0 < g) :
  codesTo lens g (k + 1) = (codesTo lens g k).set k (first lens g + (lens.take k).count g):=by
 refine List.ext_getElem (by simp [codesTo]) fun i h1 h2 => ?_
 rw [List.getElem_set]
 simp only [codesTo,List.getElem_map,List.getElem_range]
 by_cases hik : k = i
 ·subst hik
  rw [if_pos rfl,if_neg (by omega),if_pos (by omega)]
  unfold codeOf rank
  rw [hg]
 ·rw [if_neg hik]
  by_cases h : len lens i = 0
  ·rw [if_pos h,if_pos h]
  ·rw [if_neg h,if_neg h]
   congr 1
   simp only [eq_iff_iff]
   omega
theorem codesTo_miss (lens : List Nat) (g k : Nat) (hg : len lens k ≠ g) : codesTo lens g (k + 1) = codesTo lens g k:=by
 refine List.ext_getElem (by simp [codesTo]) fun i h1 h2 => ?_
 simp only [codesTo,List.getElem_map,List.getElem_range]
 by_cases h : len lens i = 0
 ·rw [if_pos h,if_pos h]
 ·rw [if_neg h,if_neg h]
  congr 1
  simp only [eq_iff_iff]
  constructor
  ·rintro (h | ⟨h3,h4⟩)
   ·exact .inl h
   ·refine .inr ⟨h3,?_⟩
    rcases Nat.lt_or_ge i k with h5 | h5
    ·exact h5
    ·obtain rfl : i = k:=by omega
     exact absurd h3 hg
  ·rintro (h | ⟨h3,h4⟩)
   ·exact .inl h
   ·exact .inr ⟨h3,by omega⟩
theorem codesTo_next (lens : List Nat) (g : Nat) : codesTo lens g lens.length = codesTo lens (g + 1) 0:=by
 refine List.ext_getElem (by simp [codesTo]) fun i h1 h2 => ?_
 simp only [codesTo,List.getElem_map,List.getElem_range]
 simp [codesTo] at h1
 by_cases h : len lens i = 0
 ·rw [if_pos h,if_pos h]
 ·rw [if_neg h,if_neg h]
  congr 1
  simp only [eq_iff_iff]
  omega
theorem codesTo_end (lens : List Nat) (h : ∀ n ∈ lens,n ≤ 15) : codesTo lens 16 0 = codesL lens:=by
 refine List.ext_getElem (by simp [codesTo,codesL]) fun i h1 h2 => ?_
 simp only [codesTo,codesL,List.getElem_map,List.getElem_range]
 have:=len_le h i
 by_cases h : len lens i = 0
 ·rw [if_pos h,if_pos h]
 ·rw [if_neg h,if_neg h,if_pos (by omega)]
theorem count_step (lens : List Nat) (g k : Nat) (hk : k < lens.length) : (lens.take (k + 1)).count g = (lens.take k).count g + if len lens k = g then 1 else 0:=by
 rw [List.take_succ_eq_append_getElem hk,List.count_append,len_eq hk]
 by_cases h : lens[k] = g <;> simp [h]
set_option maxHeartbeats 2000000 in
set_option maxRecDepth 100000 in
theorem codes_some (b o cap : Nat) (lens : List Nat) (w : World) (hn0 : lens.length ≤ 300) (hlen : ∀ n ∈ lens,n ≤ 15)
  (hc : ∀ j x,(lens.map IV)[j]? = some x → w.cell? ⟨b,o + j,none⟩ = some x) :
  Calls Tryz.prog 38 #[.slice (some ⟨b,o,none⟩) lens.length cap] w fun e w' => ∃ v,e = .returned v ∧ Fresh w 3 ((codesL lens).map IV) v w':=by
 obtain ⟨i0,hi,hz0,hz1,hz2⟩:=info_parts Tryz.info3
 have HC:=Lib.hid hc;clear hc
 obtain ⟨n,hn⟩ : ∃ n,lens.length = n:=⟨_,rfl⟩
 have HN:=Lib.hid hn
 rw [hn] at hn0 ⊢
 clear hn
 have HL:=Lib.hid hlen;clear hlen
 go_enter Tryz.func38,Tryz.ntmps38
 go_wp2_with (at_make;refine wpList_make_full _ rfl _ _ 23 rfl w.heap.size 3 i0 (.int .i64 0) 1 Tryz.underlying23 hi hz0 hz1 .i64 .i64 _ _ n rfl rfl rfl rfl ?_ ?_ (Nat.le_refl _) ?_)
 ·rw [hz2];omega
 ·simp only [maxLen];omega
 intro w0 hown0 hg0
 have hown1 : w0.ownsRow w.heap.size 3 1 (.slice (some ⟨w.heap.size,0,none⟩) n n) n ((codesTo lens 1 0).map IV):=by
  rw [codesTo_start,HN.out]
  have : (madeCells #[Value.int .i64 0] n).toList = (List.replicate n 0).map IV:=by
   rw [toList_madeCells_one];simp [IV]
  rw [this] at hown0;exact hown0
 have hext : Ext (fun _ => False) w w0:=(Ext.refl _ w).grown hg0 (fun k e => by cases e)
 have HO:=Lib.hid hown1;have HE:=Lib.hid hext
 clear hown0 hown1 hg0 hext
 go_wp2
 go_loopw [4,5] (fun nx lg wr => ∃ g : Nat,1 ≤ g ∧ g ≤ 16 ∧ lg = .int .i64 g ∧ nx = .int .i64 ((first lens (g - 1) + cnt lens (g - 1) : Nat) : Int) ∧ wr.ownsRow w.heap.size 3 1 (.slice (some ⟨w.heap.size,0,none⟩) n n) n ((codesTo lens g 0).map IV) ∧ Ext (fun _ => False) w wr) (fun _ lg _ => 16 - (intOf lg).toNat)
 case atStart => exact ⟨1,by omega,by omega,rfl,by simp [first,cnt],HO.out,HE.out⟩
 case round =>
  obtain ⟨g,hg1,hg2,rfl,rfl,hown,hext⟩:=hrel
  have H1:=Lib.hid hown;have H2:=Lib.hid hext;clear hown hext
  have hb : first lens (g - 1) + cnt lens (g - 1) ≤ 100000000:=by
   have h1:=first_le lens g
   have h2 : first lens g = 2 * (first lens (g - 1) + cnt lens (g - 1)):=by
    obtain ⟨k,rfl⟩ : ∃ k,g = k + 1:=⟨g - 1,by omega⟩
    rfl
   have h3 : 2 ^ g - 1 ≤ 65535:=by
    have : 2 ^ g ≤ 2 ^ 16:=Nat.pow_le_pow_right (by omega) hg2
    omega
   have h4 : 2 * lens.length * (2 ^ g - 1) ≤ 2 * 300 * 65535:=Nat.mul_le_mul (by rw [HN.out];omega) h3
   omega
  by_cases hg : g ≤ 15
  ·have HF : Hid (first lens g = 2 * (first lens (g - 1) + cnt lens (g - 1))):=by
    obtain ⟨k,rfl⟩ : ∃ k,g = k + 1:=⟨g - 1,by omega⟩
    rfl
   generalize hnx : first lens (g - 1) + cnt lens (g - 1) = nx at *
   clear hnx
   obtain ⟨wo,rfl⟩ : ∃ wo : World,wo = wr:=⟨_,rfl⟩
   go_wp2
   go_loopw [4,19] (fun y i wi => ∃ k : Nat,k ≤ n ∧ i = .int .i64 k ∧ y = .int .i64 ((first lens g + (lens.take k).count g : Nat) : Int) ∧ wi.ownsRow w.heap.size 3 1 (.slice (some ⟨w.heap.size,0,none⟩) n n) n ((codesTo lens g k).map IV) ∧ Ext (fun _ => False) w wi) (fun _ i _ => n - (intOf i).toNat)
   case atStart => exact ⟨0,by omega,rfl,by simp [HF.out];omega,H1.out,H2.out⟩
   case round =>
    obtain ⟨k,hk,rfl,rfl,hown,hext⟩:=hrel
    have H3:=Lib.hid hown;have H4:=Lib.hid hext;clear hown hext
    have hb2 : first lens g + (lens.take k).count g ≤ 300000000:=by
     have h1 : (lens.take k).count g ≤ (lens.take k).length:=List.count_le_length
     have h2 : (lens.take k).length ≤ lens.length:=by simp;omega
     have:=HF.out
     have:=HN.out
     omega
    by_cases hkn : k < n
    ·have hkl : k < lens.length:=by rw [HN.out];exact hkn
     have hblt : b < w.heap.size:=World.block_lt_of_cell? w _ (HC.out k (IV lens[k]) (by simp [hkl]))
     have hcell : wr.cell? ⟨b,o + k,none⟩ = some (.int .i64 (len lens k : Int)):=by
      rw [H4.out.cell hblt (fun h => h),len_eq hkl]
      exact HC.out k _ (by simp [hkl,IV])
     have hle:=len_le HL.out k
     have HX:=Lib.hid (count_step lens g k hkl)
     by_cases heq : len lens k = g
     ·have hbq : ((len lens k : Int) == (g : Int)) = true:=by simp [heq]
      have hcg : wr.cell? ⟨w.heap.size,k,none⟩ = some (.int .i64 ((codesTo lens g k)[k]?.getD 0 : Int)):=by
       rw [H3.out.cellAt k (by omega)]
       simp [IV,codesTo_length,hkl]
      have hfz : ∀ o,wr.frozen? ⟨w.heap.size,o,none⟩ = false:=fun o => H3.out.frozenAt o
      have HY:=Lib.hid (codesTo_hit lens g k hkl heq (by omega))
      have HEQ:=Lib.hid heq;clear heq
      generalize hlk : len lens k = lk at *
      clear hlk
      generalize hyv : first lens g + (lens.take k).count g = y at *
      have HYV:=Lib.hid hyv;clear hyv
      go_wp2
      go_roundw
      case rel =>
       refine ⟨k + 1,by omega,by go_num,?_,?_,?_⟩
       ·have:=HX.out;rw [if_pos HEQ.out] at this;rw [this,← Nat.add_assoc,HYV.out];go_num
       ·rw [HY.out,List.map_set];exact (H3.out.stored k _).1
       ·exact H4.out.setCell (fun h => by simp at h) _
      case measure => simp [intOf];omega
     ·have hbq : ((len lens k : Int) == (g : Int)) = false:=by simp;omega
      have HY:=Lib.hid (codesTo_miss lens g k heq)
      have HEQ:=Lib.hid heq;clear heq
      generalize hlk : len lens k = lk at *
      clear hlk
      go_wp2
      go_roundw
      case rel =>
       refine ⟨k + 1,by omega,by go_num,?_,?_,H4.out⟩
       ·have:=HX.out;rw [if_neg HEQ.out] at this;rw [this];rfl
       ·rw [HY.out];exact H3.out
      case measure => simp [intOf];omega
    ·obtain rfl : k = n:=by omega
     go_wp2
     go_roundw
     case rel =>
      refine ⟨g + 1,by omega,by omega,by go_num,?_,?_,H4.out⟩
      ·rw [Nat.add_sub_cancel]
       have : (lens.take k).count g = cnt lens g:=by rw [List.take_of_length_le (by rw [HN.out];omega)];simp [cnt];omega
       rw [this]
      ·rw [← codesTo_next,HN.out];exact H3.out
     case measure => simp [intOf];omega
  ·obtain rfl : g = 16:=by omega
   go_wp2
   go_ret
   refine ⟨_,rfl,?_,H2.out⟩
   have:=H1.out
   rw [codesTo_end lens HL.out] at this
   simpa [codesL,HN.out] using this
end Go.Proofs.YthpapbilhjobnaaGreatDoor
namespace Go.Proofs.YthpapbilhjobnaaGreatDoor
open Go.RowKit Pu
def fixLen (i : Nat) : Nat:=if i < 144 then 8 else if i < 256 then 9 else if i < 280 then 7 else 8
def fixLits : List Nat:=(List.range 288).map fixLen
def fixDists : List Nat:=List.replicate 32 5
theorem fixLits_full : Full fixLits:=⟨by decide +kernel,by decide +kernel⟩
theorem fixDists_full : Full fixDists:=⟨by decide +kernel,by decide +kernel⟩
def FixedPost (w : World) (e : Ending) (w' : World) : Prop :=
 ∃ v1 v2,e = .returned (.tuple #[v1,v2]) ∧ w'.ownsRow w.heap.size 3 1 v1 288 (fixLits.map IV) ∧ w'.ownsRow w.heap.size 3 1 v2 32 (fixDists.map IV) ∧ Ext (fun _ => False) w w'
theorem fix_step (k x : Nat) (h : fixLen k = x) : ((List.range k).map fixLen).map IV ++ [.int .i64 (x : Int)] = ((List.range (k + 1)).map fixLen).map IV:=by
 rw [List.range_succ];simp [h,IV]
set_option maxHeartbeats 4000000 in
set_option maxRecDepth 100000 in
theorem fixed_any (w : World) : Calls Tryz.prog 33 #[] w (FixedPost w):=by
 obtain ⟨i0,hi,hz0,hz1,hz2⟩:=info_parts Tryz.info3
 go_enter Tryz.func33,Tryz.ntmps33
 go_wp2
 go_loopw [0,3] (fun v i wr => ∃ k : Nat,k ≤ 288 ∧ i = .int .i64 k ∧ wr.ownsRow w.heap.size 3 1 v k (((List.range k).map fixLen).map IV) ∧ Ext (fun _ => False) w wr) (fun _ i _ => 288 - (intOf i).toNat)
 case atStart => exact ⟨0,by omega,rfl,World.ownsRow_nil _ _ _ _,Ext.refl _ _⟩
 case round =>
  obtain ⟨k,hk,rfl,hown,hext⟩:=hrel
  have H1:=Lib.hid hown;have H2:=Lib.hid hext;clear hown hext
  have hsz:=H2.out.size
  by_cases hlt : k < 288
  ·have key : ∀ x : Nat,fixLen k = x → ∀ v' w1,w1.ownsRow w.heap.size 3 1 v' (k + 1) (((List.range k).map fixLen).map IV ++ [.int .i64 (x : Int)]) → (wr.alloc (.cells #[.int .i64 (x : Int)] 3)).grownBy w1 u0.ownBlock →
     w1.ownsRow w.heap.size 3 1 v' (k + 1) (((List.range (k + 1)).map fixLen).map IV) ∧ Ext (fun _ => False) w w1:=by
    intro x hx v' w1 h1 h2
    refine ⟨by rw [← fix_step k x hx];exact h1,(H2.out.alloc _).grown h2 (fun j hj hlt => ?_)⟩
    have:=H1.out.lt j hj
    omega
   have HK:=Lib.hid key;clear key
   have hm : k + 1 ≤ maxLen:=by simp only [maxLen];omega
   by_cases h1 : k < 144
   ·go_wp2_with (at_builtin;refine wpList_append_own _ rfl _ _ 23 rfl w.heap.size 3 i0 (.int .i64 0) 1 8 Tryz.underlying23 hi hz0 hz1 hz2 rfl (by decide) _ _ _ rfl (H1.out.alloc _) ⟨wr.heap.size,0,none⟩ 1 1 [.int .i64 ((8 : Nat) : Int)] rfl rfl (cell_one_new _ _ _) (by simp [Value.oneCell']) hm (by omega) (by simp;omega) ?_;intro v' w1 ho hg _)
    have HH:=Lib.hid (HK.out 8 (by simp [fixLen,h1]) v' w1 ho hg)
    clear ho hg
    go_wp2
    go_roundw
    case rel => exact ⟨k + 1,by omega,by go_num,HH.out.1,HH.out.2⟩
    case measure => simp [intOf];omega
   ·by_cases h2 : k < 256
    ·go_wp2_with (at_builtin;refine wpList_append_own _ rfl _ _ 23 rfl w.heap.size 3 i0 (.int .i64 0) 1 8 Tryz.underlying23 hi hz0 hz1 hz2 rfl (by decide) _ _ _ rfl (H1.out.alloc _) ⟨wr.heap.size,0,none⟩ 1 1 [.int .i64 ((9 : Nat) : Int)] rfl rfl (cell_one_new _ _ _) (by simp [Value.oneCell']) hm (by omega) (by simp;omega) ?_;intro v' w1 ho hg _)
     have HH:=Lib.hid (HK.out 9 (by simp [fixLen,h1,h2]) v' w1 ho hg)
     clear ho hg
     go_wp2
     go_roundw
     case rel => exact ⟨k + 1,by omega,by go_num,HH.out.1,HH.out.2⟩
     case measure => simp [intOf];omega
    ·by_cases h3 : k < 280
     ·go_wp2_with (at_builtin;refine wpList_append_own _ rfl _ _ 23 rfl w.heap.size 3 i0 (.int .i64 0) 1 8 Tryz.underlying23 hi hz0 hz1 hz2 rfl (by decide) _ _ _ rfl (H1.out.alloc _) ⟨wr.heap.size,0,none⟩ 1 1 [.int .i64 ((7 : Nat) : Int)] rfl rfl (cell_one_new _ _ _) (by simp [Value.oneCell']) hm (by omega) (by simp;omega) ?_;intro v' w1 ho hg _)
      have HH:=Lib.hid (HK.out 7 (by simp [fixLen,h1,h2,h3]) v' w1 ho hg)
      clear ho hg
      go_wp2
      go_roundw
      case rel => exact ⟨k + 1,by omega,by go_num,HH.out.1,HH.out.2⟩
      case measure => simp [intOf];omega
     ·go_wp2_with (at_builtin;refine wpList_append_own _ rfl _ _ 23 rfl w.heap.size 3 i0 (.int .i64 0) 1 8 Tryz.underlying23 hi hz0 hz1 hz2 rfl (by decide) _ _ _ rfl (H1.out.alloc _) ⟨wr.heap.size,0,none⟩ 1 1 [.int .i64 ((8 : Nat) : Int)] rfl rfl (cell_one_new _ _ _) (by simp [Value.oneCell']) hm (by omega) (by simp;omega) ?_;intro v' w1 ho hg _)
      have HH:=Lib.hid (HK.out 8 (by simp [fixLen,h1,h2,h3]) v' w1 ho hg)
      clear ho hg
      go_wp2
      go_roundw
      case rel => exact ⟨k + 1,by omega,by go_num,HH.out.1,HH.out.2⟩
      case measure => simp [intOf];omega
  ·have H3 : Hid (wr.ownsRow w.heap.size 3 1 u0 288 (fixLits.map IV)):=by
    obtain rfl : k = 288:=by omega
    exact H1.out
   clear H1
   obtain ⟨wo,rfl⟩ : ∃ wo : World,wo = wr:=⟨_,rfl⟩
   go_wp2
   go_loopw [1,28] (fun v i wi => ∃ k : Nat,k ≤ 32 ∧ i = .int .i64 k ∧ wi.ownsRow wo.heap.size 3 1 v k ((List.replicate k 5).map IV) ∧ Ext (fun _ => False) wo wi) (fun _ i _ => 32 - (intOf i).toNat)
   case atStart => exact ⟨0,by omega,rfl,World.ownsRow_nil _ _ _ _,Ext.refl _ _⟩
   case round =>
    obtain ⟨k,hk,rfl,hown,hext⟩:=hrel
    have H4:=Lib.hid hown;have H5:=Lib.hid hext;clear hown hext
    have hsz5:=H5.out.size
    have hm : k + 1 ≤ maxLen:=by simp only [maxLen];omega
    by_cases hlt : k < 32
    ·go_wp2_with (at_builtin;refine wpList_append_own _ rfl _ _ 23 rfl wo.heap.size 3 i0 (.int .i64 0) 1 8 Tryz.underlying23 hi hz0 hz1 hz2 rfl (by decide) _ _ _ rfl (H4.out.alloc _) ⟨wr.heap.size,0,none⟩ 1 1 [.int .i64 ((5 : Nat) : Int)] rfl rfl (cell_one_new _ _ _) (by simp [Value.oneCell']) hm (by omega) (by simp;omega) ?_;intro v' w1 ho hg _)
     have HH : Hid (w1.ownsRow wo.heap.size 3 1 v' (k + 1) ((List.replicate (k + 1) 5).map IV) ∧ Ext (fun _ => False) wo w1):=by
      refine ⟨by rw [List.replicate_succ'];simpa [IV] using ho,(H5.out.alloc _).grown hg (fun j hj hlt => ?_)⟩
      have:=H4.out.lt j hj
      omega
     clear ho hg
     go_wp2
     go_roundw
     case rel => exact ⟨k + 1,by omega,by go_num,HH.out.1,HH.out.2⟩
     case measure => simp [intOf];omega
    ·have H6 : Hid (wr.ownsRow wo.heap.size 3 1 u1 32 (fixDists.map IV)):=by
      obtain rfl : k = 32:=by omega
      exact H4.out
     clear H4
     go_wp2
     go_ret2
     refine ⟨u0,u1,rfl,?_,?_,?_⟩
     ·exact owns_ext H3.out H5.out (fun _ _ h => h)
     ·exact ⟨H6.out.1,H6.out.2.imp id (fun ⟨g,cap,cur,h1,h2,h3⟩ => ⟨g,cap,cur,h1,Nat.le_trans H2.out.size h2,h3⟩)⟩
     ·exact H2.out.trans H5.out
end Go.Proofs.YthpapbilhjobnaaGreatDoor
namespace Go.Proofs.YthpapbilhjobnaaGreatDoor
open Go.RowKit Pu
structure Cho (w : World) (C : Nat) (lv : Value) (at_ : Nat) : Prop where
 blk : Blk w C #[lv,.int .i64 at_] 64
 row : ∃ zs : List Int,zs.length ≤ 1099511627776 ∧ Rd w lv (zs.map (.int .i64))
 ne : lv.ownBlock ≠ some C
def CM (C : Nat) : Nat → Prop:=fun k => k = C
def Chose (w : World) (C : Nat) (lv : Value) (at_ most : Nat) (e : Ending) (w' : World) : Prop :=
 ∃ n : Nat,n < most ∧ e = .returned (.int .i64 n) ∧ Cho w' C lv (at_ + 1) ∧ Ext (CM C) w w' ∧ ((∃ a c,lv = .slice a 0 c) → n = at_ % most)
theorem tmod_in (n most : Int) (hm : 0 < most) (hm2 : most ≤ 1099511627776) : 0 ≤ (wrap64 (n.tmod most + most)).tmod most ∧ (wrap64 (n.tmod most + most)).tmod most < most:=by
 have h1:=Int.tmod_lt_of_pos n hm
 have h2 : -most < n.tmod most:=by
  have:=Int.lt_tmod_of_pos n hm
  omega
 have hw : wrap64 (n.tmod most + most) = n.tmod most + most:=IntWalk.wrap64_in _ ⟨by omega,by omega⟩
 rw [hw]
 exact ⟨Int.tmod_nonneg _ (by omega),Int.tmod_lt_of_pos _ hm⟩
theorem tmod_nat (n most : Nat) (hm : 0 < most) (hm2 : most ≤ 1099511627776) : (wrap64 ((n : Int) % (most : Int) + (most : Int))).tmod (most : Int) = ((n % most : Nat) : Int):=by
 have h2 : ((n : Int) % (most : Int)) = ((n % most : Nat) : Int):=by simp
 have h3:=Nat.mod_lt n hm
 rw [h2,IntWalk.wrap64_in _ ⟨by omega,by omega⟩,Int.tmod_eq_emod_of_nonneg (by omega)]
 rw [← Int.natCast_add,← Int.natCast_emod]
 congr 1
 rw [Nat.add_mod_right,Nat.mod_mod]
theorem Cho.asked {w : World} {C : Nat} {lv : Value} {at_ : Nat} (h : Cho w C lv at_) : Cho (w.setCell ⟨C,1,none⟩ (.int .i64 ((at_ : Int) + 1))) C lv (at_ + 1):=by
 obtain ⟨hb,⟨zs,hzl,hr⟩,hne⟩:=h
 refine ⟨by simpa using hb.set 1 (.int .i64 ((at_ : Int) + 1)),⟨zs,hzl,hr.ext (M:=CM C) (Ext.setCell (p:=⟨C,1,none⟩) (Ext.refl (CM C) w) (fun _ => rfl) _) (fun b hb e => hne (e ▸ hb))⟩,hne⟩
theorem Cho.drewN {w : World} {C : Nat} {lv : Value} {at_ : Nat} (h : Cho w C lv at_) (n : Nat) : Cho (w.drewN n) C lv at_:=⟨h.blk,h.row,h.ne⟩
theorem Cho.ext {w w' : World} {C : Nat} {lv : Value} {at_ : Nat} {M : Nat → Prop} (h : Cho w C lv at_) (he : Ext M w w') (h1 : ¬ M C) (h2 : ∀ b,lv.ownBlock = some b → ¬ M b) : Cho w' C lv at_:=by
 obtain ⟨hb,⟨zs,hzl,hr⟩,hne⟩:=h
 exact ⟨hb.ext he h1,⟨zs,hzl,hr.ext he h2⟩,hne⟩
theorem ret_i64 {a b : Int} (h : a = b) : Ending.returned (.int .i64 a) = .returned (.int .i64 b):=by rw [h]
set_option maxHeartbeats 1000000 in
theorem next_empty (C : Nat) (a : Option Addr) (cap : Nat) (at_ most : Nat) (w : World) (h0 : w.cell? ⟨C,0,none⟩ = some (.slice a 0 cap)) (h1 : w.cell? ⟨C,1,none⟩ = some (.int .i64 at_))
  (hf : w.frozen? ⟨C,1,none⟩ = false) (ha : at_ ≤ 1099511627776) (hm : 0 < most) (hm2 : most ≤ 1099511627776) :
  Calls Tryz.prog 28 #[.pointer (some ⟨C,0,none⟩),.int .i64 most] w fun e w' => e = .returned (.int .i64 ((at_ % most : Nat) : Int)) ∧ w.setCell ⟨C,1,none⟩ (.int .i64 ((at_ : Int) + 1)) = w':=by
 have HT:=Lib.hid (tmod_nat at_ most hm hm2)
 go_enter Tryz.func28,Tryz.ntmps28
 go_wp2
 go_ret
 exact ⟨ret_i64 HT.out,rfl⟩
set_option maxHeartbeats 2000000 in
theorem next_full (C b o n cap : Nat) (at_ most : Nat) (z : Int) (w : World) (h0 : w.cell? ⟨C,0,none⟩ = some (.slice (some ⟨b,o,none⟩) n cap)) (h1 : w.cell? ⟨C,1,none⟩ = some (.int .i64 at_))
  (hz : w.cell? ⟨b,o + at_ % n,none⟩ = some (.int .i64 z))
  (hf : w.frozen? ⟨C,1,none⟩ = false) (ha : at_ ≤ 1099511627776) (hm : 0 < most) (hm2 : most ≤ 1099511627776) (hn : 0 < n) (hn2 : n ≤ 1099511627776) (hlt : at_ % n < n) :
  Calls Tryz.prog 28 #[.pointer (some ⟨C,0,none⟩),.int .i64 most] w fun e w' => ∃ x : Int,0 ≤ x ∧ x < most ∧ e = .returned (.int .i64 x) ∧ ∃ k,(w.setCell ⟨C,1,none⟩ (.int .i64 ((at_ : Int) + 1))).drewN k = w':=by
 have HT:=Lib.hid (fun y : Int => tmod_in y (most : Int) (by omega) (by omega))
 have hb1 : decide ((0 : Int) < (n : Int)) = true:=by simp;omega
 have hb2 : decide (0 < n) = true:=by simp;omega
 have hmod : (at_ : Int) % (n : Int) = ((at_ % n : Nat) : Int):=by simp
 have hi0 : (0 : Int) ≤ (at_ : Int) % (n : Int):=by omega
 have hi1 : (at_ : Int) % (n : Int) < (n : Int):=by rw [hmod];omega
 clear hmod
 go_enter Tryz.func28,Tryz.ntmps28
 go_wp2
 go_quiet (fail)
 go_wp2
 go_ret
 exact ⟨_,(HT.out _).1,(HT.out _).2,rfl,nq,rfl⟩
theorem next_any (C : Nat) (lv : Value) (at_ most : Nat) (w : World) (hC : Cho w C lv at_) (ha : at_ ≤ 1099511627776) (hm : 0 < most) (hm2 : most ≤ 1099511627776) :
  Calls Tryz.prog 28 #[.pointer (some ⟨C,0,none⟩),.int .i64 most] w (Chose w C lv at_ most):=by
 have hC':=hC
 obtain ⟨hb,⟨zs,hzl,cap,h1,h2,h3⟩,hne⟩:=hC'
 have hc0 : w.cell? ⟨C,0,none⟩ = some lv:=by rw [hb.cell];rfl
 have hc1 : w.cell? ⟨C,1,none⟩ = some (.int .i64 at_):=by rw [hb.cell];rfl
 have hext : Ext (CM C) w (w.setCell ⟨C,1,none⟩ (.int .i64 ((at_ : Int) + 1))):=Ext.setCell (p:=⟨C,1,none⟩) (Ext.refl (CM C) w) (fun _ => rfl) _
 have empty : ∀ a c,lv = .slice a 0 c → Calls Tryz.prog 28 #[.pointer (some ⟨C,0,none⟩),.int .i64 most] w (Chose w C lv at_ most):=by
  intro a c e
  refine (next_empty C a c at_ most w (by rw [hc0,e]) hc1 (hb.free 1) ha hm hm2).mono ?_
  rintro e w' ⟨rfl,rfl⟩
  exact ⟨at_ % most,Nat.mod_lt _ hm,rfl,hC.asked,hext,fun _ => rfl⟩
 rcases h3 with ⟨rfl,_⟩ | ⟨b,o,rfl,h3⟩
 ·exact empty none 0 rfl
 ·rcases Nat.eq_zero_or_pos (zs.map (Value.int .i64)).length with h0 | h0
  ·exact empty (some ⟨b,o,none⟩) cap (by rw [h0])
  ·generalize hn : (zs.map (Value.int .i64)).length = n at *
   have hz : zs.length = n:=by simpa using hn
   have hlt : at_ % n < n:=Nat.mod_lt _ h0
   have hlt' : at_ % n < zs.length:=by omega
   have hcell:=h3 (at_ % n) (.int .i64 zs[at_ % n]) (by simp [hlt'])
   refine (next_full C b o n cap at_ most zs[at_ % n] w hc0 hc1 hcell (hb.free 1) ha hm hm2 h0 (by omega) hlt).mono ?_
   rintro e w' ⟨x,hx0,hx1,rfl,k,rfl⟩
   obtain ⟨m,rfl⟩:=Int.eq_ofNat_of_zero_le hx0
   refine ⟨m,by omega,rfl,hC.asked.drewN k,hext.drewN k,?_⟩
   rintro ⟨a,c,e⟩
   simp only [Value.slice.injEq] at e
   omega
theorem next_at (z : Int) (most : Nat) (hz : z = most) (C : Nat) (lv : Value) (at_ : Nat) (w : World) (hC : Cho w C lv at_) (ha : at_ ≤ 1099511627776) (hm : 0 < most) (hm2 : most ≤ 1099511627776) :
  Calls Tryz.prog 28 #[.pointer (some ⟨C,0,none⟩),.int .i64 z] w (Chose w C lv at_ most):=by
 subst hz;exact next_any C lv at_ most w hC ha hm hm2
end Go.Proofs.YthpapbilhjobnaaGreatDoor
namespace Go.Proofs.YthpapbilhjobnaaGreatDoor
open Go.RowKit Pu
def tokCells (t : Tok) : List Value:=[.int .i64 t.lit,.int .i64 t.far,.int .i64 t.long]
def toksCells : List Tok → List Value
 | [] => []
 | t::l => tokCells t ++ toksCells l
theorem toksCells_append (a b : List Tok) : toksCells (a ++ b) = toksCells a ++ toksCells b:=by
 induction a with
 | nil => rfl
 | cons x a ih => simp [toksCells,ih]
theorem Tryz.info93 : (Tryz.prog.info? 93).map (fun i => (i.zero,i.size,i.bytes)) = some (some (.agg #[.int .i64 0,.int .i64 0,.int .i64 0]),3,24):=by kernel_rfl
structure TI (w : World) (C : Nat) (lv : Value) (at0 : Nat) (A : List UInt8) (from_ : Nat) (i : Nat) (toks : List Tok) (v : Value) (wr : World) : Prop where
 le : i ≤ A.length
 ge : from_ ≤ i
 own : wr.ownsRow w.heap.size 93 3 v toks.length (toksCells toks)
 fit : toksFit A from_ toks i
 ext : Ext (CM C) w wr
 cho : ∃ at_,at0 ≤ at_ ∧ at_ ≤ at0 + 4 * (i - from_) ∧ Cho wr C lv at_
def TokensPost (w : World) (C : Nat) (lv : Value) (at0 : Nat) (A : List UInt8) (from_ : Nat) (e : Ending) (w' : World) : Prop :=
 ∃ v toks,e = .returned v ∧ TI w C lv at0 A from_ A.length toks v w'
theorem TI.more {w : World} {C : Nat} {lv : Value} {at0 : Nat} {A : List UInt8} {from_ i : Nat} {toks : List Tok} {v : Value} {wr : World} (h : TI w C lv at0 A from_ i toks v wr)
  {wc : World} (hext : Ext (CM C) wr wc) {at_ : Nat} (hat0 : at0 ≤ at_) (hat : at_ ≤ at0 + 4 * (i - from_) + 4) (hcho : Cho wc C lv at_) (hC : C < w.heap.size) (hlv : ∀ b,lv.ownBlock = some b → b < w.heap.size)
  {t : Tok} (ht : t.fits A i) {v' : Value} {w1 : World} (ho : w1.ownsRow w.heap.size 93 3 v' (toks.length + 1) (toksCells toks ++ tokCells t))
  (hg : (wc.alloc (.cells (tokCells t).toArray 93)).grownBy w1 v.ownBlock) :
  TI w C lv at0 A from_ (i + t.step) (toks ++ [t]) v' w1:=by
 have hst:=Tok.fits_le ht
 have hlt : ∀ k,v.ownBlock = some k → w.heap.size ≤ k:=fun k hk => (h.own.lt k hk).1
 have he1 : Ext (fun k => v.ownBlock = some k) wc w1:=((Ext.refl _ wc).alloc _).grown hg (fun k hk _ => hk)
 refine ⟨by omega,by have:=h.ge;omega,?_,toksFit_snoc h.fit ht,?_,at_,hat0,?_,?_⟩
 ·rw [toksCells_append]
  simpa [toksCells] using ho
 ·refine (h.ext.trans hext).trans' he1 (fun k hk e => ?_)
  have:=hlt k e
  omega
 ·have:=h.ge;omega
 ·refine hcho.ext he1 (fun e => ?_) (fun b hb e => ?_)
  ·have:=hlt _ e;omega
  ·have:=hlt _ e;have:=hlv b hb;omega
def FL (A : List UInt8) (i far long : Nat) : Prop:=long ≤ 258 ∧ i + long ≤ A.length ∧ (3 ≤ long → 1 ≤ far ∧ far ≤ i ∧ far ≤ 32768 ∧ ∀ k,k < long → A[i + k]? = A[i + k - far]?)
theorem FL.zero {A : List UInt8} {i : Nat} (h : i ≤ A.length) (far : Nat) : FL A i far 0:=⟨by omega,by omega,fun h => by omega⟩
theorem FL.fits {A : List UInt8} {i far long long' : Nat} (h : FL A i far long) (h1 : 3 ≤ long') (h2 : long' ≤ long) : Tok.fits A i ⟨0,far,long'⟩:=by
 obtain ⟨a,b,c⟩:=h
 obtain ⟨d,e,f,g⟩:=c (by omega)
 exact .inr ⟨d,e,f,h1,by show long' ≤ 258;omega,by show i + long' ≤ _;omega,fun k hk => g k (Nat.lt_of_lt_of_le hk h2)⟩
theorem mod_val (far i : Nat) (h : 1 ≤ far) (hi : 0 < i) (h2 : i ≤ 1099511627776) : Value.int .i64 (wrap64 (1 + ((far : Int) - 1) % (i : Int))) = .int .i64 ((1 + (far - 1) % i : Nat) : Int):=by
 have e : (far : Int) - 1 = ((far - 1 : Nat) : Int):=by omega
 have:=Nat.mod_lt (far - 1) hi
 have e2 : ((far - 1 : Nat) : Int) % (i : Int) = (((far - 1) % i : Nat) : Int):=by simp
 rw [e,e2,IntWalk.wrap64_in _ ⟨by omega,by omega⟩]
 simp
def Later (wr : World) (C : Nat) (lv : Value) (at_ : Nat) (wx : World) : Prop:=Ext (CM C) wr wx ∧ Cho wx C lv at_
set_option maxHeartbeats 8000000 in
set_option maxRecDepth 100000 in
theorem tokens_some (b o cap C from_ at0 : Nat) (lv : Value) (A : List UInt8) (w : World) (hA : A.length ≤ 4194304) (hfrom : from_ ≤ A.length)
  (hc : ∀ j x,(A.map U8)[j]? = some x → w.cell? ⟨b,o + j,none⟩ = some x) (hbC : b ≠ C) (hcho : Cho w C lv at0) (hat : at0 ≤ 100000000) (hlv : ∀ b,lv.ownBlock = some b → b < w.heap.size) :
  Calls Tryz.prog 31 #[.slice (some ⟨b,o,none⟩) A.length cap,.int .i64 from_,.pointer (some ⟨C,0,none⟩)] w (TokensPost w C lv at0 A from_):=by
 obtain ⟨i0,hi,hz0,hz1,hz2⟩:=info_parts Tryz.info93
 have hClt:=hcho.blk.lt
 have HC:=Lib.hid hc;have HCh:=Lib.hid hcho;have HLV:=Lib.hid hlv
 clear hc hcho hlv
 obtain ⟨n,hn⟩ : ∃ n,A.length = n:=⟨_,rfl⟩
 have HN:=Lib.hid hn
 rw [hn] at hA hfrom ⊢
 clear hn
 go_enter Tryz.func31,Tryz.ntmps31
 go_wp2
 go_loopw [7,8] (fun v x wr => ∃ (i : Nat) (toks : List Tok),x = .int .i64 i ∧ TI w C lv at0 A from_ i toks v wr) (fun _ x _ => n - (intOf x).toNat)
 case atStart => exact ⟨from_,[],rfl,⟨by rw [HN.out];exact hfrom,Nat.le_refl _,World.ownsRow_nil _ _ _ _,rfl,Ext.refl _ _,at0,Nat.le_refl _,by omega,HCh.out⟩⟩
 case round =>
  obtain ⟨wo,rfl⟩ : ∃ wo : World,wo = wr:=⟨_,rfl⟩
  obtain ⟨i,toks,rfl,hti⟩:=hrel
  have H:=Lib.hid hti;clear hti
  have hin : i ≤ n:=by rw [← HN.out];exact H.out.le
  have hif:=H.out.ge
  have hsz:=H.out.ext.size
  by_cases hlt : i < n
  ·have hiA : i < A.length:=by rw [HN.out];exact hlt
   obtain ⟨at_,hat1,hat2,hcho⟩:=H.out.cho
   have HCH:=Lib.hid hcho;clear hcho
   have hblt : b < w.heap.size:=World.block_lt_of_cell? w _ (HC.out i (U8 A[i]) (by simp [hiA]))
   have hcell : ∀ wx : World,Ext (CM C) wo wx → ∀ j c,A[j]? = some c → wx.cell? ⟨b,o + j,none⟩ = some (.int .u8 (c.toNat : Int)):=by
    intro wx hx j c hj
    rw [(H.out.ext.trans hx).cell hblt hbC]
    exact HC.out j _ (by simp [hj,U8])
   have HCELL:=Lib.hid hcell;clear hcell
   have htl : toks.length ≤ i:=by have:=toksFit_le H.out.fit;omega
   have hm : toks.length + 1 ≤ maxLen:=by simp only [maxLen];omega
   have hby : (toks.length + 1) * 24 ≤ 140737488355328:=by omega
   have hlit : Tok.fits A i ⟨A[i].toNat,0,0⟩:=.inl ⟨rfl,A[i],by simp [hiA],rfl⟩
   have HLIT:=Lib.hid hlit;clear hlit
   rcases Nat.lt_or_ge i 1 with hi0 | hi0
   ·have hb0 : decide ((0 : Int) < (i : Int)) = false:=by simp;omega
    have hci : wo.cell? ⟨b,o + i,none⟩ = some (.int .u8 (A[i].toNat : Int)):=HCELL.out wo (Ext.refl _ _) i _ (by simp [hiA])
    have hc8:=A[i].toNat_lt
    generalize hcv : A[i].toNat = cv at *
    have HCV:=Lib.hid hcv;clear hcv
    go_wp2_with (at_builtin;refine wpList_append_moved _ rfl _ _ 71 rfl w.heap.size 93 i0 _ 3 24 Tryz.underlying71 hi hz0 hz1 hz2 rfl (by decide) _ _ _ rfl (H.out.own.alloc _) ⟨wo.heap.size,0,none⟩ 1 1 (tokCells ⟨cv,0,0⟩) rfl rfl ?c1 ?c2 hm hby ?c5 ?_)
    case c1 => exact cells_new _ #[.int .i64 cv,.int .i64 0,.int .i64 0] 93
    case c2 => simp [tokCells,Value.oneCell']
    case c5 => simp;omega
    intro v' w1 ho hg hmv
    have HH:=Lib.hid (H.out.more (Ext.refl _ wo) hat1 (by omega) HCH.out hClt HLV.out HLIT.out ho hg)
    clear ho hg hmv
    go_wp2
    go_roundw
    case rel => exact ⟨i + 1,toks ++ [(⟨cv,0,0⟩ : Tok)],by go_num,HH.out⟩
    case measure => simp [intOf];omega
   ·have hb0 : decide ((0 : Int) < (i : Int)) = true:=by simp;omega
    go_wp2_with fail
    refine (next_at _ 3 rfl C lv at_ wo HCH.out (by omega) (by omega) (by omega)).mono ?_
    rintro e w2 ⟨r,hr,rfl,hch2,hx2,_⟩
    have HCH2:=Lib.hid hch2;have HX2:=Lib.hid hx2;clear hch2 hx2
    have hiA' : i ≤ A.length:=by omega
    go_upto_if 22 with (fail)
    go_cut [9,10] (fun f l wx => ∃ far long at2 : Nat,f = .int .i64 far ∧ l = .int .i64 long ∧ at0 ≤ at2 ∧ at2 ≤ at_ + 3 ∧ FL A i far long ∧ Later wo C lv at2 wx)
    case first =>
     rcases Nat.lt_or_ge r 1 with hr0 | hr0
     ·have hb1 : decide ((0 : Int) < (r : Int)) = false:=by simp;omega
      go_wp2_with fail
      go_meet
      case rel => exact ⟨0,0,at_ + 1,rfl,rfl,by omega,by omega,FL.zero hiA' 0,HX2.out,HCH2.out⟩
     ·have hb1 : decide ((0 : Int) < (r : Int)) = true:=by simp;omega
      go_upto_region 6 with (fail)
      go_cut [9] (fun f wx => ∃ far : Nat,f = .int .i64 far ∧ 1 ≤ far ∧ far ≤ i ∧ far ≤ 32768 ∧ Later wo C lv (at_ + 2) wx)
      case first =>
       go_wp2_with fail
       ·refine (next_at _ 32768 rfl C lv (at_ + 1) w2 HCH2.out (by omega) (by omega) (by omega)).mono ?_
        rintro e w3 ⟨x,hx,rfl,hch3,hx3,_⟩
        have HL3 : Hid (Later wo C lv (at_ + 2) w3):=⟨HX2.out.trans hx3,hch3⟩
        clear hch3 hx3
        go_wp2_with fail
        go_meet
        case rel => exact ⟨1 + x,by go_num,by omega,by omega,by omega,HL3.out⟩
       ·refine (next_at _ i rfl C lv (at_ + 1) w2 HCH2.out (by omega) (by omega) (by omega)).mono ?_
        rintro e w3 ⟨x,hx,rfl,hch3,hx3,_⟩
        have HL3 : Hid (Later wo C lv (at_ + 2) w3):=⟨HX2.out.trans hx3,hch3⟩
        clear hch3 hx3
        go_wp2_with fail
        go_meet
        case rel => exact ⟨1 + x,by go_num,by omega,by omega,by omega,HL3.out⟩
      case rest =>
       obtain ⟨far,rfl,hf1,hf2,hf3,hx3,hch3⟩:=hcut
       have HX3:=Lib.hid hx3;have HCH3:=Lib.hid hch3;clear hx3 hch3
       obtain ⟨w3,rfl⟩ : ∃ w3 : World,w3 = wc:=⟨_,rfl⟩
       go_wp2_with fail
       refine (next_at _ 2 rfl C lv (at_ + 2) w3 HCH3.out (by omega) (by omega) (by omega)).mono ?_
       rintro e w4 ⟨x,hx,rfl,hch4,hx4,_⟩
       have HL4 : Hid (Later wo C lv (at_ + 3) w4):=⟨HX3.out.trans hx4,hch4⟩
       clear hch4 hx4
       go_upto_if 30 with (fail)
       go_cut [9] (fun f wx => ∃ far : Nat,f = .int .i64 far ∧ 1 ≤ far ∧ far ≤ i ∧ far ≤ 32768 ∧ Later wo C lv (at_ + 3) wx)
       case first =>
        rcases Nat.lt_or_ge x 1 with hx0 | hx0
        ·have hb2 : ((x : Int) == 0) = true:=by simp;omega
         go_wp2_with fail
         ·go_meet
          case rel => exact ⟨1 + (far - 1) % 8,mod_val far 8 hf1 (by omega) (by omega),by omega,by omega,by omega,HL4.out⟩
         ·go_meet
          case rel =>
           have:=Nat.mod_lt (far - 1) (show i > 0 by omega)
           exact ⟨1 + (far - 1) % i,mod_val far i hf1 (by omega) (by omega),by omega,by omega,by omega,HL4.out⟩
        ·have hb2 : ((x : Int) == 0) = false:=by simp;omega
         go_wp2_with fail
         go_meet
         case rel => exact ⟨far,by go_num,hf1,hf2,hf3,HL4.out⟩
       case rest =>
        obtain ⟨far,rfl,hf1,hf2,hf3,hL5⟩:=hcut
        have HL5:=Lib.hid hL5;clear hL5
        obtain ⟨w5,rfl⟩ : ∃ w5 : World,w5 = wc:=⟨_,rfl⟩
        go_wp2_with fail
        go_loopw [10] (fun l wi => ∃ long : Nat,l = .int .i64 long ∧ long ≤ 258 ∧ i + long ≤ n ∧ (∀ k,k < long → A[i + k]? = A[i + k - far]?) ∧ Later wo C lv (at_ + 3) wi) (fun l _ => 258 - (intOf l).toNat)
        case atStart => exact ⟨0,rfl,by omega,by omega,fun k hk => absurd hk (by omega),HL5.out⟩
        case round =>
         obtain ⟨long,rfl,hl1,hl2,hl3,hL6⟩:=hrel
         have HL3:=Lib.hid hl3;have HL6:=Lib.hid hL6;clear hl3 hL6
         obtain ⟨w6,rfl⟩ : ∃ w6 : World,w6 = wr:=⟨_,rfl⟩
         have HC6:=Lib.hid (HCELL.out _ HL6.out.1)
         have HFIN : Hid (∀ nq : Nat,∃ far_1 long_1 at2 : Nat,Value.int .i64 (far : Int) = .int .i64 far_1 ∧ Value.int .i64 (long : Int) = .int .i64 long_1 ∧ at0 ≤ at2 ∧ at2 ≤ at_ + 3 ∧ FL A i far_1 long_1 ∧ Later wo C lv at2 (w6.drewN nq)):=fun nq =>
          ⟨far,long,at_ + 3,rfl,rfl,by omega,by omega,⟨hl1,by rw [HN.out];exact hl2,fun _ => ⟨hf1,hf2,hf3,HL3.out⟩⟩,HL6.out.1.drewN nq,HL6.out.2.drewN nq⟩
         rcases Nat.lt_or_ge long 258 with hl4 | hl4
         ·have hb3 : decide ((long : Int) < 258) = true:=by simp;omega
          have hw1 : IntKind.i64.wrap ((i : Int) + (long : Int)) = (i : Int) + (long : Int):=IntWalk.i64_in _ ⟨by omega,by omega⟩
          rcases Nat.lt_or_ge (i + long) n with hl5 | hl5
          ·have hb4 : decide ((i : Int) + (long : Int) < (n : Int)) = true:=by simp;omega
           have hiL : i + long < A.length:=by rw [HN.out];exact hl5
           have hiF : i + long - far < A.length:=by omega
           have hw2 : IntKind.i64.wrap ((i : Int) + (long : Int) - (far : Int)) = (i : Int) + (long : Int) - (far : Int):=IntWalk.i64_in _ ⟨by omega,by omega⟩
           have hc1:=HC6.out (i + long) A[i + long] (by simp [hiL])
           have hc2:=HC6.out (i + long - far) A[i + long - far] (by simp [hiF])
           have ht1 : ((i : Int) + (long : Int)).toNat = i + long:=by omega
           have ht2 : ((i : Int) + (long : Int) - (far : Int)).toNat = i + long - far:=by omega
           have hg1 : (0 : Int) ≤ (i : Int) + (long : Int):=by omega
           have hg2 : (0 : Int) ≤ (i : Int) + (long : Int) - (far : Int):=by omega
           have hg3 : (i : Int) + (long : Int) - (far : Int) < (n : Int):=by omega
           have HEQ : Hid (A[i + long]? = some A[i + long] ∧ A[i + long - far]? = some A[i + long - far]):=⟨by simp [hiL],by simp [hiF]⟩
           generalize A[i + long] = ca at *
           generalize A[i + long - far] = cb at *
           by_cases heq : ca = cb
           ·have hb5 : ((ca.toNat : Int) == (cb.toNat : Int)) = true:=by simp [heq]
            have HE:=Lib.hid heq;clear heq
            go_wp2_with fail
            go_quiet (fail)
            clear hw1 hw2 ht1 ht2
            go_wp2_with fail
            go_roundw
            case rel =>
             refine ⟨long + 1,by go_num,by omega,by omega,fun k hk => ?_,HL6.out.1.drewN _,HL6.out.2.drewN _⟩
             rcases Nat.lt_or_ge k long with h | h
             ·exact HL3.out k h
             ·obtain rfl : k = long:=by omega
              rw [HEQ.out.1,HEQ.out.2,HE.out]
            case measure => simp [intOf];omega
           ·have hb5 : ((ca.toNat : Int) == (cb.toNat : Int)) = false:=by
             simp only [beq_eq_false_iff_ne]
             exact fun h => heq (UInt8.toNat_inj.1 (by omega))
            have HE:=Lib.hid heq;clear heq
            go_wp2_with fail
            go_quiet (fail)
            clear hw1 hw2 ht1 ht2
            go_wp2_with fail
            go_meet
            case rel => exact HFIN.out _
          ·have hb4 : decide ((i : Int) + (long : Int) < (n : Int)) = false:=by simp;omega
           go_wp2_with fail
           go_quiet (fail)
           go_wp2_with fail
           go_meet
           case rel => exact HFIN.out _
         ·have hb3 : decide ((long : Int) < 258) = false:=by simp;omega
          go_wp2_with fail
          go_quiet (fail)
          go_wp2_with fail
          go_meet
          case rel => exact HFIN.out _
    case rest =>
     obtain ⟨far,long,at2,rfl,rfl,ha1,ha2,hFL,hx5,hch5⟩:=hcut
     have HFL:=Lib.hid hFL;have HX5:=Lib.hid hx5;have HCH5:=Lib.hid hch5;clear hFL hx5 hch5
     obtain ⟨w5,rfl⟩ : ∃ w5 : World,w5 = wc:=⟨_,rfl⟩
     have hsz5:=HX5.out.size
     have hl258:=HFL.out.1
     have hlA : i + long ≤ n:=by rw [← HN.out];exact HFL.out.2.1
     have hvC : ∀ k,u7.ownBlock = some k → ¬ CM C k:=fun k hk e => by
      have h1:=(H.out.own.lt k hk).1
      have h2 : k = C:=e
      omega
     have HOWN:=Lib.hid (owns_ext H.out.own HX5.out hvC);clear hvC
     rcases Nat.lt_or_ge long 3 with hl3 | hl3
     ·have hci : w5.cell? ⟨b,o + i,none⟩ = some (.int .u8 (A[i].toNat : Int)):=HCELL.out w5 HX5.out i _ (by simp [hiA])
      have hc8:=A[i].toNat_lt
      generalize hcv : A[i].toNat = cv at *
      have HCV:=Lib.hid hcv;clear hcv
      go_wp2_with (at_builtin;refine wpList_append_moved _ rfl _ _ 71 rfl w.heap.size 93 i0 _ 3 24 Tryz.underlying71 hi hz0 hz1 hz2 rfl (by decide) _ _ _ rfl (HOWN.out.alloc _) ⟨w5.heap.size,0,none⟩ 1 1 (tokCells ⟨cv,0,0⟩) rfl rfl (cells_new _ #[.int .i64 cv,.int .i64 0,.int .i64 0] 93) ?d2 hm hby ?d5 ?_)
      case d2 => simp [tokCells,Value.oneCell']
      case d5 => simp;omega
      intro v' w1 ho hg hmv
      have HH:=Lib.hid (H.out.more HX5.out ha1 (by omega) HCH5.out hClt HLV.out HLIT.out ho hg)
      clear ho hg hmv
      go_wp2
      go_roundw
      case rel => exact ⟨i + 1,toks ++ [(⟨cv,0,0⟩ : Tok)],by go_num,HH.out⟩
      case measure => simp [intOf];omega
     ·go_wp2_with fail
      refine (next_at _ (long - 2) (by omega) C lv at2 w5 HCH5.out (by omega) (by omega) (by omega)).mono ?_
      rintro e w6 ⟨x,hx,rfl,hch6,hx6,_⟩
      have HCH6:=Lib.hid hch6;have HX6:=Lib.hid (HX5.out.trans hx6);clear hch6 hx6
      have hsz6:=HX6.out.size
      have hvC : ∀ k,u7.ownBlock = some k → ¬ CM C k:=fun k hk e => by
       have h1:=(H.out.own.lt k hk).1
       have h2 : k = C:=e
       omega
      have HOWN6:=Lib.hid (owns_ext H.out.own HX6.out hvC);clear hvC
      have HFIT:=Lib.hid (HFL.out.fits (long':=3 + x) (by omega) (by omega))
      have hfar : far ≠ 0:=by have:=HFL.out.2.2 hl3;omega
      have hstep : Tok.step ⟨0,far,3 + x⟩ = 3 + x:=by simp [Tok.step,hfar]
      have HST:=Lib.hid hstep;clear hstep
      go_wp2_with (at_builtin;refine wpList_append_moved _ rfl _ _ 71 rfl w.heap.size 93 i0 _ 3 24 Tryz.underlying71 hi hz0 hz1 hz2 rfl (by decide) _ _ _ rfl (HOWN6.out.alloc _) ⟨w6.heap.size,0,none⟩ 1 1 (tokCells ⟨0,far,3 + x⟩) rfl rfl ?e1 ?e2 hm hby ?e5 ?_)
      case e1 =>
       have h:=cells_new w6 #[.int .i64 0,.int .i64 far,.int .i64 (3 + (x : Int))] 93
       simpa [tokCells] using h
      case e2 => simp [tokCells,Value.oneCell']
      case e5 => simp;omega
      intro v' w1 ho hg hmv
      have HH:=Lib.hid (H.out.more HX6.out (by omega) (by omega) HCH6.out hClt HLV.out HFIT.out ho (by simpa [tokCells] using hg))
      clear ho hg hmv
      go_wp2
      go_roundw
      case rel => exact ⟨i + (3 + x),toks ++ [(⟨0,far,3 + x⟩ : Tok)],by go_num,by have:=HH.out;rw [HST.out] at this;exact this⟩
      case measure => simp [intOf];omega
  ·go_wp2
   go_ret
   obtain rfl : i = n:=by omega
   have h1:=H.out
   rw [← HN.out] at h1
   exact ⟨_,toks,rfl,h1⟩
end Go.Proofs.YthpapbilhjobnaaGreatDoor
namespace Go.Proofs.YthpapbilhjobnaaGreatDoor
open Go.RowKit Pu
def RdT (w : World) (v : Value) (toks : List Tok) : Prop :=
 ∃ cap,toks.length ≤ cap ∧ cap ≤ maxLen ∧
  ((v = .slice none 0 0 ∧ toks = []) ∨ ∃ b,v = .slice (some ⟨b,0,none⟩) toks.length cap ∧ ∀ j x,(toksCells toks)[j]? = some x → w.cell? ⟨b,j,none⟩ = some x)
theorem toksCells_get (toks : List Tok) (k : Nat) (hk : k < toks.length) :
  (toksCells toks)[k * 3]? = some (.int .i64 (toks[k].lit : Int)) ∧ (toksCells toks)[k * 3 + 1]? = some (.int .i64 (toks[k].far : Int)) ∧ (toksCells toks)[k * 3 + 2]? = some (.int .i64 (toks[k].long : Int)):=by
 induction toks generalizing k with
 | nil => simp at hk
 | cons t l ih =>
  cases k with
  | zero => simp [toksCells,tokCells]
  | succ k =>
   have h:=ih k (by simpa using hk)
   have e : (k + 1) * 3 = k * 3 + 3:=by omega
   simp only [e,toksCells,tokCells,List.cons_append,List.nil_append,List.getElem_cons_succ]
   exact h
theorem codeOf_le {lens : List Nat} (h : lens.length ≤ 300) (hm : ∀ n ∈ lens,n ≤ 15) (s : Nat) : codeOf lens s < 40000000:=by
 have h1:=first_le lens (len lens s)
 have h2:=len_le hm s
 have h3 : rank lens s ≤ lens.length:=Nat.le_trans List.count_le_length (by simp;omega)
 have h4 : 2 ^ (len lens s) ≤ 2 ^ 15:=Nat.pow_le_pow_right (by omega) (by omega)
 have h5 : 2 * lens.length * (2 ^ (len lens s) - 1) ≤ 600 * 2 ^ 15:=Nat.mul_le_mul (by omega) (by omega)
 unfold codeOf
 omega
def cval (lens : List Nat) (s : Nat) : Nat:=if len lens s = 0 then 0 else codeOf lens s
theorem codesL_get {lens : List Nat} {s : Nat} (h : s < lens.length) : ((codesL lens).map IV)[s]? = some (IV (cval lens s)):=by
 simp [codesL,h,cval]
theorem lens_get {lens : List Nat} {s : Nat} (h : s < lens.length) : (lens.map IV)[s]? = some (IV (len lens s)):=by
 simp [len,h]
theorem cval_lt {lens : List Nat} (h : lens.length ≤ 300) (hm : ∀ n ∈ lens,n ≤ 15) (s : Nat) : cval lens s < 4611686018427387904:=by
 have:=codeOf_le h hm s
 unfold cval
 split <;> omega
theorem msb_codesL (lens : List Nat) (s : Nat) : msb (cval lens s) (len lens s) = codeBits lens s:=by
 unfold codeBits cval
 split
 ·rename_i h;simp [h,msb,lsb]
 ·rfl
theorem region_tail {P : Program} {id : Nat} {Q : Exit → Act → World → Prop} {a : Act} {w : World} {l : List Oper} (n : Nat) (hm : P.follows .mixedOrders = true) (hB : Region.lexTailB .any l.toArray n = true)
  (h : ∀ w' : World,w' = w.drew → wpStill P l.toArray w' (fun a' => wpList P l.toArray Q (l.drop n) a' w') (l.take n) a) : (Code.region id l.toArray true).wp P Q a w :=
 wp_region_still_tail n hm hB (h _ rfl)
def Tok.ok (t : Tok) : Prop:=(t.far = 0 ∧ t.lit ≤ 255) ∨ (1 ≤ t.far ∧ t.far ≤ 32768 ∧ 3 ≤ t.long ∧ t.long ≤ 258)
theorem Wrote.after {w w1 w2 : World} {W : Nat} {L2 : List Bool} {v v1 : Value} (he : Ext (WM W v) w w1) (hm : Moved w v v1) (h : Wrote w1 W L2 v1 w2) : Wrote w W L2 v w2:=Wrote.trans (L1:=[]) he hm h
theorem Wr.ext0 {w w' : World} {W : Nat} {L : List Bool} {v : Value} (h : Wr w W L v) (he : Ext (fun _ => False) w w') : Wr w' W L v :=
 ⟨h.blk.ext he (fun h => h),by obtain ⟨bs,h1,h2⟩:=h.row;exact ⟨bs,owns_ext h1 he (fun _ _ h => h),h2⟩,h.ne⟩
theorem Wr.own_lt {w : World} {W : Nat} {L : List Bool} {v : Value} (h : Wr w W L v) {k : Nat} (hk : WM W v k) : k < w.heap.size:=by
 rcases hk with rfl | hk
 ·exact h.blk.lt
 ·obtain ⟨bs,h1,h2⟩:=h.row
  exact (h1.lt k hk).2
theorem toksBits_take (lit dist : List Nat) (toks : List Tok) (k : Nat) (h : k < toks.length) : toksBits lit dist (toks.take (k + 1)) = toksBits lit dist (toks.take k) ++ tokBits lit dist toks[k]:=by
 rw [List.take_succ_eq_append_getElem h,toksBits_append]
 simp [toksBits]
theorem length_tokBits_le (lit dist : List Nat) (hl : ∀ n ∈ lit,n ≤ 15) (hd : ∀ n ∈ dist,n ≤ 15) (t : Tok) (h : Tok.ok t) : (tokBits lit dist t).length ≤ 64:=by
 unfold tokBits
 rcases h with ⟨h1,h2⟩ | ⟨h1,h2,h3,h4⟩
 ·have:=len_le hl t.lit
  simp [h1];omega
 ·have e1:=len_le hl (lsym t.long)
  have e2:=len_le hd (dsym t.far)
  have e3:=lextra_le _ (lsym_ok t.long h3 h4).2.1
  have e4:=dextra_le _ (dsym_ok t.far h1 h2).1
  have : ¬ t.far = 0:=by omega
  simp [this];omega
theorem length_toksBits_le (lit dist : List Nat) (hl : ∀ n ∈ lit,n ≤ 15) (hd : ∀ n ∈ dist,n ≤ 15) (toks : List Tok) (h : ∀ t ∈ toks,Tok.ok t) : (toksBits lit dist toks).length ≤ 64 * toks.length:=by
 induction toks with
 | nil => simp [toksBits]
 | cons t l ih =>
  have h1:=length_tokBits_le lit dist hl hd t (h t (by simp))
  have h2:=ih (fun x hx => h x (by simp [hx]))
  simp [toksBits];omega
set_option maxHeartbeats 8000000 in
set_option maxRecDepth 100000 in
theorem body_some (W tb tcap lb lo lcap db do_ dcap : Nat) (ta : Option Addr) (L : List Bool) (v : Value) (lit dist : List Nat) (toks : List Tok) (w : World) (hw : Wr w W L v)
  (hl0 : 286 ≤ lit.length) (hl1 : lit.length ≤ 300) (hd0 : 30 ≤ dist.length) (hd1 : dist.length ≤ 300) (hl2 : ∀ n ∈ lit,n ≤ 15) (hd2 : ∀ n ∈ dist,n ≤ 15) (htl : toks.length ≤ 65536)
  (hL : L.length + 64 * toks.length + 64 ≤ 1099511627776) (hok : ∀ t ∈ toks,Tok.ok t)
  (hct : ∀ j x,(toksCells toks)[j]? = some x → w.cell? ⟨tb,j,none⟩ = some x)
  (hcl : ∀ j x,(lit.map IV)[j]? = some x → w.cell? ⟨lb,lo + j,none⟩ = some x)
  (hcd : ∀ j x,(dist.map IV)[j]? = some x → w.cell? ⟨db,do_ + j,none⟩ = some x)
  (hta : toks ≠ [] → ta = some ⟨tb,0,none⟩) (hnt : ¬ WM W v tb) (hnl : ¬ WM W v lb) (hnd : ¬ WM W v db) :
  Calls Tryz.prog 34 #[.pointer (some ⟨W,0,none⟩),.slice ta toks.length tcap,.slice (some ⟨lb,lo,none⟩) lit.length lcap,.slice (some ⟨db,do_,none⟩) dist.length dcap] w
   fun e w' => e = .returned (.tuple #[]) ∧ Wrote w W (L ++ toksBits lit dist toks ++ codeBits lit 256) v w':=by
 have HW:=Lib.hid hw;have HK:=Lib.hid hok;have HCT:=Lib.hid hct;have HCL:=Lib.hid hcl;have HCD:=Lib.hid hcd;have HL2:=Lib.hid hl2;have HD2:=Lib.hid hd2
 have HNT:=Lib.hid hnt;have HNL:=Lib.hid hnl;have HND:=Lib.hid hnd
 have HTA:=Lib.hid hta
 clear hw hok hct hcl hcd hl2 hd2 hnt hnl hnd hta
 obtain ⟨nl,hnl⟩ : ∃ n,lit.length = n:=⟨_,rfl⟩
 obtain ⟨nd,hnd⟩ : ∃ n,dist.length = n:=⟨_,rfl⟩
 obtain ⟨nt,hnt⟩ : ∃ n,toks.length = n:=⟨_,rfl⟩
 have HLN:=Lib.hid hnl;have HDN:=Lib.hid hnd;have HTN:=Lib.hid hnt
 rw [hnl] at hl0 hl1 ⊢;rw [hnd] at hd0 hd1 ⊢;rw [hnt] at htl hL ⊢
 clear hnl hnd hnt
 go_enter Tryz.func34,Tryz.ntmps34
 go_wp2_with fail
 have hc1:=codes_some lb lo lcap lit w (by rw [HLN.out];exact hl1) HL2.out HCL.out
 rw [HLN.out] at hc1
 refine hc1.mono ?_
 rintro e w1 ⟨v1,rfl,ho1,he1⟩
 clear hc1
 have HO1:=Lib.hid ho1;have HE1:=Lib.hid he1;clear ho1 he1
 go_wp2_with fail
 have hdlt : db < w.heap.size:=World.block_lt_of_cell? w _ (HCD.out 0 (IV (dist[0]'(by rw [HDN.out];omega))) (by simp [show 0 < dist.length by rw [HDN.out];omega]))
 have hc2:=codes_some db do_ dcap dist w1 (by rw [HDN.out];exact hd1) HD2.out (fun j x hx => by rw [HE1.out.cell hdlt (fun h => h)];exact HCD.out j x hx)
 rw [HDN.out] at hc2
 refine hc2.mono ?_
 rintro e w2 ⟨v2,rfl,ho2,he2⟩
 clear hc2
 have HO2:=Lib.hid ho2;have HE2:=Lib.hid (HE1.out.trans he2);have HE12:=Lib.hid he2;clear ho2 he2
 obtain ⟨g1,cap1,rfl,_⟩:=owns_slice HO1.out (by simp [codesL,HLN.out];omega)
 obtain ⟨g2,cap2,rfl,_⟩:=owns_slice HO2.out (by simp [codesL,HDN.out];omega)
 go_wp2_with fail
 have HWR2 : Hid (Wr w2 W L v):=Lib.hid ⟨HW.out.blk.ext HE2.out (fun h => h),by obtain ⟨bs,h1,h2⟩:=HW.out.row;exact ⟨bs,owns_ext h1 HE2.out (fun _ _ h => h),h2⟩,HW.out.ne⟩
 have HCT2 : Hid (∀ j x,(toksCells toks)[j]? = some x → w2.cell? ⟨tb,j,none⟩ = some x):=Lib.hid fun j x hx => HE2.out.cellSome (fun h => h) (HCT.out j x hx)
 have HCL2 : Hid (∀ s,s < nl → w2.cell? ⟨lb,lo + s,none⟩ = some (IV (len lit s))):=Lib.hid fun s hs => HE2.out.cellSome (fun h => h) (HCL.out _ _ (lens_get (by rw [HLN.out];exact hs)))
 have HCD2 : Hid (∀ s,s < nd → w2.cell? ⟨db,do_ + s,none⟩ = some (IV (len dist s))):=Lib.hid fun s hs => HE2.out.cellSome (fun h => h) (HCD.out _ _ (lens_get (by rw [HDN.out];exact hs)))
 have HKL2 : Hid (∀ s,s < nl → w2.cell? ⟨g1,s,none⟩ = some (IV (cval lit s))):=Lib.hid fun s hs => by
  have:=HO1.out.cells (g:=g1) rfl s _ (codesL_get (by rw [HLN.out];exact hs))
  exact HE12.out.cellSome (fun h => h) (by by_cases h0 : s = 0 <;> simpa [Addr.add,h0] using this)
 have HKD2 : Hid (∀ s,s < nd → w2.cell? ⟨g2,s,none⟩ = some (IV (cval dist s))):=Lib.hid fun s hs => by
  have:=HO2.out.cells (g:=g2) rfl s _ (codesL_get (by rw [HDN.out];exact hs))
  by_cases h0 : s = 0 <;> simpa [Addr.add,h0] using this
 have hvlt : ∀ k,v.ownBlock = some k → k < w.heap.size:=fun k hk => by obtain ⟨bs,h1,h2⟩:=HW.out.row;exact (h1.lt k hk).2
 have HG1 : Hid (¬ WM W v g1):=Lib.hid fun h => by
  have h1:=(HO1.out.lt g1 rfl).1
  rcases h with h | h
  ·have:=HW.out.blk.lt;omega
  ·have:=hvlt _ h;omega
 have HG2 : Hid (¬ WM W v g2):=Lib.hid fun h => by
  have h1:=(HO2.out.lt g2 rfl).1
  have h2:=HE1.out.size
  rcases h with h | h
  ·have:=HW.out.blk.lt;omega
  ·have:=hvlt _ h;omega
 clear hvlt hdlt
 have hcl1 : (codesL lit).length = nl:=by simp [codesL,HLN.out]
 have hcl2 : (codesL dist).length = nd:=by simp [codesL,HDN.out]
 rw [hcl1,hcl2]
 clear hcl1 hcl2
 go_loopw [21] (fun x wr => ∃ k : Nat,k ≤ nt ∧ x = .int .i64 k ∧ Wrote w2 W (L ++ toksBits lit dist (toks.take k)) v wr) (fun x _ => nt - (intOf x).toNat)
 case atStart => exact ⟨0,Nat.zero_le _,rfl,by simpa [toksBits] using Wrote.start HWR2.out⟩
 case round =>
  obtain ⟨k,hk,rfl,hwr⟩:=hrel
  obtain ⟨wo,rfl⟩ : ∃ wo : World,wo = wr:=⟨_,rfl⟩
  obtain ⟨vo,hwo,heo,hmo⟩:=hwr
  have HWO:=Lib.hid hwo;have HEO:=Lib.hid heo;have HMO:=Lib.hid hmo
  clear hwo heo hmo
  rcases Nat.lt_or_ge k nt with hkn | hkn
  ·have hta:=HTA.out (fun e => by have:=HTN.out;rw [e] at this;simp at this;omega)
   obtain rfl:=hta
   obtain ⟨lt_,ft,gt_,hlt,hft,hgt⟩ : ∃ a b c,toks[k]'(by rw [HTN.out];exact hkn) = ⟨a,b,c⟩ ∧ True ∧ True:=⟨_,_,_,rfl,trivial,trivial⟩
   clear hft hgt
   have HTK:=Lib.hid hlt
   have hcell:=toksCells_get toks k (by rw [HTN.out];exact hkn)
   rw [hlt] at hcell
   clear hlt
   have hc0:=HEO.out.cellSome HNT.out (HCT2.out _ _ hcell.1)
   have hc1:=HEO.out.cellSome HNT.out (HCT2.out _ _ hcell.2.1)
   have hc2:=HEO.out.cellSome HNT.out (HCT2.out _ _ hcell.2.2)
   clear hcell
   have hkok:=HK.out _ (List.getElem_mem (by rw [HTN.out];exact hkn : k < toks.length))
   rw [HTK.out] at hkok
   have htb:=toksBits_take lit dist toks k (by rw [HTN.out];exact hkn)
   rw [HTK.out] at htb
   have HTB:=Lib.hid htb
   have hlen0:=length_toksBits_le lit dist HL2.out HD2.out (toks.take k) (fun t ht => HK.out t (List.mem_of_mem_take ht))
   have HKOK:=Lib.hid hkok
   have hLk : (L ++ toksBits lit dist (toks.take k)).length + 64 ≤ 1099511627776:=by
    rw [List.length_take,HTN.out] at hlen0
    rw [List.length_append]
    omega
   clear htb hlen0
   have HLK:=Lib.hid hLk
   clear hLk
   rcases hkok with ⟨hf,hl⟩ | ⟨hf0,hf1,hg0,hg1⟩
   ·have hb : ((ft : Int) == 0) = true:=by simp at hf;simp [hf]
    simp only at hl
    have HF:=Lib.hid hf
    clear hf
    have hln : lt_ < nl:=by omega
    have hk1:=HEO.out.cellSome HG1.out (HKL2.out lt_ hln)
    have hk2:=HEO.out.cellSome HNL.out (HCL2.out lt_ hln)
    unfold IV at hk1 hk2
    go_wp2
    refine region_tail 11 (by kernel_rfl) (by kernel_rfl) ?_
    intro w3 hw3
    have he3 : Ext (fun _ => False) wo w3:=by rw [hw3];exact ((Ext.refl _ wo).alloc _).drew
    have hb3 : Blk w3 wo.heap.size #[.int .i64 (lt_ : Int),.int .i64 (ft : Int),.int .i64 (gt_ : Int)] 93:=by rw [hw3];exact Blk.new _ _ _
    clear hw3
    have hn0 : w3.cell? ⟨wo.heap.size,0,none⟩ = some (.int .i64 (lt_ : Int)):=by rw [hb3.cell];rfl
    have hk3:=he3.cellSome (fun h => h) hk1
    have hk4:=he3.cellSome (fun h => h) hk2
    have HE3:=Lib.hid he3;have HB3:=Lib.hid hb3
    clear he3 hb3 hk1 hk2 hc0 hc1 hc2
    simp only [List.take_succ_cons,List.take_zero,List.drop_succ_cons,List.drop_zero]
    repeat still_step
    refine wpStill_nil ?_
    go_wp2_with fail
    have hlv:=len_le HL2.out lt_
    refine (code_any W _ vo (cval lit lt_) (len lit lt_) w3 (HWO.out.ext0 HE3.out) (by have:=HLK.out;omega) (cval_lt (by rw [HLN.out];exact hl1) HL2.out _) (by omega)).mono ?_
    rintro e w4 ⟨rfl,hw4⟩
    rw [msb_codesL] at hw4
    have HW4:=Lib.hid (Wrote.after (HEO.out.trans (HE3.out.mono (fun _ _ h => h.elim))) HMO.out hw4)
    clear hw4 hk3 hk4 hn0 hlv
    go_wp2_with fail
    go_roundw
    case rel =>
     refine ⟨k + 1,by omega,by simp,?_⟩
     have:=HW4.out
     rw [HTB.out]
     have e : tokBits lit dist ⟨lt_,ft,gt_⟩ = codeBits lit lt_:=by
      have:=HF.out
      simp [tokBits,this]
     rw [e,← List.append_assoc]
     exact this
    case measure => simp [intOf];omega
   ·have hb : ((ft : Int) == 0) = false:=by simp at hf0;simp;omega
    simp only at hf0 hf1 hg0 hg1
    have hls:=lsym_ok gt_ hg0 hg1
    have hds:=dsym_ok ft hf0 hf1
    have hle:=lextra_le _ hls.2.1
    have hde:=dextra_le _ hds.1
    have hpw : 2 ^ lextra (lsym gt_) ≤ 2 ^ 5:=Nat.pow_le_pow_right (by omega) hle
    have hpd : 2 ^ dextra (dsym ft) ≤ 2 ^ 13:=Nat.pow_le_pow_right (by omega) hde
    have hte : tokBits lit dist ⟨lt_,ft,gt_⟩ = codeBits lit (lsym gt_) ++ lsb (gt_ - lbase (lsym gt_)) (lextra (lsym gt_)) ++ codeBits dist (dsym ft) ++ lsb (ft - dbase (dsym ft)) (dextra (dsym ft)):=by
     have : ¬ ft = 0:=by omega
     simp [tokBits,this]
    have HTE:=Lib.hid hte
    have HLB:=Lib.hid (show gt_ - lbase (lsym gt_) < 4611686018427387904 by omega)
    have HDB:=Lib.hid (show ft - dbase (dsym ft) < 4611686018427387904 by omega)
    have hl286 : lsym gt_ < nl:=by omega
    have hd30 : dsym ft < nd:=by omega
    clear hte hpw hpd
    obtain ⟨ls,hls'⟩ : ∃ x,lsym gt_ = x:=⟨_,rfl⟩
    obtain ⟨ds,hds'⟩ : ∃ x,dsym ft = x:=⟨_,rfl⟩
    obtain ⟨lm,hlm⟩ : ∃ x,gt_ - lbase ls = x:=⟨_,rfl⟩
    obtain ⟨dm,hdm⟩ : ∃ x,ft - dbase ds = x:=⟨_,rfl⟩
    obtain ⟨le,hle'⟩ : ∃ x,lextra ls = x:=⟨_,rfl⟩
    obtain ⟨de,hde'⟩ : ∃ x,dextra ds = x:=⟨_,rfl⟩
    have hLS:=lengthSymbol_any gt_
    have hDS:=distanceSymbol_any ft
    rw [hls',hlm,hle'] at hLS
    rw [hds',hdm,hde'] at hDS
    rw [hls'] at hl286 hls hle HTE HLB
    rw [hds'] at hd30 hds hde HTE HDB
    rw [hlm,hdm,hle',hde'] at HTE
    rw [hlm] at HLB
    rw [hdm] at HDB
    rw [hle'] at hle
    rw [hde'] at hde
    have hls1:=hls.2.1
    have hds1:=hds.1
    clear hls hds hls' hds' hlm hdm hle' hde'
    have HLS:=Lib.hid hLS;have HDS:=Lib.hid hDS
    clear hLS hDS
    go_wp2_with fail
    refine (HLS.out _ hg0 hg1).mono ?_
    rintro e wa ⟨rfl,rfl⟩
    obtain ⟨w3,hw3⟩ : ∃ w3 : World,wo.alloc (Obj.cells #[.int .i64 (lt_ : Int),.int .i64 (ft : Int),.int .i64 (gt_ : Int)] 93) = w3:=⟨_,rfl⟩
    rw [hw3]
    have he3 : Ext (fun _ => False) wo w3:=by rw [← hw3];exact ((Ext.refl _ wo).alloc _)
    have hb3 : Blk w3 wo.heap.size #[.int .i64 (lt_ : Int),.int .i64 (ft : Int),.int .i64 (gt_ : Int)] 93:=by rw [← hw3];exact Blk.new _ _ _
    have HE3:=Lib.hid he3;have HB3:=Lib.hid hb3
    have HT3 : Hid (¬ WM W vo wo.heap.size):=Lib.hid fun h => by have:=HWO.out.own_lt h;omega
    clear hw3 he3 hb3 hc0 hc1 hc2
    go_wp2
    refine region_tail 9 (by kernel_rfl) (by kernel_rfl) ?_
    intro w4 hw4
    have he4 : Ext (fun _ => False) w3 w4:=by rw [hw4];exact (Ext.refl _ _).drew
    have HE4:=Lib.hid he4
    have HE14:=Lib.hid (HEO.out.trans ((HE3.out.trans he4).mono (fun _ _ h => h.elim)))
    clear hw4 he4
    have hk1:=HE14.out.cellSome HG1.out (HKL2.out ls hl286)
    have hk2:=HE14.out.cellSome HNL.out (HCL2.out ls hl286)
    unfold IV at hk1 hk2
    simp only [List.take_succ_cons,List.take_zero,List.drop_succ_cons,List.drop_zero]
    repeat still_step
    refine wpStill_nil ?_
    clear hk1 hk2
    go_wp2_with fail
    have hlv:=len_le HL2.out ls
    have hdv:=len_le HD2.out ds
    refine (code_any W _ vo (cval lit ls) (len lit ls) w4 (HWO.out.ext0 (HE3.out.trans HE4.out)) (by have:=HLK.out;omega) (cval_lt (by rw [HLN.out];exact hl1) HL2.out _) (by omega)).mono ?_
    rintro e w5 ⟨rfl,hw5⟩
    rw [msb_codesL] at hw5
    obtain ⟨v5,hr5,he5,hm5⟩:=hw5
    have HR5:=Lib.hid hr5;have HE5:=Lib.hid he5;have HM5:=Lib.hid hm5
    clear hr5 he5 hm5
    go_wp2_with fail
    refine (bits_any W _ v5 lm le w5 HR5.out (by have:=HLK.out;simp only [List.length_append,length_codeBits] at *;omega) HLB.out (by omega)).mono ?_
    rintro e w6 ⟨rfl,hw6⟩
    obtain ⟨v6,hr6,he6,hm6⟩:=Wrote.after HE5.out HM5.out hw6
    have HR6:=Lib.hid hr6;have HE6:=Lib.hid he6;have HM6:=Lib.hid hm6
    clear hw6 hr6 he6 hm6 HE5 HM5 HR5
    have hn1 : w6.cell? ⟨wo.heap.size,1,none⟩ = some (.int .i64 (ft : Int)):=HE6.out.cellSome HT3.out (HE4.out.cellSome (fun h => h) (by rw [HB3.out.cell];rfl))
    go_wp2_with fail
    refine (HDS.out _ hf0 hf1).mono ?_
    rintro e wa ⟨rfl,rfl⟩
    clear hn1
    go_wp2
    refine region_tail 9 (by kernel_rfl) (by kernel_rfl) ?_
    intro w7 hw7
    have he7 : Ext (fun _ => False) w6 w7:=by rw [hw7];exact (Ext.refl _ _).drew
    have HE7:=Lib.hid he7
    clear hw7 he7
    obtain ⟨_,_,he17,_⟩:=Wrote.after HE14.out HMO.out (⟨v6,HR6.out.ext0 HE7.out,HE6.out.trans (HE7.out.mono (fun _ _ h => h.elim)),HM6.out⟩)
    have hk1:=he17.cellSome HG2.out (HKD2.out ds hd30)
    have hk2:=he17.cellSome HND.out (HCD2.out ds hd30)
    unfold IV at hk1 hk2
    clear he17
    simp only [List.take_succ_cons,List.take_zero,List.drop_succ_cons,List.drop_zero]
    repeat still_step
    refine wpStill_nil ?_
    clear hk1 hk2
    go_wp2_with fail
    refine (code_any W _ v6 (cval dist ds) (len dist ds) w7 (HR6.out.ext0 HE7.out) (by have:=HLK.out;simp only [List.length_append,length_codeBits,length_lsb] at *;omega) (cval_lt (by rw [HDN.out];exact hd1) HD2.out _) (by omega)).mono ?_
    rintro e w8 ⟨rfl,hw8⟩
    rw [msb_codesL] at hw8
    obtain ⟨v8,hr8,he8,hm8⟩:=Wrote.after (HE6.out.trans (HE7.out.mono (fun _ _ h => h.elim))) HM6.out hw8
    have HR8:=Lib.hid hr8;have HE8:=Lib.hid he8;have HM8:=Lib.hid hm8
    clear hw8 hr8 he8 hm8
    go_wp2_with fail
    refine (bits_any W _ v8 dm de w8 HR8.out (by have:=HLK.out;simp only [List.length_append,length_codeBits,length_lsb] at *;omega) HDB.out (by omega)).mono ?_
    rintro e w9 ⟨rfl,hw9⟩
    have HW9:=Lib.hid (Wrote.after HE14.out HMO.out (Wrote.after HE8.out HM8.out hw9))
    clear hw9
    go_wp2_with fail
    go_roundw
    case rel =>
     refine ⟨k + 1,by omega,by simp,?_⟩
     have:=HW9.out
     rw [HTB.out,HTE.out]
     simpa [List.append_assoc] using this
    case measure => simp [intOf];omega
  ·have hb : decide ((k : Int) < (nt : Int)) = false:=by simp;omega
   have hke : toks.take k = toks:=List.take_of_length_le (by rw [HTN.out];exact hkn)
   rw [hke] at HWO
   have hlen0:=length_toksBits_le lit dist HL2.out HD2.out toks HK.out
   rw [HTN.out] at hlen0
   have HLK : Hid ((L ++ toksBits lit dist toks).length + 64 ≤ 1099511627776):=Lib.hid (by rw [List.length_append];omega)
   clear hlen0 hke
   go_wp2
   refine region_tail 7 (by kernel_rfl) (by kernel_rfl) ?_
   intro w3 hw3
   have he3 : Ext (fun _ => False) wo w3:=by rw [hw3];exact (Ext.refl _ wo).drew
   have HE3:=Lib.hid he3
   have HE13:=Lib.hid (HEO.out.trans (he3.mono (fun _ _ h => h.elim)))
   clear hw3 he3
   have hk1:=HE13.out.cellSome HG1.out (HKL2.out 256 (by omega))
   have hk2:=HE13.out.cellSome HNL.out (HCL2.out 256 (by omega))
   unfold IV at hk1 hk2
   have h256 : 256 < nl:=by omega
   have h256' : (256 : Int) < (nl : Int):=by omega
   simp only [List.take_succ_cons,List.take_zero,List.drop_succ_cons,List.drop_zero]
   repeat still_step
   refine wpStill_nil ?_
   clear hk1 hk2
   go_wp2_with fail
   have hlv:=len_le HL2.out 256
   refine (code_any W _ vo (cval lit 256) (len lit 256) w3 (HWO.out.ext0 HE3.out) (by have:=HLK.out;omega) (cval_lt (by rw [HLN.out];exact hl1) HL2.out _) (by omega)).mono ?_
   rintro e w4 ⟨rfl,hw4⟩
   rw [msb_codesL] at hw4
   have HW4:=Lib.hid (Wrote.after HE13.out HMO.out hw4)
   have HW5:=Lib.hid (Wrote.after (HE2.out.mono (fun _ _ h => h.elim)) (.inl rfl) HW4.out)
   clear hw4
   go_wp2_with fail
   go_end0
   exact ⟨rfl,HW5.out⟩
end Go.Proofs.YthpapbilhjobnaaGreatDoor
