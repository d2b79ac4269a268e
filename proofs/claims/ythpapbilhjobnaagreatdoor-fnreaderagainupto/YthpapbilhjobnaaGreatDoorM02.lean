/-
  Parts of the proofs over the reader and the encoder of streams, joined: De2 De4 De3 Pd4 Pd5 Ia Dd. Conditions: each theorem names its own.
-/
import Derived.Test.YthpapbilhjobnaaGreatDoorM01
import Derived.Deep.DeepCutAuto
import Derived.Deep.LoopGhost
import Derived.Deep.CutBlock
import Derived.Deep.MidRow
import Derived.Laws.EntriesVeiled
import Derived.StillTailTactics
set_option linter.unusedVariables false
set_option linter.unusedSimpArgs false
namespace Go.Proofs.YthpapbilhjobnaaGreatDoor
open Go.RowKit Pu
theorem Tryz.comp175 : (Tryz.prog.info? 175).map (·.comparable) = some true:=by kernel_rfl
theorem Tryz.size204 : (Tryz.prog.info? 204).map (·.size) = some 1:=by kernel_rfl
theorem noEOF_eof (A U : Addr) (w : World) (hA : Sent w 0 A) (hU : Sent w 4 U) :
  Calls Tryz.prog 71 #[.iface 175 (.pointer (some A))] w fun e w' => e = .returned (.iface 175 (.pointer (some U))) ∧ w = w':=by
 obtain ⟨i,hi,hcmp⟩:=Option.map_eq_some_iff.1 Tryz.comp175
 obtain ⟨j,hj,_⟩:=Option.map_eq_some_iff.1 Tryz.size204
 have h0:=hA.cell
 have h4:=hU.cell
 have he:=fun w : World => run_eql_iface_ptr_same (P:=Tryz.prog) w A Tryz.underlying47 Tryz.underlying175 hi hcmp hj
 clear hA hU
 go_enter Tryz.func71,Tryz.ntmps71
 go_wp2
 go_ret
 exact ⟨rfl,rfl⟩
theorem noEOF_other (A B : Addr) (w : World) (hA : Sent w 0 A) (c : Array Value) (t : TypeId) (hB : w.heap[B.block]? = some (.cells c t (0,0))) (hne : B ≠ A) :
  Calls Tryz.prog 71 #[.iface 175 (.pointer (some B))] w fun e w' => e = .returned (.iface 175 (.pointer (some B))) ∧ w = w':=by
 obtain ⟨i,hi,hcmp⟩:=Option.map_eq_some_iff.1 Tryz.comp175
 obtain ⟨j,hj,hjs⟩:=Option.map_eq_some_iff.1 Tryz.size204
 have h0:=hA.cell
 obtain ⟨ca,ta,hra⟩:=hA.row
 have hsz : j.size ≠ 0:=by omega
 have he:=run_eql_iface_ptr_other (P:=Tryz.prog) w Tryz.underlying47 Tryz.underlying175 hi hcmp hj hsz hne hB hra
 clear hA hra hB
 go_enter Tryz.func71,Tryz.ntmps71
 go_wp2
 go_ret
 exact ⟨rfl,rfl⟩
def Same (M : Nat → Prop) (c c' : Array Value) : Prop:=c'.size = c.size ∧ ∀ k,¬ M k → c'[k]? = c[k]?
theorem Same.refl (M : Nat → Prop) (c : Array Value) : Same M c c:=⟨rfl,fun _ _ => rfl⟩
theorem Same.set {M : Nat → Prop} {c c' : Array Value} (h : Same M c c') {k : Nat} (hk : M k) (v : Value) : Same M c (c'.setIfInBounds k v):=by
 refine ⟨by simpa using h.1,fun j hj => ?_⟩
 rw [Array.getElem?_setIfInBounds,if_neg (fun (e : k = j) => hj (e ▸ hk))]
 exact h.2 j hj
theorem Same.trans {M : Nat → Prop} {a b c : Array Value} (h : Same M a b) (k : Same M b c) : Same M a c:=⟨k.1.trans h.1,fun j hj => (k.2 j hj).trans (h.2 j hj)⟩
theorem Same.mono {M M' : Nat → Prop} {a b : Array Value} (h : Same M a b) (hm : ∀ k,M k → M' k) : Same M' a b:=⟨h.1,fun j hj => h.2 j (fun e => hj (hm j e))⟩
structure Bits (c : Array Value) (BB : List Bool) : Prop where
 b : c[3]? = some (.int .u32 (val BB : Nat))
 nb : c[4]? = some (.int .u64 BB.length)
 off : ∃ z : Int,c[2]? = some (.int .i64 z)
def BM : Nat → Prop:=fun k => k = 2 ∨ k = 3 ∨ k = 4
def FM (F R : Nat) : Nat → Prop:=fun k => k = F ∨ k = R
theorem get_lt {c : Array Value} {k : Nat} {v : Value} (h : c[k]? = some v) : k < c.size:=by
 rcases Nat.lt_or_ge k c.size with h1 | h1
 ·exact h1
 ·rw [Array.getElem?_eq_none h1] at h;cases h
theorem word_or (a x k : Nat) (ha : a < 2 ^ k) (hk : k ≤ 24) (hx : x < 256) : bits BinOp.or IntKind.u32 (a : Int) ((x : Int) * 2 ^ k % 4294967296) = ((a + 2 ^ k * x : Nat) : Int):=by
 have hp : 2 ^ k ≤ 2 ^ 24:=Nat.pow_le_pow_right (by omega) (by omega)
 have hxk : x * 2 ^ k ≤ 255 * 2 ^ 24:=Nat.mul_le_mul (by omega) hp
 have hp2 : (2 : Int) ^ k = ((2 ^ k : Nat) : Int):=by simp
 have e1 : (x : Int) * 2 ^ k % 4294967296 = ((x * 2 ^ k : Nat) : Int):=by
  rw [hp2,← Int.natCast_mul]
  omega
 have hor : x * 2 ^ k ||| a = x * 2 ^ k + a:=nat_join k (x * 2 ^ k) a (by simp) ha
 rw [e1,u32_or_nat _ _ (by omega) (by omega),Nat.or_comm,hor,Nat.mul_comm,Nat.add_comm]
theorem method_readByte (a : Addr) (w : World) : (method 319 50 (.pointer (some a)) "ReadByte").run Tryz.prog w = .ok (103, .pointer (some a)) w := by kernel_rfl
set_option maxRecDepth 100000 in
set_option maxHeartbeats 1000000 in
theorem moreBits_some (F R sb so cap p : Nat) (src : List UInt8) (c : Array Value) (BB : List Bool) (w : World) (hF : Blk w F c 147) (hr : c[0]? = some (.iface 50 (.pointer (some ⟨R,0,none⟩)))) (hB : Bits c BB)
  (hS : Src w R sb so cap src p) (hp : p < src.length) (hl : BB.length ≤ 24) (hFR : F ≠ R) (hFs : sb ≠ F) :
  Calls Tryz.prog 66 #[.pointer (some ⟨F,0,none⟩)] w fun e w' => e = .returned .nilIface ∧ ∃ c',Blk w' F c' 147 ∧ Same BM c c' ∧ Bits c' (BB ++ lsb src[p].toNat 8) ∧ Src w' R sb so cap src (p + 1) ∧ Ext (FM F R) w w':=by
 have HS:=Lib.hid hS;have HF:=Lib.hid hF;have HB:=Lib.hid hB
 obtain ⟨z,hz⟩:=hB.off
 have hc0 : w.cell? ⟨F,0,none⟩ = some (.iface 50 (.pointer (some ⟨R,0,none⟩))):=by rw [hF.cell];exact hr
 have hf:=hF.free
 clear hS hF hB
 have hm:=method_readByte
 have hx:=readByte_some R sb so cap p src w HS.out hp
 have HX:=Lib.hid hx
 clear hx
 go_enter Tryz.func66,Tryz.ntmps66
 go_wp2_with fail
 refine HX.out.mono ?_
 rintro e w1 ⟨rfl,hs1,he1⟩
 have hb1:=HF.out.ext he1 (fun e => hFR e)
 have hc2 : w1.cell? ⟨F,2,none⟩ = some (.int .i64 z):=by rw [hb1.cell];exact hz
 have hc3 : w1.cell? ⟨F,3,none⟩ = some (.int .u32 (val BB : Nat)):=by rw [hb1.cell];exact HB.out.b
 have hc4 : w1.cell? ⟨F,4,none⟩ = some (.int .u64 BB.length):=by rw [hb1.cell];exact HB.out.nb
 have hf1:=hb1.free
 clear hb1
 clear hf hc0
 obtain ⟨x,hx⟩ : ∃ x,src[p].toNat = x:=⟨_,rfl⟩
 have hx8 : x < 256:=by rw [← hx];exact src[p].toNat_lt
 rw [hx]
 have HXE:=Lib.hid hx
 clear hx
 obtain ⟨nb,hnb⟩ : ∃ n,BB.length = n:=⟨_,rfl⟩
 rw [hnb] at hc4 hl
 have HNB:=Lib.hid hnb
 clear hnb
 go_wp2
 go_region
 go_wp2
 go_ret
 have hc1b:=HF.out.ext he1 (fun e => hFR e)
 have hor:=word_or (val BB) x nb (by have:=val_lt BB;rw [HNB.out] at this;exact this) hl hx8
 rw [hor]
 refine ⟨rfl,((c.setIfInBounds 2 (.int .i64 (wrap64 (z + 1)))).setIfInBounds 3 (.int .u32 ((val BB + 2 ^ nb * x : Nat) : Int))).setIfInBounds 4 (.int .u64 ((nb : Int) + 8)),((hc1b.set 2 _).set 3 _).set 4 _,?_,?_,?_,?_⟩
 ·exact (((Same.refl _ c).set (.inl rfl) _).set (.inr (.inl rfl)) _).set (.inr (.inr rfl)) _
 ·have hs2:=get_lt (HB.out.nb)
  have hv : val (BB ++ lsb x 8) = val BB + 2 ^ nb * x:=by
   rw [val_append,val_lsb,HNB.out,Nat.mod_eq_of_lt (by simpa using hx8)]
  rw [HXE.out]
  refine ⟨?_,?_,wrap64 (z + 1),?_⟩
  ·rw [hv];simp [Array.getElem?_setIfInBounds];omega
  ·simp [Array.getElem?_setIfInBounds,HNB.out];omega
  ·simp [Array.getElem?_setIfInBounds];omega
 ·exact hs1.ext (M:=fun k => k = F) ((((Ext.refl _ w1).only _).only _).only _).drew (fun e => hFR e.symm) hFs
 ·exact (he1.mono (fun _ _ h => .inr h)).trans (Ext.mono (M:=fun k => k = F) ((((Ext.refl _ w1).only _).only _).only _).drew (fun _ _ h => Or.inl h))
structure Ends (w : World) (A U : Addr) : Prop where
 eof : Sent w 0 A
 early : Sent w 4 U
 ne : U ≠ A
def EM (A U : Addr) : Nat → Prop:=fun k => k = 0 ∨ k = 4 ∨ k = A.block ∨ k = U.block
theorem Ends.ext {w w' : World} {A U : Addr} {M : Nat → Prop} (h : Ends w A U) (he : Ext M w w') (hm : ∀ k,EM A U k → ¬ M k) : Ends w' A U :=
 ⟨h.eof.ext he (hm _ (.inl rfl)) (hm _ (.inr (.inr (.inl rfl)))),h.early.ext he (hm _ (.inr (.inl rfl))) (hm _ (.inr (.inr (.inr rfl)))),h.ne⟩
set_option maxRecDepth 100000 in
set_option maxHeartbeats 1000000 in
theorem moreBits_end (F R sb so cap : Nat) (src : List UInt8) (c : Array Value) (A U : Addr) (w : World) (hF : Blk w F c 147) (hr : c[0]? = some (.iface 50 (.pointer (some ⟨R,0,none⟩))))
  (hS : Src w R sb so cap src src.length) (hE : Ends w A U) (hER : ¬ EM A U R) (hFR : F ≠ R) :
  Calls Tryz.prog 66 #[.pointer (some ⟨F,0,none⟩)] w fun e w' => e = .returned (.iface 175 (.pointer (some U))) ∧ Src w' R sb so cap src src.length ∧ Ext (fun k => k = R) w w':=by
 have hc0 : w.cell? ⟨F,0,none⟩ = some (.iface 50 (.pointer (some ⟨R,0,none⟩))):=by rw [hF.cell];exact hr
 have HX:=Lib.hid (readByte_end R sb so cap src A w hS hE.eof (fun e => hER (e ▸ .inl rfl)))
 have HE:=Lib.hid hE
 have hm:=method_readByte
 clear hS hF hE
 go_enter Tryz.func66,Tryz.ntmps66
 go_wp2_with fail
 refine HX.out.mono ?_
 rintro e w1 ⟨rfl,hs1,he1⟩
 have hE1:=HE.out.ext he1 (fun k hk e => hER (e ▸ hk))
 have HN:=Lib.hid (noEOF_eof A U w1 hE1.eof hE1.early)
 have HS1:=Lib.hid hs1;have HE1:=Lib.hid he1
 clear hs1 he1 hE1
 go_wp2_with fail
 refine HN.out.mono ?_
 rintro e w2 ⟨rfl,rfl⟩
 go_wp2
 go_ret
 exact ⟨rfl,HS1.out,HE1.out⟩
end Go.Proofs.YthpapbilhjobnaaGreatDoor
namespace Go.Proofs.YthpapbilhjobnaaGreatDoor
open Go.RowKit Pu
theorem set_ne (c : Array Value) {k j : Nat} (v : Value) (h : k ≠ j) : (c.setIfInBounds k v)[j]? = c[j]?:=by rw [Array.getElem?_setIfInBounds,if_neg h]
theorem set_eq {c : Array Value} {k : Nat} (v : Value) (h : k < c.size) : (c.setIfInBounds k v)[k]? = some v:=by rw [Array.getElem?_setIfInBounds,if_pos rfl,if_pos h]
theorem map_set_U8 (hs : List UInt8) (i : Nat) (x : UInt8) : ((hs.map U8).toArray).setIfInBounds i (U8 x) = ((hs.set i x).map U8).toArray:=by simp [List.map_set]
theorem ret_i64d {a b : Int} (h : a = b) : Ending.returned (.int .i64 a) = .returned (.int .i64 b):=by rw [h]
structure DD (w : World) (F hb : Nat) (c : Array Value) (hs : List UInt8) (wr rd : Nat) (full : Bool) : Prop where
 blk : Blk w F c 147
 hist : c[1037]? = some (.slice (some ⟨hb,0,none⟩) 32768 32768)
 wrc : c[1038]? = some (.int .i64 wr)
 rdc : c[1039]? = some (.int .i64 rd)
 fullc : c[1040]? = some (.bool full)
 hblk : Blk w hb (hs.map U8).toArray 5
 ne : hb ≠ F
 size : hs.length = 32768
 wrle : wr ≤ 32768
 rdle : rd ≤ wr
section
variable {w : World} {F hb : Nat} {c : Array Value} {hs : List UInt8} {wr rd : Nat} {full : Bool}
theorem DD.cells (h : DD w F hb c hs wr rd full) : w.cell? ⟨F,1037,none⟩ = some (.slice (some ⟨hb,0,none⟩) 32768 32768) ∧ w.cell? ⟨F,1038,none⟩ = some (.int .i64 wr) ∧ w.cell? ⟨F,1039,none⟩ = some (.int .i64 rd) ∧ w.cell? ⟨F,1040,none⟩ = some (.bool full):=by
 refine ⟨?_,?_,?_,?_⟩ <;> rw [h.blk.cell]
 ·exact h.hist
 ·exact h.wrc
 ·exact h.rdc
 ·exact h.fullc
theorem DD.ext {w' : World} {M : Nat → Prop} (h : DD w F hb c hs wr rd full) (he : Ext M w w') (h1 : ¬ M F) (h2 : ¬ M hb) : DD w' F hb c hs wr rd full :=
 ⟨h.blk.ext he h1,h.hist,h.wrc,h.rdc,h.fullc,h.hblk.ext he h2,h.ne,h.size,h.wrle,h.rdle⟩
set_option maxRecDepth 100000 in
set_option maxHeartbeats 1000000 in
theorem availWrite_any (F hb : Nat) (c : Array Value) (hs : List UInt8) (wr rd : Nat) (full : Bool) (w : World) (h : DD w F hb c hs wr rd full) :
  Calls Tryz.prog 78 #[.pointer (some ⟨F,1037,none⟩)] w fun e w' => e = .returned (.int .i64 ((32768 - wr : Nat) : Int)) ∧ Ext (fun _ => False) w w':=by
 obtain ⟨h1,h2,h3,h4⟩:=h.cells
 have hw:=h.wrle
 clear h
 have e : (32768 : Int) - (wr : Int) = ((32768 - wr : Nat) : Int):=by omega
 have HE:=Lib.hid e
 clear e
 go_enter Tryz.func78,Tryz.ntmps78
 go_wp2
 go_quiet (fail)
 go_wp2
 go_ret
 exact ⟨ret_i64d HE.out,(Ext.refl _ w).drewN _⟩
set_option maxRecDepth 100000 in
set_option maxHeartbeats 1000000 in
theorem availRead_any (F hb : Nat) (c : Array Value) (hs : List UInt8) (wr rd : Nat) (full : Bool) (w : World) (h : DD w F hb c hs wr rd full) :
  Calls Tryz.prog 83 #[.pointer (some ⟨F,1037,none⟩)] w fun e w' => e = .returned (.int .i64 ((wr - rd : Nat) : Int)) ∧ Ext (fun _ => False) w w':=by
 obtain ⟨h1,h2,h3,h4⟩:=h.cells
 have hw:=h.wrle
 have hr:=h.rdle
 clear h
 have e : (wr : Int) - (rd : Int) = ((wr - rd : Nat) : Int):=by omega
 have HE:=Lib.hid e
 clear e
 go_enter Tryz.func83,Tryz.ntmps83
 go_wp2
 go_quiet (fail)
 go_wp2
 go_ret
 exact ⟨ret_i64d HE.out,(Ext.refl _ w).drewN _⟩
set_option maxRecDepth 100000 in
set_option maxHeartbeats 1000000 in
theorem histSize_any (F hb : Nat) (c : Array Value) (hs : List UInt8) (wr rd : Nat) (full : Bool) (w : World) (h : DD w F hb c hs wr rd full) :
  Calls Tryz.prog 80 #[.pointer (some ⟨F,1037,none⟩)] w fun e w' => e = .returned (.int .i64 (hsize wr full : Nat)) ∧ w = w':=by
 obtain ⟨h1,h2,h3,h4⟩:=h.cells
 clear h
 cases full
 ·go_enter Tryz.func80,Tryz.ntmps80
  go_wp2
  go_ret
  exact ⟨rfl,rfl⟩
 ·go_enter Tryz.func80,Tryz.ntmps80
  go_wp2
  go_ret
  exact ⟨rfl,rfl⟩
set_option maxRecDepth 100000 in
set_option maxHeartbeats 1000000 in
theorem writeByte_any (F hb : Nat) (c : Array Value) (hs : List UInt8) (wr rd : Nat) (full : Bool) (x : UInt8) (w : World) (h : DD w F hb c hs wr rd full) (hlt : wr < 32768) :
  Calls Tryz.prog 77 #[.pointer (some ⟨F,1037,none⟩),.int .u8 x.toNat] w fun e w' => e = .returned (.tuple #[]) ∧ ∃ c',DD w' F hb c' (hs.set wr x) (wr + 1) rd full ∧ Same (fun k => k = 1038) c c' ∧ Ext (fun k => k = F ∨ k = hb) w w':=by
 obtain ⟨h1,h2,h3,h4⟩:=h.cells
 have hf:=h.blk.free
 have hfh:=h.hblk.free
 have hne:=h.ne
 have hsz:=h.size
 have hcx : w.cell? ⟨hb,wr,none⟩ = some (.int .u8 (hs[wr]'(by omega)).toNat):=by
  rw [h.hblk.cell];simp [U8,show wr < hs.length by omega]
 obtain ⟨y,hy⟩ : ∃ y : Nat,(hs[wr]'(by omega)).toNat = y:=⟨_,rfl⟩
 rw [hy] at hcx
 have hne' : F ≠ hb:=Ne.symm hne
 have HH:=Lib.hid h
 clear h hy hsz
 have hlt' : (wr : Int) < 32768:=by omega
 go_enter Tryz.func77,Tryz.ntmps77
 go_wp2
 go_region
 go_wp2
 go_end0
 have h:=HH.out
 have hb2 : Blk ((w.setCell ⟨hb,wr,none⟩ (.int .u8 (x.toNat : Int))).setCell ⟨F,1038,none⟩ (.int .i64 ((wr : Int) + 1))).drew hb ((hs.set wr x).map U8).toArray 5:=by
  rw [← map_set_U8]
  exact ((h.hblk.set wr (U8 x)).setOther _ _ h.ne).drew
 refine ⟨rfl,c.setIfInBounds 1038 (.int .i64 ((wr : Int) + 1)),⟨((h.blk.setOther _ _ (Ne.symm h.ne)).set 1038 _).drew,?_,?_,?_,?_,hb2,h.ne,by rw [List.length_set];exact h.size,by omega,by have:=h.rdle;omega⟩,(Same.refl (fun k => k = 1038) c).set rfl _,?_⟩
 ·rw [set_ne c _ (by decide)];exact h.hist
 ·rw [set_eq _ (get_lt h.wrc)];rfl
 ·rw [set_ne c _ (by decide)];exact h.rdc
 ·rw [set_ne c _ (by decide)];exact h.fullc
 ·exact (((Ext.refl (fun k => k = F ∨ k = hb) w).setCell (p:=⟨hb,wr,none⟩) (fun _ => .inr rfl) _).setCell (p:=⟨F,1038,none⟩) (fun _ => .inl rfl) _).drew
set_option maxRecDepth 100000 in
set_option maxHeartbeats 1000000 in
theorem writeMark_any (F hb : Nat) (c : Array Value) (hs : List UInt8) (wr rd n : Nat) (full : Bool) (w : World) (h : DD w F hb c hs wr rd full) (hn : wr + n ≤ 32768) :
  Calls Tryz.prog 85 #[.pointer (some ⟨F,1037,none⟩),.int .i64 n] w fun e w' => e = .returned (.tuple #[]) ∧ ∃ c',DD w' F hb c' hs (wr + n) rd full ∧ Same (fun k => k = 1038) c c' ∧ Ext (fun k => k = F) w w':=by
 obtain ⟨h1,h2,h3,h4⟩:=h.cells
 have hf:=h.blk.free
 have HH:=Lib.hid h
 clear h
 go_enter Tryz.func85,Tryz.ntmps85
 go_wp2
 go_end0
 have h:=HH.out
 refine ⟨rfl,c.setIfInBounds 1038 (.int .i64 ((wr : Int) + (n : Int))),⟨h.blk.set 1038 _,?_,?_,?_,?_,h.hblk.setOther _ _ h.ne,h.ne,h.size,hn,by have:=h.rdle;omega⟩,(Same.refl (fun k => k = 1038) c).set rfl _,(Ext.refl _ w).only _⟩
 ·rw [set_ne c _ (by decide)];exact h.hist
 ·rw [set_eq _ (get_lt h.wrc)];simp
 ·rw [set_ne c _ (by decide)];exact h.rdc
 ·rw [set_ne c _ (by decide)];exact h.fullc
set_option maxRecDepth 100000 in
set_option maxHeartbeats 1000000 in
theorem writeSlice_any (F hb : Nat) (c : Array Value) (hs : List UInt8) (wr rd : Nat) (full : Bool) (w : World) (h : DD w F hb c hs wr rd full) (hlt : wr < 32768) :
  Calls Tryz.prog 84 #[.pointer (some ⟨F,1037,none⟩)] w fun e w' => e = .returned (.slice (some ⟨hb,wr,none⟩) (32768 - wr) (32768 - wr)) ∧ Ext (fun _ => False) w w':=by
 obtain ⟨h1,h2,h3,h4⟩:=h.cells
 clear h
 have hlt' : (wr : Int) < 32768:=by omega
 have hne : ¬ 32768 = wr:=by omega
 go_enter Tryz.func84,Tryz.ntmps84
 go_wp2
 go_quiet (fail)
 go_wp2
 go_ret
 exact ⟨rfl,(Ext.refl _ w).drewN _⟩
def Flushed (w : World) (F hb : Nat) (c : Array Value) (hs : List UInt8) (wr rd : Nat) (full : Bool) (e : Ending) (w' : World) : Prop :=
 ∃ c',e = .returned (.slice (some ⟨hb,rd,none⟩) (wr - rd) (32768 - rd)) ∧ DD w' F hb c' hs (if wr = 32768 then 0 else wr) (if wr = 32768 then 0 else wr) (if wr = 32768 then true else full) ∧
  Same (fun k => k = 1038 ∨ k = 1039 ∨ k = 1040) c c' ∧ Ext (fun k => k = F) w w'
set_option maxRecDepth 100000 in
set_option maxHeartbeats 2000000 in
theorem readFlush_any (F hb : Nat) (c : Array Value) (hs : List UInt8) (wr rd : Nat) (full : Bool) (w : World) (h : DD w F hb c hs wr rd full) (hlt : rd < 32768) :
  Calls Tryz.prog 72 #[.pointer (some ⟨F,1037,none⟩)] w (Flushed w F hb c hs wr rd full):=by
 obtain ⟨h1,h2,h3,h4⟩:=h.cells
 have hf:=h.blk.free
 have hw:=h.wrle
 have hr:=h.rdle
 have HH:=Lib.hid h
 clear h
 have hlt' : (rd : Int) < 32768:=by omega
 have hw' : (wr : Int) ≤ 32768:=by omega
 have hr' : (rd : Int) ≤ (wr : Int):=by omega
 have hne : ¬ 32768 = rd:=by omega
 rcases Nat.lt_or_ge wr 32768 with hwl | hwl
 ·have hb : ((wr : Int) == 32768) = false:=by simp;omega
  go_enter Tryz.func72,Tryz.ntmps72
  go_wp2
  go_quiet (fail)
  obtain ⟨na,rfl⟩ : ∃ n : Nat,n = nq:=⟨_,rfl⟩
  go_wp2
  go_quiet (fail)
  go_wp2
  go_ret
  have h:=HH.out
  refine ⟨c.setIfInBounds 1039 (.int .i64 (wr : Int)),rfl,?_,(Same.refl (fun k => k = 1038 ∨ k = 1039 ∨ k = 1040) c).set (.inr (.inl rfl)) _,(((Ext.refl _ w).drewN na).only _).drewN nq⟩
  rw [if_neg (by omega),if_neg (by omega)]
  refine ⟨(((h.blk.drewN na).set 1039 _).drewN nq),?_,?_,?_,?_,((h.hblk.drewN na).setOther _ _ h.ne).drewN nq,h.ne,h.size,h.wrle,Nat.le_refl _⟩
  ·rw [set_ne c _ (by decide)];exact h.hist
  ·rw [set_ne c _ (by decide)];exact h.wrc
  ·rw [set_eq _ (get_lt h.rdc)]
  ·rw [set_ne c _ (by decide)];exact h.fullc
 ·have hb : ((wr : Int) == 32768) = true:=by simp;omega
  go_enter Tryz.func72,Tryz.ntmps72
  go_wp2
  go_quiet (fail)
  obtain ⟨na,rfl⟩ : ∃ n : Nat,n = nq:=⟨_,rfl⟩
  go_wp2
  go_quiet (fail)
  go_wp2
  go_ret
  have h:=HH.out
  refine ⟨(((c.setIfInBounds 1039 (.int .i64 (wr : Int))).setIfInBounds 1038 (.int .i64 0)).setIfInBounds 1039 (.int .i64 0)).setIfInBounds 1040 (.bool true),rfl,?_,
   ((((Same.refl (fun k => k = 1038 ∨ k = 1039 ∨ k = 1040) c).set (.inr (.inl rfl)) _).set (.inl rfl) _).set (.inr (.inl rfl)) _).set (.inr (.inr rfl)) _,((((((Ext.refl _ w).drewN na).only _).drewN nq).only _).only _).only _⟩
  rw [if_pos (by omega),if_pos (by omega)]
  have hs0:=get_lt h.fullc
  refine ⟨((((((h.blk.drewN na).set 1039 _).drewN nq).set 1038 _).set 1039 _).set 1040 _),?_,?_,?_,?_,(((((h.hblk.drewN na).setOther _ _ h.ne).drewN nq).setOther _ _ h.ne).setOther _ _ h.ne).setOther _ _ h.ne,h.ne,h.size,by omega,Nat.le_refl _⟩
  ·rw [set_ne _ _ (by decide),set_ne _ _ (by decide),set_ne _ _ (by decide),set_ne _ _ (by decide)];exact h.hist
  ·rw [set_ne _ _ (by decide),set_ne _ _ (by decide),set_eq _ (by simp;omega)];rfl
  ·rw [set_ne _ _ (by decide),set_eq _ (by simp;omega)];rfl
  ·rw [set_eq _ (by simp;omega)]
end
end Go.Proofs.YthpapbilhjobnaaGreatDoor
namespace Go.Proofs.YthpapbilhjobnaaGreatDoor
open Go.RowKit Pu
structure Keep4 (F R : Nat) (w w' : World) : Prop where
 cell : ∀ b o v,w.cell? ⟨b,o,none⟩ = some v → b ≠ R → (b = F → 5 ≤ o) → w'.cell? ⟨b,o,none⟩ = some v
structure HT (w : World) (F : Nat) (N : Nat → Prop) (hb ho : Nat) (lens : List Nat) (mn : Nat) : Prop where
 hN : ¬ N hb
 hF : hb = F → 5 ≤ ho ∧ ho ≤ 520
 min : w.cell? ⟨hb,ho,none⟩ = some (.int .i64 mn)
 tab : ∃ (ch : Nat → Nat) (lk : Nat → Nat → Nat) (nl nk Lb lcap : Nat) (g : Nat → Nat),Tab lens ch lk nl nk ∧ (∀ x,x < 512 → w.cell? ⟨hb,ho + 1 + x,none⟩ = some (.int .u32 (ch x))) ∧
  ((∃ s,9 < len lens s) → (nl ≤ 512 ∧ ∃ m,m ≤ 6 ∧ nk = 2 ^ m) ∧ ¬ N Lb ∧ Lb ≠ F ∧ w.cell? ⟨hb,ho + 513,none⟩ = some (.slice (some ⟨Lb,0,none⟩) nl lcap) ∧ w.cell? ⟨hb,ho + 514,none⟩ = some (.int .u32 ((nk - 1 : Nat) : Int)) ∧
    (∀ v,v < nl → ¬ N (g v) ∧ g v ≠ F ∧ w.cell? ⟨Lb,v,none⟩ = some (.slice (some ⟨g v,0,none⟩) nk nk) ∧ ∀ y,y < nk → w.cell? ⟨g v,y,none⟩ = some (.int .u32 (lk v y))))
theorem HT.kept {w w' : World} {F : Nat} {N : Nat → Prop} {hb ho : Nat} {lens : List Nat} {mn : Nat} (h : HT w F N hb ho lens mn)
  (hk : ∀ b o v,w.cell? ⟨b,o,none⟩ = some v → ¬ N b → (b = F → 5 ≤ o ∧ o < 1035) → w'.cell? ⟨b,o,none⟩ = some v) : HT w' F N hb ho lens mn:=by
 obtain ⟨hR,hF,hmin,ch,lk,nl,nk,Lb,lcap,g,h1,h2,h3⟩:=h
 refine ⟨hR,hF,hk _ _ _ hmin hR (fun e => by have:=hF e;omega),ch,lk,nl,nk,Lb,lcap,g,h1,fun x hx => hk _ _ _ (h2 x hx) hR (fun e => by have:=hF e;omega),fun hs => ?_⟩
 obtain ⟨a,b,c,d,e,f⟩:=h3 hs
 refine ⟨a,b,c,hk _ _ _ d hR (fun e => by have:=hF e;omega),hk _ _ _ e hR (fun e => by have:=hF e;omega),fun v hv => ?_⟩
 obtain ⟨p,q,r,t⟩:=f v hv
 exact ⟨p,q,hk _ _ _ r b (fun e => absurd e c),fun y hy => hk _ _ _ (t y hy) p (fun e => absurd e q)⟩
theorem HT.keep {w w' : World} {F R : Nat} {N : Nat → Prop} {hb ho : Nat} {lens : List Nat} {mn : Nat} (h : HT w F N hb ho lens mn) (hN : N R) (hk : Keep4 F R w w') : HT w' F N hb ho lens mn :=
 h.kept fun b o v hv hn hf => hk.cell b o v hv (fun e => hn (e ▸ hN)) (fun e => (hf e).1)
theorem HT.look {w : World} {F : Nat} {N : Nat → Prop} {hb ho : Nat} {lens : List Nat} {mn : Nat} (h : HT w F N hb ho lens mn) {x t : Nat} (ht : Hits lens x t) :
  (len lens t ≤ 9 ∧ w.cell? ⟨hb,ho + 1 + x % 512,none⟩ = some (.int .u32 ((t * 16 + len lens t : Nat) : Int))) ∨
  (9 < len lens t ∧ ∃ v m nl Lb lcap gv,m ≤ 6 ∧ v < nl ∧ v < 100000 ∧ w.cell? ⟨hb,ho + 1 + x % 512,none⟩ = some (.int .u32 ((v * 16 + 10 : Nat) : Int)) ∧ w.cell? ⟨hb,ho + 513,none⟩ = some (.slice (some ⟨Lb,0,none⟩) nl lcap) ∧
    w.cell? ⟨hb,ho + 514,none⟩ = some (.int .u32 ((2 ^ m - 1 : Nat) : Int)) ∧ w.cell? ⟨Lb,v,none⟩ = some (.slice (some ⟨gv,0,none⟩) (2 ^ m) (2 ^ m)) ∧ w.cell? ⟨gv,x / 512 % 2 ^ m,none⟩ = some (.int .u32 ((t * 16 + len lens t : Nat) : Int))):=by
 obtain ⟨hR,hF,hmin,ch,lk,nl,nk,Lb,lcap,g,h1,h2,h3⟩:=h
 obtain ⟨ha,hb'⟩:=h1 t x ht
 have hx : x % 512 < 512:=Nat.mod_lt _ (by omega)
 rcases Nat.lt_or_ge 9 (len lens t) with h9 | h9
 ·obtain ⟨v,hv,hc,hl⟩:=hb' h9
  obtain ⟨⟨hn,m,hm,rfl⟩,b,c,d,e,f⟩:=h3 ⟨t,h9⟩
  obtain ⟨p,q,r,u⟩:=f v hv
  refine .inr ⟨h9,v,m,nl,Lb,lcap,g v,hm,hv,by omega,?_,d,e,r,?_⟩
  ·rw [h2 _ hx,hc]
  ·rw [u _ (Nat.mod_lt _ (Nat.two_pow_pos _)),hl]
 ·exact .inl ⟨h9,by rw [h2 _ hx,ha h9]⟩
theorem u32_low (x k : Nat) (hx : x < 4294967296) (hk : k ≤ 16) : bits BinOp.and IntKind.u32 (x : Int) ((2 ^ k - 1 : Nat) : Int) = ((x % 2 ^ k : Nat) : Int):=by
 have h : 2 ^ k ≤ 2 ^ 16:=Nat.pow_le_pow_right (by omega) hk
 rw [u32_and_nat _ _ hx (by omega),Nat.and_two_pow_sub_one_eq_mod]
def SymPost (w : World) (F R sb so cap : Nat) (src ext : List UInt8) (U : Addr) (c : Array Value) (BB Z : List Bool) (mn l s : Nat) (e : Ending) (w' : World) : Prop :=
 ∃ c',Blk w' F c' 147 ∧ Same BM c c' ∧ Ext (FM F R) w w' ∧
  ((∃ BB' p',e = .returned (.tuple #[.int .i64 s,.nilIface]) ∧ Bits c' BB' ∧ Src w' R sb so cap src p' ∧ BB' ++ bitsOf (src.drop p' ++ ext) = Z ∧ (BB'.length + l < max mn l + 8 ∨ BB'.length + l = BB.length)) ∨
   (ext ≠ [] ∧ (∃ p',Src w' R sb so cap src p') ∧ e = .returned (.tuple #[.int .i64 0,.iface 175 (.pointer (some U))])))
structure SH (w : World) (N : Nat → Prop) (F R sb so cap hb ho mn l n0 : Nat) (src ext : List UInt8) (c : Array Value) (lens : List Nat) (A U : Addr) (Zall BB : List Bool) (p : Nat) (wr : World) : Prop where
 sc : Src wr R sb so cap src p
 blk : ∃ c' z,Blk wr F c' 147 ∧ Same (fun k => k = 2) c c' ∧ c'[2]? = some (.int .i64 z)
 ht : HT wr F N hb ho lens mn
 hN : N R
 ends : Ends wr A U
 ex : Ext (FM F R) w wr
 z : BB ++ bitsOf (src.drop p ++ ext) = Zall
 bound : BB.length < max mn l + 8 ∨ BB.length = n0
theorem Keep4.drewN {F R : Nat} (w : World) (n : Nat) : Keep4 F R w (w.drewN n):=⟨fun _ _ _ h _ _ => h⟩
theorem Keep4.trans {F R : Nat} {a b c : World} (h : Keep4 F R a b) (k : Keep4 F R b c) : Keep4 F R a c:=⟨fun x o v hv h1 h2 => k.cell _ _ _ (h.cell _ _ _ hv h1 h2) h1 h2⟩
theorem Keep4.source {F R : Nat} {w w' : World} (h : Ext (fun k => k = R) w w') : Keep4 F R w w':=⟨fun b o v hv h1 _ => h.cellSome (fun e => h1 e) hv⟩
theorem Keep4.own {F R k : Nat} (w : World) (v : Value) (hk : k ≤ 4) : Keep4 F R w (w.setCell ⟨F,k,none⟩ v):=⟨fun b o x hv h1 h2 => by
 rw [World.cell?_setCell_other w _ _ _ (fun e => by
  have e1 : b = F:=congrArg Addr.block e.symm
  have e2 : o = k:=congrArg Addr.off e.symm
  have:=h2 e1;omega)]
 exact hv⟩
section
variable {w : World} {N : Nat → Prop} {F R sb so cap hb ho mn l n0 : Nat} {src ext : List UInt8} {c : Array Value} {lens : List Nat} {A U : Addr} {Zall BB : List Bool} {p : Nat} {wr : World}
theorem SH.drewN (h : SH w N F R sb so cap hb ho mn l n0 src ext c lens A U Zall BB p wr) (n : Nat) : SH w N F R sb so cap hb ho mn l n0 src ext c lens A U Zall BB p (wr.drewN n):=by
 obtain ⟨h1,⟨c',z,h2,h3,h4⟩,h5,hN,h6,h7,h8,h9⟩:=h
 exact ⟨h1.drewN n,⟨c',z,h2,h3,h4⟩,h5.keep hN (Keep4.drewN _ _),hN,h6.ext ((Ext.refl (fun _ => False) wr).drewN n) (fun _ _ e => e),h7.drewN n,h8,h9⟩
theorem SH.read (h : SH w N F R sb so cap hb ho mn l n0 src ext c lens A U Zall BB p wr) (hFR : F ≠ R) (hFs : sb ≠ F) (hER : ¬ EM A U R) (hEF : ¬ EM A U F) (hp : p < src.length) (hn : BB.length < max mn l) {w1 : World} (hs : Src w1 R sb so cap src (p + 1)) (he : Ext (fun k => k = R) wr w1) (z' : Int) :
  SH w N F R sb so cap hb ho mn l n0 src ext c lens A U Zall (BB ++ lsb src[p].toNat 8) (p + 1) (w1.setCell ⟨F,2,none⟩ (.int .i64 z')):=by
 obtain ⟨h1,⟨c',z,h2,h3,h4⟩,h5,hN,h6,h7,h8,h9⟩:=h
 have e2 : Ext (fun k => k = F) w1 (w1.setCell ⟨F,2,none⟩ (.int .i64 z')):=(Ext.refl _ _).only _
 refine ⟨hs.ext e2 (fun e => hFR e.symm) hFs,⟨_,z',(h2.ext he (fun e => hFR e)).set 2 (.int .i64 z'),h3.set rfl _,?_⟩,(h5.keep hN (Keep4.source he)).keep hN (Keep4.own _ _ (by omega)),hN,?_,?_,?_,.inl ?_⟩
 ·rw [Array.getElem?_setIfInBounds,if_pos rfl,if_pos (get_lt h4)]
 ·exact (h6.ext he (fun k hk e => hER (e ▸ hk))).ext e2 (fun k hk e => hEF (e ▸ hk))
 ·exact (h7.trans (he.mono (fun _ _ e => .inr e))).trans (e2.mono (fun _ _ e => .inl e))
 ·rw [← h8,List.drop_eq_getElem_cons hp,List.append_assoc];rfl
 ·rw [List.length_append,length_lsb];omega
theorem SH.short (h : SH w N F R sb so cap hb ho mn l n0 src ext c lens A U Zall BB p wr) (hp : ¬ p < src.length) (hn : BB.length < Zall.length) : ext ≠ [] ∧ p = src.length:=by
 have:=h.sc.le
 have hpe : p = src.length:=by omega
 refine ⟨fun e => ?_,hpe⟩
 have hz:=congrArg List.length h.z
 rw [hpe,e,List.drop_length] at hz
 simp [bitsOf] at hz
 omega
theorem SH.over (h : SH w N F R sb so cap hb ho mn l n0 src ext c lens A U Zall BB p wr) {w1 : World} {p1 : Nat} (he : Ext (fun k => k = R) wr w1) (hs1 : Src w1 R sb so cap src p1) (hFR : F ≠ R) (hFs : sb ≠ F) (hx : ext ≠ []) (x y : Value) {Z BB0 : List Bool} {s : Nat} :
  SymPost w F R sb so cap src ext U c BB0 Z mn l s (.returned (.tuple #[.int .i64 0,.iface 175 (.pointer (some U))])) ((w1.setCell ⟨F,3,none⟩ x).setCell ⟨F,4,none⟩ y):=by
 obtain ⟨h1,⟨c',z,h2,h3,h4⟩,h5,hN,h6,h7,h8,h9⟩:=h
 have e2 : Ext (fun k => k = F) w1 ((w1.setCell ⟨F,3,none⟩ x).setCell ⟨F,4,none⟩ y):=((Ext.refl _ _).only _).only _
 refine ⟨_,((h2.ext he (fun e => hFR e)).set 3 x).set 4 y,((h3.mono (fun _ e => .inl e)).set (.inr (.inl rfl)) _).set (.inr (.inr rfl)) _,(h7.trans (he.mono (fun _ _ e => .inr e))).trans (e2.mono (fun _ _ e => .inl e)),.inr ⟨hx,⟨p1,hs1.ext e2 (fun e => hFR e.symm) hFs⟩,rfl⟩⟩
theorem SH.done (h : SH w N F R sb so cap hb ho mn l n0 src ext c lens A U Zall BB p wr) {BB0 Z : List Bool} {s : Nat} (hFR : F ≠ R) (hFs : sb ≠ F) (hn0 : n0 = BB0.length) (hZ : Zall = codeBits lens s ++ Z) (hl : l = len lens s) (hle : l ≤ BB.length) {b3 : Nat} (hb3 : b3 = val BB / 2 ^ l) (hsz : 5 ≤ c.size) :
  SymPost w F R sb so cap src ext U c BB0 Z mn l s (.returned (.tuple #[.int .i64 s,.nilIface])) ((wr.setCell ⟨F,3,none⟩ (.int .u32 b3)).setCell ⟨F,4,none⟩ (.int .u64 ((BB.length - l : Nat) : Int))):=by
 obtain ⟨h1,⟨c',z,h2,h3,h4⟩,h5,hN,h6,h7,h8,h9⟩:=h
 have e2 : Ext (fun k => k = F) wr ((wr.setCell ⟨F,3,none⟩ (.int .u32 b3)).setCell ⟨F,4,none⟩ (.int .u64 ((BB.length - l : Nat) : Int))):=((Ext.refl _ _).only _).only _
 have hs3:=h3.1
 have hcl : (codeBits lens s).length = l:=by rw [hl];exact length_codeBits lens s
 refine ⟨_,(h2.set 3 _).set 4 _,((h3.mono (fun _ e => .inl e)).set (.inr (.inl rfl)) _).set (.inr (.inr rfl)) _,h7.trans (e2.mono (fun _ _ e => .inl e)),.inl ⟨BB.drop l,p,rfl,⟨?_,?_,z,?_⟩,h1.ext e2 (fun e => hFR e.symm) hFs,?_,?_⟩⟩
 ·rw [val_drop,hb3];simp [Array.getElem?_setIfInBounds];omega
 ·rw [List.length_drop];simp [Array.getElem?_setIfInBounds];omega
 ·simp [Array.getElem?_setIfInBounds];exact h4
 ·have e : Zall.drop l = Z:=by rw [hZ];exact List.drop_left' hcl
  rw [← e,← h8,List.drop_append_of_le_length hle]
 ·rw [List.length_drop];omega
theorem SH.hits (h : SH w N F R sb so cap hb ho mn l n0 src ext c lens A U Zall BB p wr) (hg : Pu.Good lens) {s : Nat} {Z : List Bool} (hs : 0 < len lens s) (hZ : Zall = codeBits lens s ++ Z) (hl : l = len lens s) :
  ∃ t,Hits lens (val BB) t ∧ ((l ≤ BB.length ∧ t = s) ∨ (BB.length < len lens t ∧ len lens t ≤ l)):=by
 have hb:=hits_of_bits hg hs (nb:=BB.length) (Z:=Z)
 have e : (codeBits lens s ++ Z).take BB.length = BB:=by rw [← hZ,← h.z,List.take_left]
 rw [e,← hl] at hb
 rcases Nat.lt_or_ge BB.length l with h1 | h1
 ·obtain ⟨t,h2,h3,h4⟩:=hb.2 h1
  exact ⟨t,h2,.inr ⟨h3,h4⟩⟩
 ·exact ⟨s,hb.1 h1,.inl ⟨h1,rfl⟩⟩
end
set_option maxRecDepth 100000 in
set_option maxHeartbeats 4000000 in
theorem huffSym_any (N : Nat → Prop) (F R sb so cap p hb ho mn s : Nat) (src ext : List UInt8) (A U : Addr) (c : Array Value) (BB Z : List Bool) (lens : List Nat) (w : World) (hF : Blk w F c 147) (hr : c[0]? = some (.iface 50 (.pointer (some ⟨R,0,none⟩)))) (hB : Bits c BB)
  (hS : Src w R sb so cap src p) (hE : Ends w A U) (hT : HT w F N hb ho lens mn) (hN : N R) (hg : Pu.Good lens) (hs : 0 < len lens s) (hll : lens.length ≤ 400)
  (hZ : BB ++ bitsOf (src.drop p ++ ext) = codeBits lens s ++ Z) (hmn : mn ≤ 15) (hmZ : mn ≤ len lens s + Z.length) (hBB : BB.length ≤ 23)
  (hFR : F ≠ R) (hFs : sb ≠ F) (hER : ¬ EM A U R) (hEF : ¬ EM A U F) :
  Calls Tryz.prog 76 #[.pointer (some ⟨F,0,none⟩),.pointer (some ⟨hb,ho,none⟩)] w (SymPost w F R sb so cap src ext U c BB Z mn (len lens s) s):=by
 have HS:=Lib.hid hS;have HF:=Lib.hid hF;have HB:=Lib.hid hB;have HE:=Lib.hid hE;have HT:=Lib.hid hT;have HG:=Lib.hid hg;have HZ:=Lib.hid hZ
 have hc3 : w.cell? ⟨F,3,none⟩ = some (.int .u32 (val BB : Nat)):=by rw [hF.cell];exact hB.b
 have hc4 : w.cell? ⟨F,4,none⟩ = some (.int .u64 BB.length):=by rw [hF.cell];exact hB.nb
 have hm:=hT.min
 have h15:=len_le hg.mem s
 clear hF hS hE hT hg hZ hB
 go_enter Tryz.func76,Tryz.ntmps76
 go_wp2
 go_quiet (fail)
 go_wp2
 obtain ⟨l,hl⟩ : ∃ l,len lens s = l:=⟨_,rfl⟩
 obtain ⟨Za,hZa⟩ : ∃ X,codeBits lens s ++ Z = X:=⟨_,rfl⟩
 have hzl : Za.length = l + Z.length:=by rw [← hZa,List.length_append,length_codeBits,hl]
 rw [hl] at hs hmZ h15 ⊢
 rw [hZa] at HZ
 have HL:=Lib.hid hl;have HZA:=Lib.hid hZa;have HZL:=Lib.hid hzl
 have hcs:=get_lt HB.out.nb
 have HCS:=Lib.hid hcs
 have HST : Hid (SH w N F R sb so cap hb ho mn l BB.length src ext c lens A U Za BB p (w.drewN nq)):=Lib.hid (SH.drewN ⟨HS.out,by
  obtain ⟨z,hz⟩:=HB.out.off
  exact ⟨c,z,HF.out,Same.refl _ _,hz⟩,HT.out,hN,HE.out,Ext.refl _ _,HZ.out,.inr rfl⟩ nq)
 clear hl hZa hzl hcs hc3 hc4 hm HS HE HT HF
 obtain ⟨n0,hn0⟩ : ∃ n,BB.length = n:=⟨_,rfl⟩
 have HN0:=Lib.hid hn0
 rw [hn0] at hBB HST ⊢
 clear hn0
 obtain ⟨w0,rfl⟩ : ∃ w0 : World,w0 = w:=⟨_,rfl⟩
 obtain ⟨x0,hx0⟩ : ∃ x,val BB = x:=⟨_,rfl⟩
 have HX0:=Lib.hid hx0
 rw [hx0]
 clear hx0
 obtain ⟨k0,hk0⟩ : ∃ k,200 - 2 * n0 - (if n0 < mn then 1 else 0) = k:=⟨_,rfl⟩
 have HK0:=Lib.hid hk0
 clear hk0
 go_loopg [6,7,8] k0 (fun k s6 s7 s8 wr => ∃ (n nb x p : Nat) (B : List Bool),s6 = .int .u64 n ∧ s7 = .int .u64 nb ∧ s8 = .int .u32 x ∧ B.length = nb ∧ val B = x ∧ n ≤ max mn l ∧ nb ≤ 23 ∧ SH w0 N F R sb so cap hb ho mn l n0 src ext c lens A U Za B p wr ∧ k = 200 - 2 * nb - if nb < n then 1 else 0)
 case atStart =>
  refine ⟨mn,n0,x0,p,BB,rfl,rfl,rfl,HN0.out,HX0.out,by omega,hBB,?_,?_⟩
  ·exact HST.out
  ·exact HK0.out.symm
 case round =>
  obtain ⟨n,nb,x,p,B,rfl,rfl,rfl,hbl,hbx,hn,hnb,hsh,hk⟩:=hrel
  obtain ⟨wo,rfl⟩ : ∃ wo : World,wo = wr:=⟨_,rfl⟩
  have HBL:=Lib.hid hbl;have HBX:=Lib.hid hbx;have HSH:=Lib.hid hsh;have HK:=Lib.hid hk
  clear hbl hbx hsh hk HST
  go_upto_block 2 with (fail)
  go_cut [7,8] (fun s7 s8 wx => ∃ (nb' x p : Nat) (B : List Bool),s7 = .int .u64 nb' ∧ s8 = .int .u32 x ∧ B.length = nb' ∧ val B = x ∧ n ≤ nb' ∧ nb' ≤ 23 ∧ nb ≤ nb' ∧ (nb < n → nb + 8 ≤ nb') ∧ SH w0 N F R sb so cap hb ho mn l n0 src ext c lens A U Za B p wx)
  case first =>
   go_wp2_with fail
   go_loopg [7,8] (64 - nb) (fun k s7 s8 wx => ∃ (nb' x p : Nat) (B : List Bool),s7 = .int .u64 nb' ∧ s8 = .int .u32 x ∧ B.length = nb' ∧ val B = x ∧ nb' ≤ 23 ∧ nb ≤ nb' ∧ (nb < nb' → nb + 8 ≤ nb') ∧ SH w0 N F R sb so cap hb ho mn l n0 src ext c lens A U Za B p wx ∧ k = 64 - nb')
   case atStart => exact ⟨nb,x,p,B,rfl,rfl,HBL.out,HBX.out,hnb,by omega,by omega,HSH.out,rfl⟩
   case round =>
    obtain ⟨nb',x',p',B',rfl,rfl,hbl',hbx',hnb',hge,hstep,hsh',hk'⟩:=hrel
    obtain ⟨wi,rfl⟩ : ∃ wi : World,wi = wr:=⟨_,rfl⟩
    have HBL':=Lib.hid hbl';have HBX':=Lib.hid hbx';have HSH':=Lib.hid hsh';have HK':=Lib.hid hk'
    clear hbl' hbx' hsh' hk' HSH
    rcases Nat.lt_or_ge nb' n with hlt | hgn
    ·obtain ⟨c',z,hb',hsm',hz'⟩:=HSH'.out.blk
     have hc0 : wi.cell? ⟨F,0,none⟩ = some (.iface 50 (.pointer (some ⟨R,0,none⟩))):=by rw [hb'.cell,hsm'.2 0 (by omega)];exact hr
     have HB':=Lib.hid hb';have HSM':=Lib.hid hsm';have HZ':=Lib.hid hz'
     clear hb' hsm' hz'
     have hm:=method_readByte
     rcases Nat.lt_or_ge p' src.length with hp | hp
     ·have HX:=Lib.hid (readByte_some R sb so cap p' src wi HSH'.out.sc hp)
      go_wp2_with fail
      refine HX.out.mono ?_
      rintro e w1 ⟨rfl,hs1,he1⟩
      have hb1:=HB'.out.ext he1 (fun e => hFR e)
      have hc2 : w1.cell? ⟨F,2,none⟩ = some (.int .i64 z):=by rw [hb1.cell];exact HZ'.out
      have hf1:=hb1.free
      have hnext:=HSH'.out.read hFR hFs hER hEF hp (by rw [HBL'.out];omega) hs1 he1 (wrap64 (z + 1))
      obtain ⟨y,hy⟩ : ∃ y,src[p'].toNat = y:=⟨_,rfl⟩
      have hy8 : y < 256:=by rw [← hy];exact src[p'].toNat_lt
      rw [hy] at hnext ⊢
      have hvx : x' < 2 ^ nb':=by rw [← HBX'.out,← HBL'.out];exact val_lt B'
      have hor:=word_or x' y nb' hvx (by omega) hy8
      have h31 : bits BinOp.and IntKind.u64 (nb' : Int) 31 = (nb' : Int):=by
       have:=u64_and_nat nb' 31 (by omega) (by omega)
       rw [show (31 : Nat) = 2 ^ 5 - 1 by rfl,Nat.and_two_pow_sub_one_eq_mod,Nat.mod_eq_of_lt (by omega)] at this
       exact this
      have HN:=Lib.hid hnext
      have HOR:=Lib.hid hor
      clear hb1 hnext hs1 he1 hor hy hvx HX
      go_wp2_with fail
      rw [HOR.out]
      go_roundg (64 - (nb' + 8))
      case measure => have:=HK'.out;omega
      case rel =>
       refine ⟨nb' + 8,_,p' + 1,B' ++ lsb y 8,by go_num,rfl,by rw [List.length_append,HBL'.out,length_lsb],?_,by omega,by omega,by omega,HN.out,rfl⟩
       rw [val_append,val_lsb,HBL'.out,HBX'.out,Nat.mod_eq_of_lt (by simpa using hy8)]
     ·obtain ⟨hxe,rfl⟩:=HSH'.out.short (by omega) (by have:=HZL.out;rw [HBL'.out];omega)
      have HX:=Lib.hid (readByte_end R sb so cap src A wi HSH'.out.sc HSH'.out.ends.eof (fun e => hER (e ▸ .inl rfl)))
      go_wp2_with fail
      refine HX.out.mono ?_
      rintro e w1 ⟨rfl,hs1,he1⟩
      have hb1:=HB'.out.ext he1 (fun e => hFR e)
      have hc3 : w1.cell? ⟨F,3,none⟩ = some (.int .u32 (val BB : Nat)):=by rw [hb1.cell,HSM'.out.2 3 (by omega)];exact HB.out.b
      have hc4 : w1.cell? ⟨F,4,none⟩ = some (.int .u64 BB.length):=by rw [hb1.cell,HSM'.out.2 4 (by omega)];exact HB.out.nb
      have hf1:=hb1.free
      have hfin:=fun X Y => HSH'.out.over he1 hs1 hFR hFs hxe X Y (Z:=Z) (BB0:=BB) (s:=s)
      have HE1:=Lib.hid (HSH'.out.ends.ext he1 (fun k hk e => hER (e ▸ hk)))
      have HFIN:=Lib.hid hfin
      clear hb1 hfin hs1 he1 HX
      go_wp2_with fail
      have hE2:=HE1.out.ext (((Ext.refl (fun k => k = F) w1).only (o:=3) (.int .u32 x')).only (o:=4) (.int .u64 nb')) (fun k hk e => hEF (e ▸ hk))
      refine (noEOF_eof A U _ hE2.eof hE2.early).mono ?_
      rintro e w' ⟨rfl,rfl⟩
      clear hE2
      go_wp2_with fail
      go_ret2
      have:=HFIN.out (.int .u32 x') (.int .u64 nb')
      exact this
    ·have hge2 : ¬ (nb' < n):=by omega
     go_wp2_with fail
     go_meet
     case rel => exact ⟨nb',x',p',B',rfl,rfl,HBL'.out,HBX'.out,hgn,hnb',hge,fun h => hstep (by omega),HSH'.out⟩
  obtain ⟨nb',x',p',B',rfl,rfl,hbl',hbx',hn',hnb',hge,hst,hsh'⟩:=hcut
  obtain ⟨wi,rfl⟩ : ∃ wi : World,wi = wc:=⟨_,rfl⟩
  obtain ⟨t,hit,htt⟩:=hsh'.hits HG.out (by rw [HL.out];exact hs) HZA.out.symm HL.out.symm
  rw [hbx'] at hit
  rw [hbl'] at htt
  have HBL':=Lib.hid hbl';have HBX':=Lib.hid hbx';have HSH':=Lib.hid hsh';have HIT:=Lib.hid hit
  have hlk:=hsh'.ht.look hit
  have hvx : x' < 2 ^ nb':=by rw [← hbx',← hbl'];exact val_lt B'
  have hpw : (2 : Nat) ^ nb' ≤ 2 ^ 23:=Nat.pow_le_pow_right (by omega) hnb'
  have hx32 : x' < 8388608:=by omega
  have ha511 : bits BinOp.and IntKind.u32 (x' : Int) 511 = ((x' % 512 : Nat) : Int):=u32_low x' 9 (by omega) (by omega)
  have hx512 : x' % 512 < 512:=Nat.mod_lt _ (by omega)
  obtain ⟨xi,hxi⟩ : ∃ y,x' % 512 = y:=⟨_,rfl⟩
  have ht400 : t < 400:=by have:=lt_of_len hit.1;omega
  obtain ⟨lt,hlt⟩ : ∃ y,len lens t = y:=⟨_,rfl⟩
  obtain ⟨cv,hcv⟩ : ∃ y,t * 16 + lt = y:=⟨_,rfl⟩
  rw [hlt,hxi] at hlk
  rw [hlt] at htt
  rw [hcv] at hlk
  rw [hxi] at ha511 hx512
  have hlt15 : lt ≤ 15:=by rw [← hlt];exact len_le HG.out.mem t
  have hlt0 : 0 < lt:=by rw [← hlt];exact hit.1
  have hcv32 : cv < 100000:=by omega
  have ha15 : bits BinOp.and IntKind.u32 (cv : Int) 15 = (lt : Int):=by
   have:=u32_low cv 4 (by omega) (by omega)
   rw [show cv % 2 ^ 4 = lt by omega] at this
   exact this
  have HLT:=Lib.hid hlt;have HCV:=Lib.hid hcv;have HXI:=Lib.hid hxi
  clear hbl' hbx' hsh' hit hvx hpw hlt HSH hcv hxi
  have hx0 : (0 : Int) ≤ (xi : Int):=by omega
  have hx5 : (xi : Int) < 512:=by omega
  have HFINAL : Hid (lt ≤ nb' → t = s ∧ lt = l):=Lib.hid fun h => by
   rcases htt with ⟨h1,h2⟩ | ⟨h1,h2⟩
   ·subst h2;exact ⟨rfl,by rw [← HLT.out];exact HL.out⟩
   ·omega
  have hmax : lt ≤ max mn l:=by
   rcases htt with ⟨h1,h2⟩ | ⟨h1,h2⟩
   ·subst h2;have e1:=HLT.out;have e2:=HL.out;omega
   ·omega
  clear htt
  obtain ⟨cf,zf,hbF,hsF,hzF⟩:=HSH'.out.blk
  have hc3 : wi.cell? ⟨F,3,none⟩ = some (.int .u32 (val BB : Nat)):=by rw [hbF.cell,hsF.2 3 (by omega)];exact HB.out.b
  have hc4 : wi.cell? ⟨F,4,none⟩ = some (.int .u64 BB.length):=by rw [hbF.cell,hsF.2 4 (by omega)];exact HB.out.nb
  have hf1:=hbF.free
  have ha31 : bits BinOp.and IntKind.u64 (lt : Int) 31 = (lt : Int):=by
   have:=u64_and_nat lt 31 (by omega) (by omega)
   rw [show (31 : Nat) = 2 ^ 5 - 1 by rfl,Nat.and_two_pow_sub_one_eq_mod,Nat.mod_eq_of_lt (by omega)] at this
   exact this
  clear hbF hsF hzF
  rcases hlk with ⟨h9,hl1⟩ | ⟨h9,v,m,nl,Lb,lcap,gv,hm6,hv,hv2,hl1,hl2,hl3,hl4,hl5⟩
  ·rcases Nat.lt_or_ge nb' lt with hcont | hfin
   ·have hq : ¬ (lt ≤ nb'):=by omega
    go_wp2_with fail
    go_roundg (200 - 2 * nb' - 1)
    case measure => have:=HK.out;split at this <;> omega
    case rel => exact ⟨lt,nb',x',p',B',rfl,rfl,rfl,HBL'.out,HBX'.out,hmax,hnb',HSH'.out,by rw [if_pos hcont]⟩
   ·have hq : ((lt : Int) == 0) = false:=by simp;omega
    go_wp2_with fail
    go_ret2
    obtain ⟨hts,hll'⟩:=HFINAL.out hfin
    have e1 : ((cv : Int) / 16) = (s : Int):=by have:=HCV.out;omega
    have e2 : ((x' : Int) / 2 ^ lt) = ((x' / 2 ^ lt : Nat) : Int):=by simp
    have e3 : (nb' : Int) - (lt : Int) = ((nb' - lt : Nat) : Int):=by omega
    have hd:=HSH'.out.done hFR hFs HN0.out.symm HZA.out.symm HL.out.symm (by rw [HBL'.out];omega) (b3:=x' / 2 ^ l) (by rw [HBX'.out]) (by have:=HCS.out;omega) (s:=s)
    rw [HBL'.out,← hll',← e1] at hd
    rw [e2,e3,← hll']
    exact hd
  ·obtain ⟨dv,hdv⟩ : ∃ y,v * 16 + 10 = y:=⟨_,rfl⟩
   obtain ⟨nk,hnk⟩ : ∃ y,2 ^ m = y:=⟨_,rfl⟩
   obtain ⟨mk,hmk⟩ : ∃ y,nk - 1 = y:=⟨_,rfl⟩
   obtain ⟨yi,hyi⟩ : ∃ y,x' / 512 % nk = y:=⟨_,rfl⟩
   have hpos : 0 < 2 ^ m:=Nat.two_pow_pos m
   have hp6 : (2 : Nat) ^ m ≤ 2 ^ 6:=Nat.pow_le_pow_right (by omega) hm6
   have hyl : yi < nk:=by rw [← hyi];exact Nat.mod_lt _ (by omega)
   have hand : bits BinOp.and IntKind.u32 ((x' : Int) / 512) (mk : Int) = (yi : Int):=by
    have:=u32_low (x' / 512) m (by omega) (by omega)
    rw [hnk,hmk,hyi] at this
    rw [← this];simp
   have hd15 : bits BinOp.and IntKind.u32 (dv : Int) 15 = 10:=by
    have:=u32_low dv 4 (by omega) (by omega)
    rw [show dv % 2 ^ 4 = 10 by omega] at this
    exact this
   have hd16 : (dv : Int) / 16 = (v : Int):=by omega
   have hvl : (v : Int) < (nl : Int):=by omega
   have hyl' : (yi : Int) < (nk : Int):=by omega
   have hy0 : (0 : Int) ≤ (yi : Int):=by omega
   have hv0 : (0 : Int) ≤ (v : Int):=by omega
   rw [hdv] at hl1
   rw [hnk,hmk] at hl3
   rw [hnk] at hl4 hl5
   rw [hyi] at hl5
   have HDV:=Lib.hid hdv;have HNK:=Lib.hid hnk;have HMK:=Lib.hid hmk;have HYI:=Lib.hid hyi
   clear hdv hnk hmk hyi hpos hp6
   rcases Nat.lt_or_ge nb' lt with hcont | hfin
   ·have hq : ¬ (lt ≤ nb'):=by omega
    go_wp2_with fail
    go_quiet (fail)
    go_wp2_with fail
    go_roundg (200 - 2 * nb' - 1)
    case measure => have:=HK.out;split at this <;> omega
    case rel => exact ⟨lt,nb',x',p',B',rfl,rfl,rfl,HBL'.out,HBX'.out,hmax,hnb',HSH'.out.drewN _,by rw [if_pos hcont]⟩
   ·have hq : ((lt : Int) == 0) = false:=by simp;omega
    go_wp2_with fail
    go_quiet (fail)
    go_wp2_with fail
    go_ret2
    obtain ⟨hts,hll'⟩:=HFINAL.out hfin
    have e1 : ((cv : Int) / 16) = (s : Int):=by have:=HCV.out;omega
    have e2 : ((x' : Int) / 2 ^ lt) = ((x' / 2 ^ lt : Nat) : Int):=by simp
    have e3 : (nb' : Int) - (lt : Int) = ((nb' - lt : Nat) : Int):=by omega
    have hd:=(HSH'.out.drewN nq).done hFR hFs HN0.out.symm HZA.out.symm HL.out.symm (by rw [HBL'.out];omega) (b3:=x' / 2 ^ l) (by rw [HBX'.out]) (by have:=HCS.out;omega) (s:=s)
    rw [HBL'.out,← hll',← e1] at hd
    rw [e2,e3,← hll']
    exact hd
end Go.Proofs.YthpapbilhjobnaaGreatDoor
namespace Go.Proofs.YthpapbilhjobnaaGreatDoor.Pu
def mnStep (m n : Nat) : Nat:=if n = 0 then m else if m = 0 then n else if n < m then n else m
def mxStep (m n : Nat) : Nat:=if m < n then n else m
def mnOf (l : List Nat) : Nat:=l.foldl mnStep 0
def mxOf (l : List Nat) : Nat:=l.foldl mxStep 0
theorem mnOf_snoc (l : List Nat) (x : Nat) : mnOf (l ++ [x]) = mnStep (mnOf l) x:=by simp [mnOf]
theorem mxOf_snoc (l : List Nat) (x : Nat) : mxOf (l ++ [x]) = mxStep (mxOf l) x:=by simp [mxOf]
theorem take_snoc_nat (l : List Nat) (k : Nat) (h : k < l.length) : l.take (k + 1) = l.take k ++ [l[k]]:=List.take_succ_eq_append_getElem h
theorem mxOf_ge (l : List Nat) : ∀ x ∈ l,x ≤ mxOf l:=by
 have : ∀ (l : List Nat) (m : Nat),m ≤ l.foldl mxStep m ∧ ∀ x ∈ l,x ≤ l.foldl mxStep m:=by
  intro l
  induction l with
  | nil => intro m;exact ⟨Nat.le_refl _,by simp⟩
  | cons y l ih =>
   intro m
   obtain ⟨h1,h2⟩:=ih (mxStep m y)
   have h3 : m ≤ mxStep m y ∧ y ≤ mxStep m y:=by unfold mxStep;split <;> omega
   refine ⟨Nat.le_trans h3.1 h1,fun x hx => ?_⟩
   rcases List.mem_cons.1 hx with rfl | hx
   ·exact Nat.le_trans h3.2 h1
   ·exact h2 x hx
 exact (this l 0).2
theorem mxOf_le (l : List Nat) (b : Nat) (h : ∀ x ∈ l,x ≤ b) : mxOf l ≤ b:=by
 have : ∀ (l : List Nat) (m : Nat),m ≤ b → (∀ x ∈ l,x ≤ b) → l.foldl mxStep m ≤ b:=by
  intro l
  induction l with
  | nil => intro m hm _;exact hm
  | cons y l ih =>
   intro m hm h
   refine ih _ ?_ (fun x hx => h x (List.mem_cons_of_mem _ hx))
   have:=h y (by simp)
   unfold mxStep;split <;> omega
 exact this l 0 (by omega) h
theorem mxOf_mem (l : List Nat) : mxOf l = 0 ∨ mxOf l ∈ l:=by
 have : ∀ (l : List Nat) (m : Nat),l.foldl mxStep m = m ∨ l.foldl mxStep m ∈ l:=by
  intro l
  induction l with
  | nil => intro m;exact .inl rfl
  | cons y l ih =>
   intro m
   rcases ih (mxStep m y) with h | h
   ·rw [List.foldl_cons,h]
    unfold mxStep
    split
    ·right;simp
    ·left;rfl
   ·right;rw [List.foldl_cons];exact List.mem_cons_of_mem _ h
 exact this l 0
theorem mnOf_le (l : List Nat) : ∀ x ∈ l,0 < x → 0 < mnOf l ∧ mnOf l ≤ x:=by
 have : ∀ (l : List Nat) (m : Nat),(0 < m → 0 < l.foldl mnStep m ∧ l.foldl mnStep m ≤ m) ∧ ∀ x ∈ l,0 < x → 0 < l.foldl mnStep m ∧ l.foldl mnStep m ≤ x:=by
  intro l
  induction l with
  | nil => intro m;exact ⟨fun h => ⟨h,Nat.le_refl _⟩,by simp⟩
  | cons y l ih =>
   intro m
   obtain ⟨h1,h2⟩:=ih (mnStep m y)
   have h3 : (0 < m → 0 < mnStep m y ∧ mnStep m y ≤ m) ∧ (0 < y → 0 < mnStep m y ∧ mnStep m y ≤ y):=by unfold mnStep;split <;> (try split) <;> (try split) <;> omega
   refine ⟨fun hm => ?_,fun x hx h0 => ?_⟩
   ·have:=h3.1 hm;have:=h1 this.1;simp only [List.foldl_cons];omega
   ·rcases List.mem_cons.1 hx with rfl | hx
    ·have:=h3.2 h0;have:=h1 this.1;simp only [List.foldl_cons];omega
    ·exact h2 x hx h0
 exact (this l 0).2
theorem mnOf_le_mx (l : List Nat) : mnOf l ≤ mxOf l ∧ (mnOf l = 0 → mxOf l = 0):=by
 have : ∀ (l : List Nat) (m x : Nat),m ≤ x → (m = 0 → x = 0) → l.foldl mnStep m ≤ l.foldl mxStep x ∧ (l.foldl mnStep m = 0 → l.foldl mxStep x = 0):=by
  intro l
  induction l with
  | nil => intro m x h1 h2;exact ⟨h1,h2⟩
  | cons y l ih =>
   intro m x h1 h2
   refine ih _ _ ?_ ?_ <;> unfold mnStep mxStep <;> (repeat' split) <;> omega
 exact this l 0 0 (Nat.le_refl _) (fun h => h)
theorem mx_zero {l : List Nat} (h : mxOf l = 0) (s : Nat) : len l s = 0:=by
 unfold len
 rcases Nat.lt_or_ge s l.length with h1 | h1
 ·have:=mxOf_ge l _ (List.getElem_mem h1)
  simp [h1];omega
 ·simp [List.getElem?_eq_none h1]
theorem mn_le_len {l : List Nat} {s : Nat} (h : 0 < len l s) : mnOf l ≤ len l s:=by
 have hs:=lt_of_len h
 have e:=len_eq hs
 rw [e] at h ⊢
 exact (mnOf_le l _ (List.getElem_mem hs) h).2
theorem cnt_above {l : List Nat} {n : Nat} (h : mxOf l < n) : cnt l n = 0:=by
 unfold cnt
 rw [if_neg (by omega)]
 refine List.count_eq_zero.2 fun hm => ?_
 have:=mxOf_ge l n hm
 omega
theorem cnt_below {l : List Nat} {n : Nat} (h : n < mnOf l) : cnt l n = 0:=by
 unfold cnt
 split
 ·rfl
 ·refine List.count_eq_zero.2 fun hm => ?_
  have:=(mnOf_le l n hm (by omega)).2
  omega
theorem first_below {l : List Nat} {n : Nat} (h : n ≤ mnOf l) : first l n = 0:=by
 induction n with
 | zero => rfl
 | succ n ih => rw [first_step,ih (by omega),cnt_below (by omega)]
theorem Lone.mx {l : List Nat} (h : Lone l) : mxOf l = 1 ∧ first l 1 + cnt l 1 = 1:=by
 have hc:=h.count
 obtain ⟨s,hs,h1⟩:=h
 have h2:=h1 s
 rw [if_pos rfl,len_eq hs] at h2
 have h3:=mxOf_ge l _ (List.getElem_mem hs)
 have h4:=mxOf_le l 1 (fun x hx => by
  obtain ⟨t,ht,rfl⟩:=List.getElem_of_mem hx
  have:=h1 t
  rw [len_eq ht] at this
  split at this <;> omega)
 refine ⟨by omega,?_⟩
 simp [first,cnt,hc]
theorem Good.end_ {l : List Nat} (h : Good l) : 0 < mxOf l ∧ (first l (mxOf l) + cnt l (mxOf l) = 2 ^ mxOf l ∨ (mxOf l = 1 ∧ first l (mxOf l) + cnt l (mxOf l) = 1)):=by
 rcases h with h | h
 ·have h15:=mxOf_le l 15 h.1
  have:=h.last h15 (fun n hn => cnt_above hn)
  refine ⟨?_,.inl this⟩
  rcases Nat.eq_zero_or_pos (mxOf l) with h0 | h0
  ·exfalso
   rw [h0] at this
   simp [first,cnt] at this
  ·exact h0
 ·have:=h.mx
  exact ⟨by omega,.inr ⟨this.1,by rw [this.1];exact this.2⟩⟩
def nxt (lens : List Nat) (k j : Nat) : Nat:=if j = 0 then 0 else if mxOf lens < j then 0 else first lens j + (lens.take k).count j
theorem nxt_code {lens : List Nat} {k : Nat} (h : 0 < len lens k) : nxt lens k (len lens k) = codeOf lens k:=by
 have hk:=lt_of_len h
 have:=mxOf_ge lens _ (List.getElem_mem hk)
 rw [← len_eq hk] at this
 unfold nxt
 rw [if_neg (by omega),if_neg (by omega)]
 rfl
theorem nxt_next {lens : List Nat} {k : Nat} (h : 0 < len lens k) (j : Nat) : nxt lens (k + 1) j = if j = len lens k then nxt lens k j + 1 else nxt lens k j:=by
 have hk:=lt_of_len h
 have hm:=mxOf_ge lens _ (List.getElem_mem hk)
 have e:=len_eq hk
 unfold nxt
 rw [take_snoc_nat lens k hk,List.count_append]
 by_cases h0 : j = 0
 ·rw [if_pos h0,if_neg (by omega),if_pos h0]
 ·rw [if_neg h0,if_neg h0]
  by_cases h1 : mxOf lens < j
  ·rw [if_pos h1,if_pos h1,if_neg (by omega)]
  ·rw [if_neg h1,if_neg h1,e]
   by_cases h2 : j = lens[k]
   ·rw [if_pos h2,h2];simp;omega
   ·rw [if_neg h2]
    have : [lens[k]].count j = 0:=List.count_eq_zero.2 (by simp;exact fun e => h2 e)
    omega
theorem nxt_skip {lens : List Nat} {k : Nat} (hk : k < lens.length) (h : len lens k = 0) (j : Nat) : nxt lens (k + 1) j = nxt lens k j:=by
 have e:=len_eq hk
 unfold nxt
 rw [take_snoc_nat lens k hk,List.count_append]
 split
 ·rfl
 ·split
  ·rfl
  ·have : [lens[k]].count j = 0:=List.count_eq_zero.2 (by simp;omega)
   omega
theorem nxt_le {lens : List Nat} (hg : Good lens) (k j : Nat) : nxt lens k j ≤ 65536:=by
 unfold nxt
 split
 ·omega
 ·split
  ·omega
  ·rename_i h0 h1
   have hc : (lens.take k).count j ≤ cnt lens j:=by
    unfold cnt
    rw [if_neg h0]
    exact List.Sublist.count_le _ (List.take_sublist _ _)
   have h15:=mxOf_le lens 15 hg.mem
   rcases hg with hg | hg
   ·have h2:=first_mono lens j (15 - j)
    rw [show j + (15 - j) + 1 = 16 by omega,hg.2] at h2
    have : first lens j + cnt lens j ≤ (first lens j + cnt lens j) * 2 ^ (15 - j + 1):=Nat.le_mul_of_pos_right _ (Nat.two_pow_pos _)
    omega
   ·have:=hg.mx
    have hj : j = 1:=by omega
    subst hj
    omega
def cts (lens : List Nat) (k j : Nat) : Nat:=if j = 0 then 0 else (lens.take k).count j
theorem cts_next {lens : List Nat} {k : Nat} (hk : k < lens.length) (j : Nat) : cts lens (k + 1) j = if j = lens[k] ∧ lens[k] ≠ 0 then cts lens k j + 1 else cts lens k j:=by
 unfold cts
 rw [take_snoc_nat lens k hk,List.count_append]
 by_cases h0 : j = 0
 ·rw [if_pos h0,if_pos h0,if_neg (by omega)]
 ·rw [if_neg h0,if_neg h0]
  by_cases h2 : j = lens[k]
  ·rw [if_pos ⟨h2,by omega⟩,h2];simp
  ·rw [if_neg (fun e => h2 e.1)]
   have : [lens[k]].count j = 0:=List.count_eq_zero.2 (by simp;exact fun e => h2 e)
   omega
theorem cts_end (lens : List Nat) (j : Nat) : cts lens lens.length j = cnt lens j:=by
 unfold cts cnt;rw [List.take_length]
theorem cts_le (lens : List Nat) (k j : Nat) : cts lens k j ≤ lens.length:=by
 unfold cts
 split
 ·omega
 ·exact Nat.le_trans List.count_le_length (by simp;omega)
def nxs (lens : List Nat) (i j : Nat) : Nat:=if j < i then nxt lens 0 j else 0
theorem nxs_start (lens : List Nat) (j : Nat) : nxs lens (mnOf lens) j = 0:=by
 unfold nxs
 split
 ·unfold nxt
  split
  ·rfl
  ·split
   ·rfl
   ·rw [first_below (by omega)];simp
 ·rfl
theorem nxs_next (lens : List Nat) {i : Nat} (h0 : 0 < i) (h : i ≤ mxOf lens) (j : Nat) : nxs lens (i + 1) j = if j = i then first lens i else nxs lens i j:=by
 unfold nxs
 by_cases e : j = i
 ·subst e
  rw [if_pos (by omega),if_pos rfl]
  unfold nxt
  rw [if_neg (by omega),if_neg (by omega)];simp
 ·rw [if_neg e]
  by_cases h1 : j < i
  ·rw [if_pos (by omega),if_pos h1]
  ·rw [if_neg (by omega),if_neg h1]
theorem nxs_end (lens : List Nat) (j : Nat) : nxs lens (mxOf lens + 1) j = nxt lens 0 j:=by
 unfold nxs
 split
 ·rfl
 ·unfold nxt
  rw [if_neg (by omega),if_pos (by omega)]
theorem nxt_link {lens : List Nat} (h : 9 < mxOf lens) : nxt lens 0 10 / 2 = linkOf lens:=by
 unfold nxt linkOf
 rw [if_neg (by omega),if_neg (by omega)]
 simp only [List.take_zero,List.count_nil,Nat.add_zero]
 rw [show first lens 10 = 2 * (first lens 9 + cnt lens 9) from rfl]
 omega
theorem first_le {lens : List Nat} (hg : Good lens) (j : Nat) (hj : j ≤ 15) : first lens j + cnt lens j ≤ 65536:=by
 rcases hg with hg | hg
 ·have h2:=first_mono lens j (15 - j)
  rw [show j + (15 - j) + 1 = 16 by omega,hg.2] at h2
  have : first lens j + cnt lens j ≤ (first lens j + cnt lens j) * 2 ^ (15 - j + 1):=Nat.le_mul_of_pos_right _ (Nat.two_pow_pos _)
  omega
 ·have h1:=hg.mx
  have : ∀ n,first lens n + cnt lens n ≤ 2 ^ n:=by
   intro n
   induction n with
   | zero => simp [first,cnt]
   | succ n ih =>
    rcases Nat.eq_zero_or_pos n with h0 | h0
    ·subst h0;have:=h1.2;show first lens 1 + cnt lens 1 ≤ 2;omega
    ·rw [first_step,cnt_above (l:=lens) (n:=n + 1) (by omega),Nat.pow_succ];omega
  have:=this j
  have hp : 2 ^ j ≤ 2 ^ 15:=Nat.pow_le_pow_right (by omega) hj
  omega
theorem linkOf_le {lens : List Nat} (hg : Good lens) (h : 9 < mxOf lens) : linkOf lens < 512:=by
 have hm : mxOf lens ∈ lens:=by
  rcases mxOf_mem lens with h0 | h0
  ·omega
  ·exact h0
 obtain ⟨s,hs,he⟩:=List.getElem_of_mem hm
 have hl : len lens s = mxOf lens:=by rw [len_eq hs];exact he
 have h1:=codeOf_shift_lt hg (s:=s) (by omega)
 have h2:=codeOf_shift_ge (lens:=lens) (s:=s) (by omega)
 omega
end Go.Proofs.YthpapbilhjobnaaGreatDoor.Pu
namespace Go.Proofs.YthpapbilhjobnaaGreatDoor.Pu
def RestOf (all : List UInt8) (fin : Bool) (pos i : Nat) (Z Y : List Bool) : Prop :=
 (pos + Y.length) % 8 = 0 ∧ ((fin = true ∧ i = all.length ∧ Y = Z) ∨ (fin = false ∧ ∃ X,Ahead all pos i X ∧ Y = X ++ Z))
theorem Ahead.open_ {all : List UInt8} {pos i : Nat} {X Z : List Bool} (h : Ahead all pos i X) (h8 : (pos + (X ++ Z).length) % 8 = 0) :
  ∃ (fin : Bool) (B : List Bool) (j : Nat) (Y : List Bool),X ++ Z = fin::(B ++ Y) ∧ IsBlock all (pos + 1) i j B ∧ RestOf all fin (pos + 1 + B.length) j Z Y:=by
 cases h with
 | last hb =>
  rename_i B
  refine ⟨true,B,all.length,Z,rfl,hb,?_,.inl ⟨rfl,rfl,rfl⟩⟩
  simp at h8
  rw [← h8];congr 1;omega
 | more hb h =>
  rename_i j B X
  refine ⟨false,B,j,X ++ Z,by simp,hb,?_,.inr ⟨rfl,X,h,rfl⟩⟩
  simp at h8
  rw [← h8];congr 1;simp;omega
theorem bits_take {BB S Y : List Bool} {x n : Nat} (h : BB ++ S = lsb x n ++ Y) (hn : n ≤ BB.length) : val BB % 2 ^ n = x % 2 ^ n ∧ BB.drop n ++ S = Y:=by
 have h1:=congrArg (List.take n) h
 rw [List.take_append_of_le_length hn,List.take_left' (length_lsb x n)] at h1
 have h2:=congrArg (List.drop n) h
 rw [List.drop_append_of_le_length hn,List.drop_left' (length_lsb x n)] at h2
 exact ⟨by rw [← val_take,h1,val_lsb],h2⟩
theorem bitsOf_split {L l : List UInt8} {Y : List Bool} (h : bitsOf L = bitsOf l ++ Y) : ∃ L',L = l ++ L' ∧ bitsOf L' = Y:=by
 induction l generalizing L with
 | nil => exact ⟨L,rfl,by simpa [bitsOf] using h⟩
 | cons x l ih =>
  cases L with
  | nil => simp [bitsOf] at h;have:=congrArg List.length h.1;simp at this
  | cons y L =>
   simp only [bitsOf,List.append_assoc] at h
   obtain ⟨h1,h2⟩:=List.append_inj h (by simp)
   have hx : y = x:=by
    have:=lsb_inj (k:=8) (by have:=y.toNat_lt;omega) (by have:=x.toNat_lt;omega) h1
    exact UInt8.toNat_inj.1 this
   obtain ⟨L',rfl,h3⟩:=ih h2
   exact ⟨L',by rw [hx];rfl,h3⟩
theorem lsb_append (x j k : Nat) : lsb x (j + k) = lsb x j ++ lsb (x / 2 ^ j) k:=by
 induction j generalizing x with
 | zero => simp [lsb]
 | succ j ih =>
  rw [show j + 1 + k = (j + k) + 1 by omega]
  simp only [lsb,List.cons_append]
  rw [ih,Nat.div_div_eq_div_mul,Nat.pow_succ,Nat.mul_comm 2]
theorem lsb16 (x : Nat) (hx : x < 65536) : lsb x 16 = bitsOf [UInt8.ofNat (x % 256),UInt8.ofNat (x / 256)]:=by
 have e1 : (UInt8.ofNat (x % 256)).toNat = x % 256:=by simp
 have e2 : (UInt8.ofNat (x / 256)).toNat = x / 256:=by simp;omega
 simp only [bitsOf,e1,e2,List.append_nil]
 rw [show (16 : Nat) = 8 + 8 by rfl,lsb_append,← lsb_mod x 8]
theorem align_bits {BB Y : List Bool} {L : List UInt8} {k : Nat} (h : BB ++ bitsOf L = List.replicate k false ++ Y) (hB : BB.length < 8) (hk : k < 8) (h8 : Y.length % 8 = 0) : bitsOf L = Y:=by
 have hl:=congrArg List.length h
 simp at hl
 have : BB.length = k:=by omega
 exact (List.append_inj h (by simpa using this)).2
theorem end_bits {BB : List Bool} {L tail : List UInt8} {k : Nat} (h : BB ++ bitsOf L = List.replicate k false ++ bitsOf tail) (hB : BB.length < 8) (hk : k < 8) : L = tail:=by
 have:=align_bits h hB hk (by simp)
 refine bitsOf_inj ?_ this
 have:=congrArg List.length this
 simp at this
 omega
theorem stored_open {all : List UInt8} {BB Y : List Bool} {L : List UInt8} {pos i j k : Nat} (h : BB ++ bitsOf L = List.replicate k false ++ (lsb (j - i) 16 ++ (lsb (65535 - (j - i)) 16 ++ (bitsOf ((all.take j).drop i) ++ Y)))) (hB : BB.length < 8) (hk : k < 8)
  (hpos : (pos + k) % 8 = 0) (h8 : (pos + k + 32 + 8 * ((all.take j).drop i).length + Y.length) % 8 = 0) (hn : j - i ≤ 65535) :
  ∃ L',L = [UInt8.ofNat ((j - i) % 256),UInt8.ofNat ((j - i) / 256),UInt8.ofNat ((65535 - (j - i)) % 256),UInt8.ofNat ((65535 - (j - i)) / 256)] ++ L' ∧ bitsOf L' = bitsOf ((all.take j).drop i) ++ Y:=by
 have h1:=align_bits h hB hk (by simp at h8 ⊢;omega)
 rw [lsb16 _ (by omega),lsb16 _ (by omega),← List.append_assoc,← bitsOf_append] at h1
 exact bitsOf_split h1
def HistOk (ok : Prop) (all : List UInt8) (i : Nat) (H : List UInt8) : Prop:=ok → H = all.take i
theorem HistOk.tok {ok : Prop} {all : List UInt8} {i : Nat} {H : List UInt8} {t : Tok} (h : HistOk ok all i H) (ht : t.fits all i) : HistOk ok all (i + t.step) (t.run H) ∧ (ok → t.can H) :=
 ⟨fun o => by rw [h o];exact (Tok.run_fits ht).2,fun o => by rw [h o];exact (Tok.run_fits ht).1⟩
theorem HistOk.raw {ok : Prop} {all : List UInt8} {i n : Nat} {H : List UInt8} (h : HistOk ok all i H) : HistOk ok all (i + n) (H ++ ((all.take (i + n)).drop i)):=by
 intro o
 rw [h o]
 refine List.ext_getElem? fun k => ?_
 rw [List.getElem?_take]
 rcases Nat.lt_or_ge k (all.take i).length with hk | hk
 ·rw [List.getElem?_append_left hk,List.getElem?_take]
  simp at hk
  rw [if_pos (by omega),if_pos (by omega)]
 ·rw [List.getElem?_append_right hk,List.getElem?_drop,List.getElem?_take]
  simp at hk ⊢
  rcases Nat.lt_or_ge i all.length with h1 | h1
  ·rw [Nat.min_eq_left (by omega),show i + (k - i) = k by omega]
   by_cases h2 : k - i < n
   ·rw [if_pos h2,if_pos (by omega)]
   ·rw [if_neg h2,if_neg (by omega)]
  ·rw [Nat.min_eq_right (by omega)]
   have a : all[i + (k - all.length)]? = none:=List.getElem?_eq_none (by omega)
   have b : all[k]? = none:=List.getElem?_eq_none (by omega)
   rw [a,b];simp
end Go.Proofs.YthpapbilhjobnaaGreatDoor.Pu
namespace Go.Proofs.YthpapbilhjobnaaGreatDoor
open Go.RowKit Pu
theorem Ext.setCells {M : Nat → Prop} {a : World} {b : Nat} (hp : b < a.heap.size → M b) : ∀ (vs : List Value) (o : Nat) (w : World),Ext M a w → Ext M a (w.setCells b o vs)
 | [],_,_,h => h
 | v::r,o,w,h => Ext.setCells hp r (o + 1) _ (h.setCell (p:=⟨b,o,none⟩) hp v)
theorem Blk.setCells {b : Nat} {t : TypeId} : ∀ (vs : List Value) (o : Nat) (w : World) (c : Array Value),Blk w b c t → o + vs.length ≤ c.size →
  ∃ c',Blk (w.setCells b o vs) b c' t ∧ Same (fun k => o ≤ k ∧ k < o + vs.length) c c' ∧ (∀ j v,vs[j]? = some v → c'[o + j]? = some v)
 | [],o,w,c,h,_ => ⟨c,h,Same.refl _ _,fun j v hv => by simp at hv⟩
 | x::r,o,w,c,h,hl => by
  simp only [List.length_cons] at hl
  obtain ⟨c',h1,h2,h3⟩:=Blk.setCells r (o + 1) (w.setCell ⟨b,o,none⟩ x) _ (h.set o x) (by simp;omega)
  refine ⟨c',h1,⟨by simpa using h2.1,fun k hk => ?_⟩,fun j v hv => ?_⟩
  ·simp only [List.length_cons] at hk
   rw [h2.2 k (by omega),Array.getElem?_setIfInBounds,if_neg (by omega)]
  ·cases j with
   | zero =>
    simp only [List.getElem?_cons_zero,Option.some.injEq] at hv
    subst hv
    rw [Nat.add_zero,h2.2 o (by omega),Array.getElem?_setIfInBounds,if_pos rfl,if_pos (by omega)]
   | succ j =>
    rw [show o + (j + 1) = o + 1 + j by omega]
    exact h3 j v (by simpa using hv)
theorem Blk.there {w : World} {b : Nat} {c : Array Value} {t : TypeId} (h : Blk w b c t) (o n : Nat) (hl : o + n ≤ c.size) : w.there b o n:=by
 intro j hj
 refine ⟨?_,h.free _⟩
 rw [h.cell,Array.getElem?_eq_getElem (by omega)];rfl
theorem wpList_build_at {P : Program} {ops : Array Oper} {rest : List Oper} {op : Oper} {a : Act} {w : World} {Q : Exit → Act → World → Prop} (hgd : op.guard = none) (t : TypeId) (parts : Array (Nat × Operand)) (ho : op.op = .build t parts) (cells : Array Value)
  (hb : P.built t (parts.map fun (i,x) => (i,a.eval x)).toList = some cells) (h : wpList P ops Q rest (a.put op.dst (.agg cells)) w) : wpList P ops Q (op::rest) a w :=
 wpList_plain hgd fun _ hK => by
  unfold Oper.wp execOp
  simp only [ho,Sem.run_bind,run_build w t _ cells hb,Result.andThen_ok]
  exact hK _ _ h
def z139l : List Value:=Value.int .i64 0::(List.replicate 512 (Value.int .u32 0) ++ [Value.slice none 0 0,Value.int .u32 0])
def z139 : Array Value:=z139l.toArray
theorem built139 : Tryz.prog.built 139 [] = some z139:=by kernel_rfl
theorem size139 : (Tryz.prog.info? 139).map (·.size) = some z139.size:=by kernel_rfl
theorem z139_len : z139l.length = 515:=by simp only [z139l,List.length_cons,List.length_append,List.length_replicate,List.length_nil]
theorem z139_size : z139.size = 515:=by unfold z139;rw [List.size_toArray];exact z139_len
theorem z139_one : z139.all (·.oneCell') = true:=by
 refine all_oneCell_toArray fun v hv => ?_
 simp only [z139l,List.mem_cons,List.mem_append,List.mem_replicate,List.not_mem_nil,or_false] at hv
 rcases hv with rfl | ⟨_,rfl⟩ | rfl | rfl <;> rfl
def arr (n : Nat) (f : Nat → Nat) : Array Value:=((List.range n).map fun j => IV (f j)).toArray
theorem arr_get (n : Nat) (f : Nat → Nat) (j : Nat) (h : j < n) : (arr n f)[j]? = some (.int .i64 (f j)):=by simp [arr,IV,h]
theorem arr_set (n : Nat) (f g : Nat → Nat) (i x : Nat) (h : ∀ j,j < n → g j = if j = i then x else f j) : (arr n f).setIfInBounds i (.int .i64 x) = arr n g:=by
 apply Array.ext
 ·simp [arr]
 ·intro j h1 h2
  have hj : j < n:=by simpa [arr] using h2
  rw [Array.getElem_setIfInBounds (by simpa [arr] using hj)]
  by_cases e : i = j
  ·subst e
   simp [arr,IV,h _ hj]
  ·simp [arr,IV,h _ hj,e,Ne.symm e]
theorem arr_congr (n : Nat) (f g : Nat → Nat) (h : ∀ j,j < n → g j = f j) : arr n g = arr n f:=by
 apply Array.ext
 ·simp [arr]
 ·intro j h1 h2
  have hj : j < n:=by simpa [arr] using h2
  simp [arr,h _ hj]
def arw (n : Nat) (f : Nat → Nat) : Array Value:=((List.range n).map fun j => Value.int .u32 (f j)).toArray
theorem arw_get (n : Nat) (f : Nat → Nat) (j : Nat) (h : j < n) : (arw n f)[j]? = some (.int .u32 (f j)):=by simp [arw,h]
theorem arw_set (n : Nat) (f g : Nat → Nat) (i x : Nat) (h : ∀ j,j < n → g j = if j = i then x else f j) : (arw n f).setIfInBounds i (.int .u32 x) = arw n g:=by
 apply Array.ext
 ·simp [arw]
 ·intro j h1 h2
  have hj : j < n:=by simpa [arw] using h2
  rw [Array.getElem_setIfInBounds (by simpa [arw] using hj)]
  by_cases e : i = j
  ·subst e
   simp [arw,h _ hj]
  ·simp [arw,h _ hj,e,Ne.symm e]
def fillTo (f : Nat → Nat) (p r v off : Nat) : Nat → Nat:=fun x => if x % p = r ∧ x < off then v else f x
theorem fillTo_start (f : Nat → Nat) (p r v x : Nat) : fillTo f p r v r x = f x:=by
 unfold fillTo
 rw [if_neg]
 rintro ⟨h1,h2⟩
 have:=Nat.mod_le x p
 omega
theorem fillTo_step (f : Nat → Nat) (p r v off x : Nat) (hp : 0 < p) (h : off % p = r) : fillTo f p r v (off + p) x = if x = off then v else fillTo f p r v off x:=by
 unfold fillTo
 by_cases e : x = off
 ·rw [if_pos e,if_pos ⟨by rw [e];exact h,by omega⟩]
 ·rw [if_neg e]
  by_cases h1 : x % p = r
  ·by_cases h2 : x < off
   ·rw [if_pos ⟨h1,by omega⟩,if_pos ⟨h1,h2⟩]
   ·rw [if_neg,if_neg (fun h => h2 h.2)]
    rintro ⟨_,h3⟩
    have a:=Nat.div_add_mod x p
    have b:=Nat.div_add_mod off p
    rw [h1] at a
    rw [h] at b
    have h4 : x / p = off / p:=by
     apply Nat.le_antisymm
     ·refine Nat.le_of_not_lt fun h5 => ?_
      have h6:=Nat.mul_le_mul_left p (show off / p + 1 ≤ x / p from h5)
      rw [Nat.mul_add,Nat.mul_one] at h6
      omega
     ·exact Nat.div_le_div_right (by omega)
    rw [h4] at a
    omega
  ·rw [if_neg (fun h => h1 h.1),if_neg (fun h => h1 h.1)]
def CH (c : Array Value) (ho : Nat) (ch : Nat → Nat) : Prop:=∀ x,x < 512 → c[ho + 1 + x]? = some (.int .u32 (ch x))
theorem CH.set {c : Array Value} {ho : Nat} {f g : Nat → Nat} (h : CH c ho f) {i v : Nat} (hi : i < 512) (hg : ∀ x,x < 512 → g x = if x = i then v else f x) : CH (c.setIfInBounds (ho + 1 + i) (.int .u32 v)) ho g:=by
 intro x hx
 rw [hg x hx,Array.getElem?_setIfInBounds]
 by_cases e : x = i
 ·rw [if_pos (by omega),if_pos (get_lt (h i hi)),if_pos e]
 ·rw [if_neg (by omega),if_neg e,h x hx]
theorem CH.setOther {c : Array Value} {ho : Nat} {f : Nat → Nat} (h : CH c ho f) {k : Nat} (v : Value) (hk : k < ho + 1 ∨ ho + 513 ≤ k) : CH (c.setIfInBounds k v) ho f:=by
 intro x hx
 rw [Array.getElem?_setIfInBounds,if_neg (by omega),h x hx]
theorem CH.congr {c : Array Value} {ho : Nat} {f g : Nat → Nat} (h : CH c ho f) (hg : ∀ x,x < 512 → g x = f x) : CH c ho g:=fun x hx => by rw [hg x hx];exact h x hx
structure HD (c : Array Value) (ho : Nat) : Prop where
 min : ∃ m : Nat,c[ho]? = some (.int .i64 m)
 ch : ∃ f,CH c ho f
 lk : ∃ a n k,c[ho + 513]? = some (.slice a n k)
 msk : ∃ k : Int,c[ho + 514]? = some (.int .u32 k)
theorem HD.zero {c : Array Value} {ho : Nat} (h : ∀ j v,z139l[j]? = some v → c[ho + j]? = some v) : HD c ho ∧ c[ho]? = some (.int .i64 0):=by
 have h0:=h 0 _ rfl
 refine ⟨⟨⟨0,h0⟩,⟨fun _ => 0,fun x hx => ?_⟩,⟨none,0,0,h 513 _ ?_⟩,⟨0,h 514 _ ?_⟩⟩,h0⟩
 ·rw [show ho + 1 + x = ho + (x + 1) by omega]
  exact h (x + 1) _ (by unfold z139l;rw [List.getElem?_cons_succ,List.getElem?_append_left (by rw [List.length_replicate];exact hx),List.getElem?_replicate,if_pos hx];rfl)
 ·unfold z139l;rw [List.getElem?_cons_succ,List.getElem?_append_right (by rw [List.length_replicate];omega),List.length_replicate];rfl
 ·unfold z139l;rw [List.getElem?_cons_succ,List.getElem?_append_right (by rw [List.length_replicate];omega),List.length_replicate];rfl
theorem HD.same {c c' : Array Value} {ho : Nat} {M : Nat → Prop} (h : HD c ho) (hs : Same M c c') (hm : ∀ k,ho ≤ k → k < ho + 515 → ¬ M k) : HD c' ho:=by
 obtain ⟨⟨m,h1⟩,⟨f,h2⟩,⟨a,n,k,h3⟩,⟨k2,h4⟩⟩:=h
 exact ⟨⟨m,by rw [hs.2 _ (hm _ (by omega) (by omega))];exact h1⟩,⟨f,fun x hx => by rw [hs.2 _ (hm _ (by omega) (by omega))];exact h2 x hx⟩,⟨a,n,k,by rw [hs.2 _ (hm _ (by omega) (by omega))];exact h3⟩,⟨k2,by rw [hs.2 _ (hm _ (by omega) (by omega))];exact h4⟩⟩
end Go.Proofs.YthpapbilhjobnaaGreatDoor
namespace Go.Proofs.YthpapbilhjobnaaGreatDoor
open Go.RowKit Pu
theorem region_tail2 {P : Program} {id : Nat} {Q : Exit → Act → World → Prop} {a : Act} {w : World} {l : List Oper} (n : Nat) (hm : P.follows .mixedOrders = true) (hB : Region.lexTailB .any l.toArray n = true)
  (h : ∀ w' : World,w' = w.drew → wpStill P l.toArray w' (fun a' => wpList P l.toArray Q (l.drop n) a' w') (l.take n) a) : (Code.region id l.toArray true).wp P Q a w :=
 wp_region_still_tail n hm hB (h _ rfl)
structure Pl where
 F : Nat
 R : Nat
 sb : Nat
 so : Nat
 cap : Nat
 hb : Nat
 Bb : Nat
 Cb : Nat
 A : Addr
 U : Addr
 src : List UInt8
 ext : List UInt8
 O : Nat → Prop
def Pl.M (x : Pl) : Nat → Prop:=fun k => k = x.F ∨ k = x.R ∨ k = x.hb ∨ k = x.Bb ∨ k = x.Cb
def Pl.N (x : Pl) : Nat → Prop:=fun k => k = x.R ∨ k = x.hb ∨ k = x.Bb ∨ k = x.Cb ∨ x.O k
structure Apart (x : Pl) : Prop where
 FR : x.F ≠ x.R
 Fh : x.F ≠ x.hb
 FB : x.F ≠ x.Bb
 FC : x.F ≠ x.Cb
 Rh : x.R ≠ x.hb
 RB : x.R ≠ x.Bb
 RC : x.R ≠ x.Cb
 hB : x.hb ≠ x.Bb
 hC : x.hb ≠ x.Cb
 BC : x.Bb ≠ x.Cb
 sF : x.sb ≠ x.F
 sR : x.sb ≠ x.R
 sh : x.sb ≠ x.hb
 sB : x.sb ≠ x.Bb
 sC : x.sb ≠ x.Cb
 E : ∀ k,EM x.A x.U k → ¬ x.M k
 g7 : ¬ x.M 7
 OF : ¬ x.O x.F
 room : x.src.length ≤ x.cap
theorem Apart.ER {x : Pl} (h : Apart x) : ¬ EM x.A x.U x.R:=fun e => h.E _ e (.inr (.inl rfl))
theorem Apart.EF {x : Pl} (h : Apart x) : ¬ EM x.A x.U x.F:=fun e => h.E _ e (.inl rfl)
structure Tak (x : Pl) (w0 : World) (c0 : Array Value) (Y : List Bool) (w : World) (c : Array Value) (BB : List Bool) (p : Nat) : Prop where
 blk : Blk w x.F c 147
 same : Same BM c0 c
 rdr : c[0]? = some (.iface 50 (.pointer (some ⟨x.R,0,none⟩)))
 bits : Bits c BB
 src : Src w x.R x.sb x.so x.cap x.src p
 ends : Ends w x.A x.U
 ext : Ext (FM x.F x.R) w0 w
 z : BB ++ bitsOf (x.src.drop p ++ x.ext) = Y
section
variable {x : Pl} {w0 : World} {c0 : Array Value} {Y : List Bool} {w : World} {c : Array Value} {BB : List Bool} {p : Nat}
theorem Tak.cells (h : Tak x w0 c0 Y w c BB p) : w.cell? ⟨x.F,3,none⟩ = some (.int .u32 (val BB : Nat)) ∧ w.cell? ⟨x.F,4,none⟩ = some (.int .u64 BB.length):=by
 constructor <;> rw [h.blk.cell]
 ·exact h.bits.b
 ·exact h.bits.nb
theorem Tak.other (h : Tak x w0 c0 Y w c BB p) {k : Nat} {v : Value} (hk : k ≠ 2 ∧ k ≠ 3 ∧ k ≠ 4) (hc : c0[k]? = some v) : w.cell? ⟨x.F,k,none⟩ = some v:=by
 rw [h.blk.cell,h.same.2 k (by unfold BM;omega)];exact hc
theorem Tak.off (h : Tak x w0 c0 Y w c BB p) : ∃ z : Int,w.cell? ⟨x.F,2,none⟩ = some (.int .i64 z):=by
 obtain ⟨z,hz⟩:=h.bits.off
 exact ⟨z,by rw [h.blk.cell];exact hz⟩
theorem Tak.drewN (h : Tak x w0 c0 Y w c BB p) (n : Nat) : Tak x w0 c0 Y (w.drewN n) c BB p:=by
 have he : Ext (fun _ => False) w (w.drewN n):=(Ext.refl _ w).drewN n
 exact ⟨h.blk,h.same,h.rdr,h.bits,h.src.drewN n,h.ends.ext he (fun _ _ e => e),h.ext.drewN n,h.z⟩
theorem Tak.quiet {w' : World} (h : Tak x w0 c0 Y w c BB p) (he : Ext (fun _ => False) w w') : Tak x w0 c0 Y w' c BB p :=
 ⟨h.blk.ext he (fun e => e),h.same,h.rdr,h.bits,h.src.ext he (fun e => e) (fun e => e),h.ends.ext he (fun _ _ e => e),h.ext.trans (he.mono (fun _ _ e => e.elim)),h.z⟩
theorem Tak.short (h : Tak x w0 c0 Y w c BB p) (hp : ¬ p < x.src.length) (hn : BB.length < Y.length) : x.ext ≠ [] ∧ p = x.src.length:=by
 have:=h.src.le
 have hpe : p = x.src.length:=by omega
 refine ⟨fun e => ?_,hpe⟩
 have hz:=congrArg List.length h.z
 rw [hpe,e,List.drop_length] at hz
 simp [bitsOf] at hz
 omega
theorem Tak.more (h : Tak x w0 c0 Y w c BB p) (ap : Apart x) (hp : p < x.src.length) (hl : BB.length ≤ 24) :
  Calls Tryz.prog 66 #[.pointer (some ⟨x.F,0,none⟩)] w fun e w' => e = .returned .nilIface ∧ ∃ c',Tak x w0 c0 Y w' c' (BB ++ lsb x.src[p].toNat 8) (p + 1):=by
 refine (moreBits_some x.F x.R x.sb x.so x.cap p x.src c BB w h.blk h.rdr h.bits h.src hp hl ap.FR ap.sF).mono ?_
 rintro e w' ⟨rfl,c',hb,hs,hB,hS,hE⟩
 refine ⟨rfl,c',hb,h.same.trans hs,?_,hB,hS,h.ends.ext hE (fun k hk e => ?_),h.ext.trans hE,?_⟩
 ·rw [hs.2 0 (by unfold BM;omega)];exact h.rdr
 ·rcases e with e | e
  ·exact ap.E k hk (.inl e)
  ·exact ap.E k hk (.inr (.inl e))
 ·rw [← h.z,List.drop_eq_getElem_cons hp,List.append_assoc];rfl
theorem Tak.over (h : Tak x w0 c0 Y w c BB p) (ap : Apart x) (hp : p = x.src.length) :
  Calls Tryz.prog 66 #[.pointer (some ⟨x.F,0,none⟩)] w fun e w' => e = .returned (.iface 175 (.pointer (some x.U))) ∧ Tak x w0 c0 Y w' c BB p:=by
 subst hp
 refine (moreBits_end x.F x.R x.sb x.so x.cap x.src c x.A x.U w h.blk h.rdr h.src h.ends ap.ER ap.FR).mono ?_
 rintro e w' ⟨rfl,hS,hE⟩
 exact ⟨rfl,h.blk.ext hE (fun e => ap.FR e),h.same,h.rdr,h.bits,hS,h.ends.ext hE (fun k hk e => ap.E k hk (.inr (.inl e))),h.ext.trans (hE.mono (fun _ _ e => .inr e)),h.z⟩
theorem Tak.used {w' : World} {c' : Array Value} {n v : Nat} {Z : List Bool} (h : Tak x w0 c0 (lsb v n ++ Z) w c BB p) (hn : n ≤ BB.length) (ap : Apart x) (hb : Blk w' x.F c' 147) (hs : Same (fun k => k = 3 ∨ k = 4) c c') (he : Ext (fun k => k = x.F) w w')
  (h3 : c'[3]? = some (.int .u32 ((val BB / 2 ^ n : Nat) : Int))) (h4 : c'[4]? = some (.int .u64 ((BB.length - n : Nat) : Int))) : Tak x w0 c0 Z w' c' (BB.drop n) p ∧ val BB % 2 ^ n = v % 2 ^ n:=by
 obtain ⟨h1,h2⟩:=bits_take h.z hn
 obtain ⟨z,hz⟩:=h.bits.off
 refine ⟨⟨hb,h.same.trans (hs.mono (fun k e => by unfold BM;omega)),by rw [hs.2 0 (by omega)];exact h.rdr,⟨by rw [h3,val_drop],by rw [h4,List.length_drop],z,by rw [hs.2 2 (by omega)];exact hz⟩,
  h.src.ext he (fun e => ap.FR e.symm) ap.sF,h.ends.ext he (fun k hk e => ap.E k hk (.inl e)),h.ext.trans (he.mono (fun _ _ e => .inl e)),h2⟩,h1⟩
theorem Tak.anew (h : Tak x w0 c0 Y w c BB p) : Tak x w c Y w c BB p:=⟨h.blk,Same.refl _ _,h.rdr,h.bits,h.src,h.ends,Ext.refl _ _,h.z⟩
theorem Tak.len (h : Tak x w0 c0 Y w c BB p) : BB.length ≤ Y.length:=by
 have:=congrArg List.length h.z
 simp at this;omega
end
end Go.Proofs.YthpapbilhjobnaaGreatDoor
