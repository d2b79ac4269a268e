/-
  Parts of the proofs over the reader and the encoder of streams, joined: Fx Nx Di Mr. Conditions: each theorem names its own.
-/
import Derived.Test.YthpapbilhjobnaaGreatDoorM10
import Derived.Test.YthpapbilhjobnaaGreatDoorM11
import Derived.Test.YthpapbilhjobnaaGreatDoorM12
import Derived.Test.YthpapbilhjobnaaGreatDoorM15
set_option linter.unusedVariables false
set_option linter.unusedSimpArgs false
namespace Go.Proofs.YthpapbilhjobnaaGreatDoor
open Go.RowKit Pu
theorem wpList_alloc_at {P : Program} {ops : Array Oper} {rest : List Oper} {op : Oper} {a : Act} {w : World} {Q : Exit → Act → World → Prop} (hgd : op.guard = none) (t : TypeId) (ho : op.op = .alloc t) (c : Array Value)
  (hr : ∀ w : World,(Instr.alloc t true (.tuple #[])).run P w = .ok (.pointer (some ⟨w.heap.size,0,none⟩)) (w.alloc (.cells c t)))
  (h : wpList P ops Q rest (a.put op.dst (.pointer (some ⟨w.heap.size,0,none⟩))) (w.alloc (.cells c t))) : wpList P ops Q (op::rest) a w :=
 wpList_plain hgd fun _ hK => by
  unfold Oper.wp execOp
  simp only [ho,Sem.run_bind,hr,Result.andThen_ok]
  exact hK _ _ h
def z165 : Array Value:=arr 288 (fun _ => 0)
theorem alloc165 (w : World) : (Instr.alloc 165 true (.tuple #[])).run Tryz.prog w = .ok (.pointer (some ⟨w.heap.size,0,none⟩)) (w.alloc (.cells z165 165)):=by kernel_rfl
theorem alloc139 (w : World) : (Instr.alloc 139 true (.tuple #[])).run Tryz.prog w = .ok (.pointer (some ⟨w.heap.size,0,none⟩)) (w.alloc (.cells z139 139)):=by kernel_rfl
def fxs (i j : Nat) : Nat:=if j < i then fixLenP j else 0
theorem fxs_next (i : Nat) (hi : i < 288) (v : Nat) (hv : v = fixLenP i) : (arr 288 (fxs i)).setIfInBounds i (.int .i64 v) = arr 288 (fxs (i + 1)):=by
 refine arr_set 288 _ _ i v fun j hj => ?_
 unfold fxs
 by_cases e : j = i
 ·rw [if_pos (by omega),if_pos e,hv,e]
 ·rw [if_neg e]
  by_cases h : j < i
  ·rw [if_pos (by omega),if_pos h]
  ·rw [if_neg (by omega),if_neg h]
theorem fixLitsP_good : Pu.Good fixLitsP:=.inl (by rw [← fix_same.1];exact fixLits_full)
theorem fixLitsP_mn : mnOf fixLitsP = 7:=by decide +kernel
theorem fixLitsP_len : fixLitsP.length = 288:=by simp [fixLitsP]
def FixPost (w : World) (N : Nat → Prop) (F : Nat) (e : Ending) (w' : World) : Prop :=
 ∃ b,e = .returned (.pointer (some ⟨b,0,none⟩)) ∧ w.heap.size ≤ b ∧ HT w' F N b 0 fixLitsP 7 ∧ Ext (fun _ => False) w w'
set_option maxRecDepth 100000 in
set_option maxHeartbeats 4000000 in
theorem fixHuff_any (N : Nat → Prop) (F : Nat) (w : World) (hNn : ∀ k,N k → k < w.heap.size) (hFn : F < w.heap.size) :
  Calls Tryz.prog 68 #[] w (FixPost w N F):=by
 have HNN:=Lib.hid hNn
 clear hNn
 obtain ⟨b,hb⟩ : ∃ x,w.heap.size = x:=⟨_,rfl⟩
 have HBS:=Lib.hid hb
 rw [hb] at hFn
 have HAL:=Lib.hid alloc165;have HAM:=Lib.hid alloc139
 clear hb
 go_enter Tryz.func68,Tryz.ntmps68
 go_upto_block 0 with (first
  | (with_reducible refine wpList_alloc_at rfl 165 rfl z165 HAL.out ?_))
 rw [HBS.out]
 have hz : Blk (w.alloc (.cells z165 165)) b (arr 288 (fxs 0)) 165:=by
  have:=Blk.new w z165 165
  rw [HBS.out] at this
  rw [arr_congr 288 (fun _ => 0) (fxs 0) (fun j _ => by simp [fxs])]
  exact this
 have he : Ext (fun _ => False) w (w.alloc (.cells z165 165)):=(Ext.refl _ w).alloc _
 obtain ⟨w1,hw1⟩ : ∃ x,w.alloc (.cells z165 165) = x:=⟨_,rfl⟩
 rw [hw1] at hz he ⊢
 have HZ:=Lib.hid hz;have HE:=Lib.hid he
 clear hw1 hz he
 go_cut [2] (fun s2 wx => Blk wx b (arr 288 (fxs 144)) 165 ∧ Ext (fun k => k = b) w1 wx)
 case first =>
  go_wp2_with fail
  go_loopg [2] 144 (fun k s2 wx => ∃ i : Nat,i ≤ 144 ∧ s2 = .int .i64 i ∧ Blk wx b (arr 288 (fxs i)) 165 ∧ Ext (fun k => k = b) w1 wx ∧ k = 144 - i)
  case atStart => exact ⟨0,by omega,rfl,HZ.out,Ext.refl _ _,rfl⟩
  case round =>
   obtain ⟨i,hi,rfl,hbk,hex,hk⟩:=hrel
   obtain ⟨wo,rfl⟩ : ∃ wo : World,wo = wr:=⟨_,rfl⟩
   have HBK:=Lib.hid hbk;have HEX:=Lib.hid hex;have HK:=Lib.hid hk
   have hf:=hbk.free
   rcases Nat.lt_or_ge i 144 with hlt | hge
   ·have hc : ∃ v,wo.cell? ⟨b,i,none⟩ = some v:=⟨_,by rw [hbk.cell];exact arr_get 288 _ i (by omega)⟩
    obtain ⟨v,hc⟩:=hc
    have hil : (i : Int) < 144:=by omega
    clear hbk hex hk
    go_wp2_with fail
    go_roundg (144 - (i + 1))
    case measure => have:=HK.out;omega
    case rel =>
     refine ⟨i + 1,by omega,by go_num,?_,HEX.out.only _,rfl⟩
     rw [← fxs_next i (by omega) 8 (by unfold fixLenP;rw [if_pos (by omega)])]
     exact HBK.out.set i _
   ·obtain rfl : i = 144:=by omega
    clear hbk hex hk
    go_wp2_with fail
    go_meet
    case rel => exact ⟨HBK.out,HEX.out⟩
 obtain ⟨w2,rfl⟩ : ∃ x : World,x = wc:=⟨_,rfl⟩
 obtain ⟨hb2,he2⟩:=hcut
 have HB2:=Lib.hid hb2;have HE2:=Lib.hid he2
 clear hb2 he2
 go_upto_block 2 with (fail)
 go_cut [3] (fun s3 wx => Blk wx b (arr 288 (fxs 256)) 165 ∧ Ext (fun k => k = b) w1 wx)
 case first =>
  go_wp2_with fail
  go_loopg [3] 112 (fun k s2 wx => ∃ i : Nat,144 ≤ i ∧ i ≤ 256 ∧ s2 = .int .i64 i ∧ Blk wx b (arr 288 (fxs i)) 165 ∧ Ext (fun k => k = b) w1 wx ∧ k = 256 - i)
  case atStart => exact ⟨144,by omega,by omega,rfl,HB2.out,HE2.out,rfl⟩
  case round =>
   obtain ⟨i,hi0,hi,rfl,hbk,hex,hk⟩:=hrel
   obtain ⟨wo,rfl⟩ : ∃ wo : World,wo = wr:=⟨_,rfl⟩
   have HBK:=Lib.hid hbk;have HEX:=Lib.hid hex;have HK:=Lib.hid hk
   have hf:=hbk.free
   rcases Nat.lt_or_ge i 256 with hlt | hge
   ·have hc : ∃ v,wo.cell? ⟨b,i,none⟩ = some v:=⟨_,by rw [hbk.cell];exact arr_get 288 _ i (by omega)⟩
    obtain ⟨v,hc⟩:=hc
    have hil : (i : Int) < 256:=by omega
    clear hbk hex hk
    go_wp2_with fail
    go_roundg (256 - (i + 1))
    case measure => have:=HK.out;omega
    case rel =>
     refine ⟨i + 1,by omega,by omega,by go_num,?_,HEX.out.only _,rfl⟩
     rw [← fxs_next i (by omega) 9 (by unfold fixLenP;rw [if_neg (by omega),if_pos (by omega)])]
     exact HBK.out.set i _
   ·obtain rfl : i = 256:=by omega
    clear hbk hex hk
    go_wp2_with fail
    go_meet
    case rel => exact ⟨HBK.out,HEX.out⟩
 obtain ⟨w3,rfl⟩ : ∃ x : World,x = wc:=⟨_,rfl⟩
 obtain ⟨hb3,he3⟩:=hcut
 have HB3:=Lib.hid hb3;have HE3:=Lib.hid he3
 clear hb3 he3
 go_upto_block 4 with (fail)
 go_cut [4] (fun s4 wx => Blk wx b (arr 288 (fxs 280)) 165 ∧ Ext (fun k => k = b) w1 wx)
 case first =>
  go_wp2_with fail
  go_loopg [4] 24 (fun k s2 wx => ∃ i : Nat,256 ≤ i ∧ i ≤ 280 ∧ s2 = .int .i64 i ∧ Blk wx b (arr 288 (fxs i)) 165 ∧ Ext (fun k => k = b) w1 wx ∧ k = 280 - i)
  case atStart => exact ⟨256,by omega,by omega,rfl,HB3.out,HE3.out,rfl⟩
  case round =>
   obtain ⟨i,hi0,hi,rfl,hbk,hex,hk⟩:=hrel
   obtain ⟨wo,rfl⟩ : ∃ wo : World,wo = wr:=⟨_,rfl⟩
   have HBK:=Lib.hid hbk;have HEX:=Lib.hid hex;have HK:=Lib.hid hk
   have hf:=hbk.free
   rcases Nat.lt_or_ge i 280 with hlt | hge
   ·have hc : ∃ v,wo.cell? ⟨b,i,none⟩ = some v:=⟨_,by rw [hbk.cell];exact arr_get 288 _ i (by omega)⟩
    obtain ⟨v,hc⟩:=hc
    have hil : (i : Int) < 280:=by omega
    clear hbk hex hk
    go_wp2_with fail
    go_roundg (280 - (i + 1))
    case measure => have:=HK.out;omega
    case rel =>
     refine ⟨i + 1,by omega,by omega,by go_num,?_,HEX.out.only _,rfl⟩
     rw [← fxs_next i (by omega) 7 (by unfold fixLenP;rw [if_neg (by omega),if_neg (by omega),if_pos (by omega)])]
     exact HBK.out.set i _
   ·obtain rfl : i = 280:=by omega
    clear hbk hex hk
    go_wp2_with fail
    go_meet
    case rel => exact ⟨HBK.out,HEX.out⟩
 obtain ⟨w4,rfl⟩ : ∃ x : World,x = wc:=⟨_,rfl⟩
 obtain ⟨hb4,he4⟩:=hcut
 have HB4:=Lib.hid hb4;have HE4:=Lib.hid he4
 clear hb4 he4
 go_upto_block 6 with (fail)
 go_cut [5] (fun s5 wx => Blk wx b (arr 288 (fxs 288)) 165 ∧ Ext (fun k => k = b) w1 wx)
 case first =>
  go_wp2_with fail
  go_loopg [5] 8 (fun k s2 wx => ∃ i : Nat,280 ≤ i ∧ i ≤ 288 ∧ s2 = .int .i64 i ∧ Blk wx b (arr 288 (fxs i)) 165 ∧ Ext (fun k => k = b) w1 wx ∧ k = 288 - i)
  case atStart => exact ⟨280,by omega,by omega,rfl,HB4.out,HE4.out,rfl⟩
  case round =>
   obtain ⟨i,hi0,hi,rfl,hbk,hex,hk⟩:=hrel
   obtain ⟨wo,rfl⟩ : ∃ wo : World,wo = wr:=⟨_,rfl⟩
   have HBK:=Lib.hid hbk;have HEX:=Lib.hid hex;have HK:=Lib.hid hk
   have hf:=hbk.free
   rcases Nat.lt_or_ge i 288 with hlt | hge
   ·have hc : ∃ v,wo.cell? ⟨b,i,none⟩ = some v:=⟨_,by rw [hbk.cell];exact arr_get 288 _ i (by omega)⟩
    obtain ⟨v,hc⟩:=hc
    have hil : (i : Int) < 288:=by omega
    clear hbk hex hk
    go_wp2_with fail
    go_roundg (288 - (i + 1))
    case measure => have:=HK.out;omega
    case rel =>
     refine ⟨i + 1,by omega,by omega,by go_num,?_,HEX.out.only _,rfl⟩
     rw [← fxs_next i (by omega) 8 (by unfold fixLenP;rw [if_neg (by omega),if_neg (by omega),if_neg (by omega)])]
     exact HBK.out.set i _
   ·obtain rfl : i = 288:=by omega
    clear hbk hex hk
    go_wp2_with fail
    go_meet
    case rel => exact ⟨HBK.out,HEX.out⟩
 obtain ⟨w5,rfl⟩ : ∃ x : World,x = wc:=⟨_,rfl⟩
 obtain ⟨hb5,he5⟩:=hcut
 have HB5:=Lib.hid hb5
 have hE5 : Ext (fun _ => False) w w5:=HE.out.trans' he5 (fun i hi e => by have:=HBS.out;omega)
 have HE5:=Lib.hid hE5
 have hbs5:=hb5.lt
 clear hb5 he5 hE5
 go_wp2_with (first
  | (with_reducible refine wpList_alloc_at rfl 139 rfl z139 HAM.out ?_))
 have hne : b ≠ w5.heap.size:=by omega
 have hsz:=HE5.out.size
 have hB5' : Blk (w5.alloc (.cells z139 139)) b (arr 288 (fxs 288)) 165:=HB5.out.alloc _
 have hz:=HD.zero (c:=z139) (ho:=0) (fun j v hv => by rw [Nat.zero_add];simpa [z139] using hv)
 have HI:=init_any N F w5.heap.size 0 b 0 288 139 z139 fixLitsP (w5.alloc (.cells z139 139)) (Blk.new w5 z139 139) hz.1 (fun j x hx => by
   rw [Nat.zero_add,hB5'.cell]
   have hj : j < 288:=by
    have:=(List.getElem?_eq_some_iff.1 hx).1
    simpa [fixLitsP] using this
   rw [arr_get 288 _ j hj]
   simp only [fxs,if_pos hj]
   have : (fixLitsP.map IV)[j]? = some (IV (fixLenP j)):=by simp [fixLitsP,hj]
   rw [this] at hx
   exact hx) hne (by simp;omega) (by rw [fixLitsP_len];omega) (by rw [← fix_same.1];exact fixLits_full.1) (.inl fixLitsP_good) (fun h => by have:=HNN.out _ h;omega) (fun k hk => by have:=HNN.out k hk;simp;omega) (by simp;omega) (fun e => by have:=HBS.out;omega)
 rw [fixLitsP_len] at HI
 have HII:=Lib.hid HI
 clear HI hz hB5'
 refine HII.out.mono ?_
 rintro e w6 ⟨rfl,c',hb6,hs6,hd6,ht6,he6⟩
 rw [fixLitsP_mn] at ht6
 have HT6:=Lib.hid ht6;have HE6:=Lib.hid he6
 clear hb6 hs6 hd6 ht6 he6
 go_wp2_with fail
 go_ret
 refine ⟨w5.heap.size,rfl,by omega,HT6.out,HE5.out.trans' (((Ext.refl (fun k => k = w5.heap.size) w5).alloc _).trans HE6.out) (fun i hi e => by omega)⟩
end Go.Proofs.YthpapbilhjobnaaGreatDoor
namespace Go.Proofs.YthpapbilhjobnaaGreatDoor
open Go.RowKit Pu
theorem W3.kept {x : Pl} {w w' : World} {c c' : Array Value} {q : Nat} {H hs : List UInt8} {wr rd : Nat} {full : Bool} {T : List UInt8} {M S : Nat → Prop} (h : W3 x w c q H hs wr rd full T) (hb : Blk w' x.F c' 147) (hs' : Same S c c') (hS : ∀ k,(1037 ≤ k ∧ k ≤ 1040) ∨ k = 1049 → ¬ S k) (he : Ext M w w') (hM : ¬ M x.hb) : W3 x w' c' q H hs wr rd full T:=by
 refine ⟨⟨hb,by rw [hs'.2 _ (hS _ (by omega))];exact h.dd.hist,by rw [hs'.2 _ (hS _ (by omega))];exact h.dd.wrc,by rw [hs'.2 _ (hS _ (by omega))];exact h.dd.rdc,by rw [hs'.2 _ (hS _ (by omega))];exact h.dd.fullc,
  h.dd.hblk.ext he hM,h.dd.ne,h.dd.size,h.dd.wrle,h.dd.rdle⟩,h.win,h.lt,?_,h.len,h.tl⟩
 unfold OutIs
 rw [hs'.2 1049 (hS _ (by omega))]
 exact h.out
theorem Bk.enter {x : Pl} {k : Blkc} {w : World} {c : Array Value} {q : Nat} {H hs : List UInt8} {wr rd : Nat} {full : Bool} {BB : List Bool} {p i : Nat} {ts : List Tok} (h : Bk x k w c q H hs wr rd full BB p i (toksBits k.lit k.dist ts ++ (codeBits k.lit 256 ++ k.Y))) (ht : Tabs x w c k.lit k.dist) (hf : toksFit k.all i ts k.j) (hc : ∀ t ∈ ts,t.coded k.lit k.dist) :
  (S0 x k w c w c q H hs wr rd full [] BB p ts i ∧ c[1046]? = some (.int .i64 0)) ∨ (∃ far m,S1 x k w c w c q H hs wr rd full [] BB p ts i far m ∧ c[1046]? = some (.int .i64 1)):=by
 have hh:=h.hand
 rcases h.js with h0 | ⟨h1,h2,far,h3,h4,h5⟩
 ·exact .inl ⟨⟨h.dec,ht,h.fin,h.err,h.rest,hf,hc,h.hist,h.base,by omega,Same.refl _ _,Ext.refl _ _,h.js⟩,h0⟩
 ·exact .inr ⟨far,0,⟨h.dec,ht,h.fin,h.err,h.rest,hf,hc,h.hist,by have:=h.base;omega,by omega,Same.refl _ _,Ext.refl _ _,h2,h3,h4,h5,by omega,.inr h1⟩,h1⟩
theorem lsb3 (f : Bool) (t : Nat) (Y : List Bool) : lsb (f.toNat + 2 * t) 3 ++ Y = f::(lsb t 2 ++ Y):=by
 cases f
 ·simp only [lsb,List.cons_append,List.nil_append]
  have e1 : (false.toNat + 2 * t) % 2 = 0:=by simp
  have e2 : (false.toNat + 2 * t) / 2 = t:=by simp
  simp [e1,e2]
 ·show lsb (1 + 2 * t) 3 ++ Y = _
  have e1 : (1 + 2 * t) % 2 = 1:=by omega
  have e2 : (1 + 2 * t) / 2 = t:=by omega
  simp [lsb,e1,e2]
theorem Bk.start {x : Pl} {g : Blkc} {w w1 : World} {d c1 : Array Value} {q : Nat} {H hs : List UInt8} {wr rd : Nat} {fu fin : Bool} {X BB B1 R Y2 : List Bool} {p p1 i ty j pos2 nb v1 v2 : Nat} (lit dist : List Nat) (ap : Apart x) (hd : Dec x w d q H hs wr rd fu [] (X ++ g.Z) BB p) (hh : HistOk g.ok g.all i H) (hb : H.length + g.e = i + g.d) (he : d[1048]? = some .nilIface) (st : Std x w d) (hj : JS d wr fu)
  (hT : Tak x w d (X ++ g.Z) w1 c1 B1 p1) (hY : X ++ g.Z = lsb (fin.toNat + 2 * ty) 3 ++ R) (hrest : RestOf g.all fin pos2 j g.Z Y2) (hnb : B1.length = nb) (h3 : 3 ≤ nb) (h11 : nb < 11) (hv2 : val B1 / 2 ^ 3 = v2) :
  let w4:=(((w1.setCell ⟨x.F,1047,none⟩ (.bool fin)).setCell ⟨x.F,3,none⟩ (.int .u32 v1)).setCell ⟨x.F,3,none⟩ (.int .u32 v2)).setCell ⟨x.F,4,none⟩ (.int .u64 ((nb - 3 : Nat) : Int))
  ∃ d4,Bk x (g.at lit dist fin pos2 j Y2) w4 d4 q H hs wr rd fu (B1.drop 3) p1 i R ∧ Std x w4 d4 ∧ Ext x.M w w4:=by
 intro w4
 have hsz1 : c1.size = 1054:=by rw [hT.same.1];exact hd.sz
 have t1:=hT.anew.setF ap (k:=1047) (.bool fin) (by omega)
 rw [hY] at t1
 have hS2 : Same (fun k => k = 3 ∨ k = 4) (c1.setIfInBounds 1047 (.bool fin)) ((((c1.setIfInBounds 1047 (.bool fin)).setIfInBounds 3 (.int .u32 v1)).setIfInBounds 3 (.int .u32 v2)).setIfInBounds 4 (.int .u64 ((nb - 3 : Nat) : Int))) :=
  (((Same.refl _ _).set (.inl rfl) _).set (.inl rfl) _).set (.inr rfl) _
 have hE2 : Ext (fun k => k = x.F) (w1.setCell ⟨x.F,1047,none⟩ (.bool fin)) w4:=(((Ext.refl _ _).only _).only _).only _
 have t2:=t1.used (by omega) ap (w':=w4) (((t1.blk.set 3 _).set 3 _).set 4 _) hS2 hE2 (by rw [set_ne _ _ (by decide),set_eq _ (by simp;omega),hv2]) (by rw [set_eq _ (by simp;omega),hnb])
 obtain ⟨t2,-⟩:=t2
 have hS : Same (fun k => k = 2 ∨ k = 3 ∨ k = 4 ∨ k = 1047) d ((((c1.setIfInBounds 1047 (.bool fin)).setIfInBounds 3 (.int .u32 v1)).setIfInBounds 3 (.int .u32 v2)).setIfInBounds 4 (.int .u64 ((nb - 3 : Nat) : Int))) :=
  ((((hT.same.mono (fun k e => by unfold BM at e;omega)).set (by omega) _).set (by omega) _).set (by omega) _).set (by omega) _
 have hE : Ext (FM x.F x.R) w w4:=(hT.ext.setCell (p:=⟨x.F,1047,none⟩) (fun _ => .inl rfl) _).trans (hE2.mono (fun _ _ e => .inl e))
 have hsz4 : ((((c1.setIfInBounds 1047 (.bool fin)).setIfInBounds 3 (.int .u32 v1)).setIfInBounds 3 (.int .u32 v2)).setIfInBounds 4 (.int .u64 ((nb - 3 : Nat) : Int))).size = 1054:=by rw [hS.1];exact hd.sz
 refine ⟨_,⟨⟨t2.anew,hd.w3.kept t2.blk hS (fun k hk => by omega) hE (fun e => by rcases e with e | e;exact ap.Fh e.symm;exact ap.Rh e.symm),hsz4⟩,by rw [List.length_drop];omega,by rw [set_ne _ _ (by decide),set_ne _ _ (by decide),set_ne _ _ (by decide)];exact set_eq _ (by omega),by rw [hS.2 _ (by omega)];exact he,hrest,hh,hb,hj.same (hS.2 _ (by omega)) (hS.2 _ (by omega)) (hS.2 _ (by omega)) (Nat.le_refl _)⟩,
  st.stay hS (fun k hk => by omega) hE (fun e => by rcases e with e | e;exact ap.FB e.symm;exact ap.RB e.symm) (fun e => by rcases e with e | e;exact ap.FC e.symm;exact ap.RC e.symm) (fun e => ap.g7 (by rcases e with e | e;exact .inl e;exact .inr (.inl e))),hE.mono (fun _ _ e => M3_M (FM_M3 e))⟩
theorem Bk.quiet {x : Pl} {k : Blkc} {w w' : World} {c : Array Value} {q : Nat} {H hs : List UInt8} {wr rd : Nat} {full : Bool} {BB B : List Bool} {p i : Nat} (h : Bk x k w c q H hs wr rd full BB p i B) (he : Ext (fun _ => False) w w') : Bk x k w' c q H hs wr rd full BB p i B :=
 ⟨⟨(h.dec.tk.quiet he).anew,⟨h.dec.w3.dd.ext he (fun e => e) (fun e => e),h.dec.w3.win,h.dec.w3.lt,h.dec.w3.out,h.dec.w3.len,h.dec.w3.tl⟩,h.dec.sz⟩,h.hand,h.fin,h.err,h.rest,h.hist,h.base,h.js⟩
theorem Bk.setF {x : Pl} {k : Blkc} {w : World} {c : Array Value} {q : Nat} {H hs : List UInt8} {wr rd : Nat} {full : Bool} {BB B : List Bool} {p i : Nat} (h : Bk x k w c q H hs wr rd full BB p i B) (ap : Apart x) {j : Nat} (v : Value) (hj : j = 1050 ∨ j = 1051) : Bk x k (w.setCell ⟨x.F,j,none⟩ v) (c.setIfInBounds j v) q H hs wr rd full BB p i B :=
 ⟨⟨h.dec.tk.setF ap v (by omega),h.dec.w3.setF v (by omega),by simp;exact h.dec.sz⟩,h.hand,by rw [set_ne _ _ (by omega)];exact h.fin,by rw [set_ne _ _ (by omega)];exact h.err,h.rest,h.hist,h.base,h.js.same (set_ne _ _ (by omega)) (set_ne _ _ (by omega)) (set_ne _ _ (by omega)) (Nat.le_refl _)⟩
theorem Std.setF {x : Pl} {w : World} {c : Array Value} (h : Std x w c) (ap : Apart x) {j : Nat} (v : Value) (hj : j = 1050 ∨ j = 1051) : Std x (w.setCell ⟨x.F,j,none⟩ v) (c.setIfInBounds j v) :=
 h.stay (S:=fun k => k = j) ((Same.refl (fun k => k = j) c).set rfl _) (fun k hk => by omega) ((Ext.refl (fun k => k = x.F) w).only _) (fun e => ap.FB e.symm) (fun e => ap.FC e.symm) (fun e => ap.g7 (.inl e))
theorem Bk.again {x : Pl} {k : Blkc} {w : World} {c : Array Value} {q : Nat} {H hs : List UInt8} {wr rd : Nat} {full : Bool} {BB B : List Bool} {p i : Nat} {v : Value} (h : Bk x k w c q H hs wr rd full BB p i B) (ap : Apart x) (hv : c[1048]? = some v) : Bk x k (w.setCell ⟨x.F,1048,none⟩ v) c q H hs wr rd full BB p i B:=by
 have hw:=h.dec.w3.setF (j:=1048) v (by omega)
 rw [set_self hv] at hw
 exact ⟨⟨(h.dec.tk.again hv ap (by omega)).anew,hw,h.dec.sz⟩,h.hand,h.fin,h.err,h.rest,h.hist,h.base,h.js⟩
theorem Std.again {x : Pl} {w : World} {c : Array Value} {v : Value} (h : Std x w c) (ap : Apart x) (hv : c[1048]? = some v) : Std x (w.setCell ⟨x.F,1048,none⟩ v) c :=
 h.stay (S:=fun _ => False) (Same.refl _ c) (fun _ _ e => e) ((Ext.refl (fun k => k = x.F) w).only _) (fun e => ap.FB e.symm) (fun e => ap.FC e.symm) (fun e => ap.g7 (.inl e))
theorem fixLits_pos (s : Nat) (h : s < 288) : 0 < len fixLitsP s:=by
 unfold len fixLitsP
 simp [h]
 unfold fixLenP
 split
 ·omega
 ·split
  ·omega
  ·split <;> omega
theorem fixDists_pos (s : Nat) (h : s < 32) : 0 < len fixDistsP s:=by
 unfold len fixDistsP
 rw [List.getElem?_replicate,if_pos h]
 decide
theorem toksFit_fixed {all : List UInt8} {toks : List Tok} {i j : Nat} (h : toksFit all i toks j) : ∀ t ∈ toks,t.coded fixLitsP fixDistsP:=by
 intro t ht
 have h1:=toksFit_okT h t ht
 refine ⟨fun h0 => fixLits_pos _ ?_,fun h0 => ?_⟩
 ·rcases h1 with ⟨_,h2⟩ | ⟨h2,_⟩ <;> omega
 ·rcases h1 with ⟨h2,_⟩ | ⟨h2,h3,h4,h5⟩
  ·exact absurd h2 h0
  ·have:=lsym_ok t.long h4 h5
   have:=dsym_ok t.far h2 h3
   exact ⟨fixLits_pos _ (by omega),fixDists_pos _ (by omega)⟩
theorem fixLits_eob : len fixLitsP 256 = 7:=by decide +kernel
set_option maxRecDepth 100000 in
set_option maxHeartbeats 16000000 in
theorem nextBlock_any (x : Pl) (ap : Apart x) (g : Blkc) (w : World) (d : Array Value) (q : Nat) (H hs : List UInt8) (wr rd : Nat) (fu : Bool) (X BB : List Bool) (p pos i : Nat) (hd : Dec x w d q H hs wr rd fu [] (X ++ g.Z) BB p) (hB : BB.length < 8) (ha : Ahead g.all pos i X) (h8 : (pos + (X ++ g.Z).length) % 8 = 0) (hh : HistOk g.ok g.all i H)
  (hb : H.length + g.e = i + g.d) (he : d[1048]? = some .nilIface) (st : Std x w d) (hj : JS d wr fu) :
  Calls Tryz.prog 61 #[.pointer (some ⟨x.F,0,none⟩)] w (StepPost x g w q (2 * (X ++ g.Z).length)):=by
 obtain ⟨fin,B,j,Y2,hY,hblk,hrest⟩:=ha.open_ h8
 obtain ⟨ty,R,hty,hB,hcase⟩ : ∃ ty R,ty ≤ 2 ∧ B ++ Y2 = lsb ty 2 ++ R ∧
   ((ty = 0 ∧ ∃ k,k < 8 ∧ (pos + 1 + 2 + k) % 8 = 0 ∧ i ≤ j ∧ j - i ≤ 65535 ∧ B.length = 2 + k + 32 + 8 * (j - i) ∧ j ≤ g.all.length ∧ R = List.replicate k false ++ (lsb (j - i) 16 ++ (lsb (65535 - (j - i)) 16 ++ (bitsOf ((g.all.take j).drop i) ++ Y2)))) ∨
    (ty = 1 ∧ ∃ toks,toksFit g.all i toks j ∧ R = toksBits fixLitsP fixDistsP toks ++ (codeBits fixLitsP 256 ++ Y2)) ∨
    (ty = 2 ∧ ∃ toks lit dist lens nc rs,toksFit g.all i toks j ∧ HeadOf lit dist lens nc rs ∧ (∀ t ∈ toks,t.coded lit dist) ∧ R = headBits lit dist lens nc rs ++ (toksBits lit dist toks ++ (codeBits lit 256 ++ Y2)))):=by
  cases hblk with
  | stored k hk hpos hij hjl hn => exact ⟨0,_,by omega,by simp only [List.append_assoc],.inl ⟨rfl,k,hk,hpos,hij,hn,by simp;omega,hjl,rfl⟩⟩
  | fixed toks hfit => exact ⟨1,_,by omega,by simp only [List.append_assoc],.inr (.inl ⟨rfl,toks,hfit,rfl⟩)⟩
  | own toks lit dist lens nc rs hfit hh2 hc => exact ⟨2,_,by omega,by simp only [List.append_assoc],.inr (.inr ⟨rfl,toks,lit,dist,lens,nc,rs,hfit,hh2,hc,rfl⟩)⟩
 have hYR : X ++ g.Z = lsb (fin.toNat + 2 * ty) 3 ++ R:=by rw [hY,hB,lsb3]
 have hlen : (X ++ g.Z).length = 3 + R.length:=by rw [hYR];simp
 have hY2l : (X ++ g.Z).length = 1 + B.length + Y2.length:=by rw [hY];simp;omega
 clear hY hB hblk
 have HD:=Lib.hid hd
 have hnil:=he
 have hsz:=hd.sz
 have HST:=Lib.hid st;have HJ:=Lib.hid hj;have HHH:=Lib.hid hh;have HB:=Lib.hid hb;have HHE:=Lib.hid he;have HREST:=Lib.hid hrest;have HCASE:=Lib.hid hcase
 clear hd he st hj hh hb hrest hcase
 go_enter Tryz.func61,Tryz.ntmps61
 go_upto_block 0 with (fail)
 refine need61_0 x ap w w d d BB _ p HD.out.tk hsz hnil (by omega) (by omega) _ ?_ ?_
 rotate_left
 ·intro u3 u4 u5 u6 u7 u8 u9 u10 u11 u12 u13 u14 u15 u16 u17 wx wy c1 B1 p1 hT hx hwx
  subst hwx
  have hW:=HD.out.w3.took ap hT
  have hsz1 : c1.size = 1054:=by rw [hT.same.1];exact hsz
  have hres:=hT.res.setF ap (.iface 175 (.pointer (some x.U))) (j:=1048) (by omega)
  have hEND : RS x g (wy.setCell ⟨x.F,1048,none⟩ (.iface 175 (.pointer (some x.U)))) (c1.setIfInBounds 1048 (.iface 175 (.pointer (some x.U)))) q [] 0 :=
   .bad hres (hW.setF _ (by omega)) (by simpa using hsz1) (by have:=HB.out;have:=Ahead.le ha;omega) (.inr ⟨hx,set_eq _ (by omega)⟩)
    (HST.out.stay ((hT.same.mono (fun k e => (by unfold BM at e;omega : k = 2 ∨ k = 3 ∨ k = 4 ∨ k = 1048))).set (by omega) _) (fun k hk => by omega) (hT.ext.setCell (p:=⟨x.F,1048,none⟩) (fun _ => .inl rfl) _) (fun e => by rcases e with e | e;exact ap.FB e.symm;exact ap.RB e.symm) (fun e => by rcases e with e | e;exact ap.FC e.symm;exact ap.RC e.symm) (fun e => ap.g7 (by rcases e with e | e;exact .inl e;exact .inr (.inl e))))
  have HEND:=Lib.hid hEND
  have HEX : Hid (Ext x.M w (wy.setCell ⟨x.F,1048,none⟩ (.iface 175 (.pointer (some x.U))))):=Lib.hid ((hT.ext.setCell (p:=⟨x.F,1048,none⟩) (fun _ => .inl rfl) _).mono (fun _ _ e => M3_M (FM_M3 e)))
  clear hT hW hsz1 hres hEND
  go_wp2_with fail
  exact ⟨rfl,.tuple #[],by kernel_rfl,rfl,_,[],0,HEND.out,.inl (by omega),HEX.out⟩
 intro u3 u4 u5 u6 u7 u8 u9 u10 u11 u12 u13 u14 u15 u16 u17 w1 c1 B1 p1 hT hb3 hb11
 obtain ⟨nb,hnb⟩ : ∃ y,B1.length = y:=⟨_,rfl⟩
 obtain ⟨vb,hvb⟩ : ∃ y,val B1 = y:=⟨_,rfl⟩
 have hn11 : nb < 11:=by omega
 have hn3 : 3 ≤ nb:=by omega
 have hz:=hT.z
 rw [hYR] at hz
 have hbt:=(bits_take hz (by rw [hnb];exact hn3)).1
 have hvl : vb < 2048:=by
  have:=val_lt B1
  rw [hvb,hnb] at this
  exact Nat.lt_of_lt_of_le this (Nat.le_trans (Nat.pow_le_pow_right (by omega) (show nb ≤ 11 by omega)) (by decide))
 rw [hvb] at hbt
 obtain ⟨f1,hf1⟩ : ∃ y,fin.toNat = y:=⟨_,rfl⟩
 have hf1l : f1 ≤ 1:=by rw [← hf1];cases fin <;> simp
 rw [hf1] at hbt
 obtain ⟨v1,hv1⟩ : ∃ y,vb / 2 = y:=⟨_,rfl⟩
 obtain ⟨v2,hv2⟩ : ∃ y,v1 / 4 = y:=⟨_,rfl⟩
 have hbt2 : vb % 8 = f1 + 2 * ty:=by
  have : (2 : Nat) ^ 3 = 8:=rfl
  rw [this] at hbt;omega
 have e1 : (vb : Int) / 2 = (v1 : Int):=by omega
 have e2 : (v1 : Int) / 4 = (v2 : Int):=by omega
 have and1 : bits BinOp.and IntKind.u32 (vb : Int) 1 = (f1 : Int):=by
  have:=u32_low vb 1 (by omega) (by omega)
  rw [show vb % 2 ^ 1 = f1 by omega] at this
  exact this
 have and2 : bits BinOp.and IntKind.u32 (v1 : Int) 3 = (ty : Int):=by
  have:=u32_low v1 2 (by omega) (by omega)
  rw [show v1 % 2 ^ 2 = ty by omega] at this
  exact this
 have hfb : ((f1 : Int) == 1) = fin:=by
  rw [← hf1];cases fin <;> rfl
 have hn8 : (nb : Int) - 3 = ((nb - 3 : Nat) : Int):=by omega
 have hn3i : (3 : Int) ≤ (nb : Int):=by omega
 obtain ⟨hc3,hc4⟩:=hT.cells
 rw [hvb] at hc3
 rw [hnb] at hc4
 have hfr:=hT.blk.free
 obtain ⟨b47,hb47⟩ : ∃ v,d[1047]? = some v:=⟨d[1047]'(by omega),Array.getElem?_eq_getElem _⟩
 have hc47:=hT.other (k:=1047) (by omega) hb47
 have HT:=Lib.hid hT;have HVB:=Lib.hid hvb;have HNB:=Lib.hid hnb
 have hvv : val B1 / 2 ^ 3 = v2:=by rw [hvb];omega
 have HVV:=Lib.hid hvv
 clear hT hvb hnb hz hbt hbt2 hf1 hv1 hv2 hb3 hb11 hvv
 go_upto_block 2 with (fail)
 obtain ⟨w4,hw4⟩ : ∃ y,(((w1.setCell ⟨x.F,1047,none⟩ (.bool fin)).setCell ⟨x.F,3,none⟩ (.int .u32 v1)).setCell ⟨x.F,3,none⟩ (.int .u32 v2)).setCell ⟨x.F,4,none⟩ (.int .u64 ((nb - 3 : Nat) : Int)) = y:=⟨_,rfl⟩
 have hst:=fun lit dist => Bk.start (v1:=v1) lit dist ap HD.out HHH.out HB.out HHE.out HST.out HJ.out HT.out hYR HREST.out HNB.out hn3 hn11 HVV.out
 simp only [hw4] at hst
 rw [hw4]
 have HSTART:=Lib.hid hst
 have hm : 2 * Y2.length < 2 * (X ++ g.Z).length:=by omega
 clear hw4 hst hc3 hc4 hfr hc47 hb47
 rcases HCASE.out with ⟨rfl,kk,k1,k2,k3,k4,k5,k6,k7⟩ | ⟨rfl,toks,k1,k2⟩ | ⟨rfl,toks,lit,dist,lens,nc,rs,k1,k2,k3,k4⟩
 ·obtain ⟨d4,hBk,hSt,hEx⟩:=HSTART.out [] []
  have hin : i + (j - i) = j:=by omega
  have hC:=dataBlock_any x ap (g.at [] [] fin (pos + 1 + B.length) j Y2) w4 d4 q H hs wr rd fu (B1.drop 3) p1 i (j - i) kk (pos + 1 + 2) k4 k1 hin k2 (by show pos + 1 + B.length = _;omega) (by rw [hin];rw [k7] at hBk;exact hBk)
  have HC:=Lib.hid hC;have HSt:=Lib.hid hSt;have HEx:=Lib.hid hEx
  clear hBk hSt hEx hC and1 and2 hfb
  go_wp2_with fail
  refine HC.out.mono ?_
  rintro e w5 ⟨rfl,h5⟩
  have H5:=Lib.hid (h5.step ap HSt.out HEx.out hm)
  clear h5
  go_wp2_with fail
  go_end0
  exact H5.out
 ·obtain ⟨d4,hBk,hSt,hEx⟩:=HSTART.out fixLitsP fixDistsP
  subst k2
  have hNn : ∀ k,x.N k → k < w4.heap.size:=by
   intro k hk
   rcases hk with hk | hk | hk | hk | hk
   ·rw [hk];exact hBk.dec.tk.src.blk.lt
   ·rw [hk];exact hBk.dec.w3.dd.hblk.lt
   ·obtain ⟨f,hf⟩:=hSt.bb;rw [hk];exact hf.lt
   ·obtain ⟨f,hf⟩:=hSt.cb;rw [hk];exact hf.lt
   ·exact hSt.O k hk
  have HF:=Lib.hid (fixHuff_any x.N x.F w4 hNn hBk.dec.tk.blk.lt)
  have HBk:=Lib.hid hBk;have HSt:=Lib.hid hSt;have HEx:=Lib.hid hEx
  clear hBk hSt hEx and1 and2 hfb hNn
  go_wp2_with fail
  refine HF.out.mono ?_
  rintro e w5 ⟨b,rfl,hbs,hht,he5⟩
  have hB5:=HBk.out.quiet he5
  have hsz5:=hB5.dec.sz
  have hb5:=hB5.dec.tk.blk
  have hf5:=hb5.free
  have hc50 : ∃ v,w5.cell? ⟨x.F,1050,none⟩ = some v:=⟨d4[1050]'(by omega),by rw [hb5.cell,Array.getElem?_eq_getElem]⟩
  have hc51 : ∃ v,w5.cell? ⟨x.F,1051,none⟩ = some v:=⟨d4[1051]'(by omega),by rw [hb5.cell,Array.getElem?_eq_getElem]⟩
  obtain ⟨y50,hc50⟩:=hc50
  obtain ⟨y51,hc51⟩:=hc51
  have hS5:=HSt.out.stay (Same.refl (fun _ => False) d4) (fun _ _ e => e) he5 (fun e => e) (fun e => e) (fun e => e)
  have hB6:=(hB5.setF ap (j:=1050) (.pointer (some ⟨b,0,none⟩)) (.inl rfl)).setF ap (j:=1051) (.pointer none) (.inr rfl)
  have hS6:=(hS5.setF ap (j:=1050) (.pointer (some ⟨b,0,none⟩)) (.inl rfl)).setF ap (j:=1051) (.pointer none) (.inr rfl)
  have hsm : Same (fun k => k = 1050 ∨ k = 1051) d4 ((d4.setIfInBounds 1050 (.pointer (some ⟨b,0,none⟩))).setIfInBounds 1051 (.pointer none)):=((Same.refl _ _).set (.inl rfl) _).set (.inr rfl) _
  have hex6 : Ext (fun k => k = x.F) w5 ((w5.setCell ⟨x.F,1050,none⟩ (.pointer (some ⟨b,0,none⟩))).setCell ⟨x.F,1051,none⟩ (.pointer none)):=((Ext.refl _ _).only _).only _
  have hht6:=hht.stay hb5 hB6.dec.tk.blk hsm (fun k a c => by omega) hex6 (fun k hk => .inl hk)
  have htab : Tabs x _ ((d4.setIfInBounds 1050 (.pointer (some ⟨b,0,none⟩))).setIfInBounds 1051 (.pointer none)) fixLitsP fixDistsP:=⟨⟨b,0,7,by rw [set_ne _ _ (by decide)];exact set_eq _ (by omega),hht6,by rw [fixLits_eob];exact Nat.le_refl _⟩,fixLitsP_good,by rw [fixLitsP_len];omega,by rw [fixLits_eob];omega,.inl ⟨set_eq _ (by simp;omega),rfl⟩⟩
  have HH:=Lib.hid (huffBlock_any x ap (g.at fixLitsP fixDistsP fin (pos + 1 + B.length) j Y2) _ _ _ _ q H hs wr rd fu (B1.drop 3) p1 toks i (hB6.enter htab k1 (fun t ht => toksFit_fixed k1 t ht)))
  have HS6:=Lib.hid hS6
  have HE6 : Hid (Ext x.M w ((w5.setCell ⟨x.F,1050,none⟩ (.pointer (some ⟨b,0,none⟩))).setCell ⟨x.F,1051,none⟩ (.pointer none))):=Lib.hid ((HEx.out.trans (he5.mono (fun _ _ e => e.elim))).trans (hex6.mono (fun _ _ e => .inl e)))
  clear hB5 hb5 hS5 hB6 hS6 hsm hex6 hht6 htab hht he5 hbs
  go_wp2_with fail
  refine HH.out.mono ?_
  rintro e w6 ⟨rfl,h6⟩
  have H6:=Lib.hid (h6.step ap HS6.out HE6.out hm)
  clear h6
  go_wp2_with fail
  go_end0
  exact H6.out
 ·obtain ⟨d4,hBk,hSt,hEx⟩:=HSTART.out lit dist
  subst k4
  obtain ⟨f0,hbb⟩:=hSt.bb
  obtain ⟨g0,hcb⟩:=hSt.cb
  have HR:=Lib.hid (readHuffman_any x ap lit dist lens nc rs w4 d4 (B1.drop 3) (toksBits lit dist toks ++ (codeBits lit 256 ++ Y2)) p1 f0 g0 k2 ⟨hBk.dec.tk,Same.refl _ _,Ext.refl _ _,hbb,hcb,hSt.g7⟩ hBk.dec.sz hBk.hand hSt.bp hSt.cp hSt.h5 hSt.h520 hBk.dec.w3.dd.hblk.lt hSt.O)
  have HBk:=Lib.hid hBk;have HSt:=Lib.hid hSt;have HEx:=Lib.hid hEx
  clear hBk hSt hEx and1 and2 hfb hbb hcb
  go_wp2_with fail
  refine HR.out.mono ?_
  rintro e w5 ⟨c5,p5,hres5,hs5,he5,hbb5,hcb5,h5,h520,hcase5⟩
  have hsz5 : c5.size = 1054:=by rw [hs5.1];exact HBk.out.dec.sz
  have hW5 : W3 x w5 c5 q H hs wr rd fu []:=HBk.out.dec.w3.kept hres5.blk hs5 (fun k hk => by unfold SB BM;omega) he5 (fun e => by rcases e with e | e | e | e;exact ap.Fh e.symm;exact ap.Rh e.symm;exact ap.hB e;exact ap.hC e)
  have hST5 : Std x w5 c5:=⟨by rw [hs5.2 _ (by unfold SB BM;omega)];exact HSt.out.nob,by rw [hs5.2 _ (by unfold SB BM;omega)];exact HSt.out.bp,by rw [hs5.2 _ (by unfold SB BM;omega)];exact HSt.out.cp,h5,h520,hbb5,hcb5,HSt.out.g7.ext he5 (fun e => ap.g7 (by rcases e with e | e | e | e;exact .inl e;exact .inr (.inl e);exact .inr (.inr (.inr (.inl e)));exact .inr (.inr (.inr (.inr e))))),fun k hk => Nat.lt_of_lt_of_le (HSt.out.O k hk) he5.size⟩
  have hex5 : Ext x.M w w5:=HEx.out.trans (he5.mono (fun _ _ e => by rcases e with e | e | e | e;exact .inl e;exact .inr (.inl e);exact .inr (.inr (.inr (.inl e)));exact .inr (.inr (.inr (.inr e)))))
  have hf5:=hres5.blk.free
  have hc48 : w5.cell? ⟨x.F,1048,none⟩ = some .nilIface:=by rw [hres5.blk.cell,hs5.2 _ (by unfold SB BM;omega)];exact HBk.out.err
  rcases hcase5 with ⟨rfl,B5,mn1,mn2,hT5,hB5,ht5,hmn1,ht520,hmn2,hmn15⟩ | ⟨hx,rfl⟩
  ·have hnil5 : c5[1048]? = some .nilIface:=by rw [← hres5.blk.cell];exact hc48
   have hBk5 : Bk x (g.at lit dist fin (pos + 1 + B.length) j Y2) w5 c5 q H hs wr rd fu B5 p5 i (toksBits lit dist toks ++ (codeBits lit 256 ++ Y2)) :=
    ⟨⟨hT5,hW5,hsz5⟩,hB5,by rw [hs5.2 _ (by unfold SB BM;omega)];exact HBk.out.fin,hnil5,HBk.out.rest,HBk.out.hist,HBk.out.base,HBk.out.js.same (hs5.2 _ (by unfold SB BM;omega)) (hs5.2 _ (by unfold SB BM;omega)) (hs5.2 _ (by unfold SB BM;omega)) (Nat.le_refl _)⟩
   have hc50 : ∃ v,w5.cell? ⟨x.F,1050,none⟩ = some v:=⟨c5[1050]'(by omega),by rw [hres5.blk.cell,Array.getElem?_eq_getElem]⟩
   have hc51 : ∃ v,w5.cell? ⟨x.F,1051,none⟩ = some v:=⟨c5[1051]'(by omega),by rw [hres5.blk.cell,Array.getElem?_eq_getElem]⟩
   obtain ⟨y50,hc50⟩:=hc50
   obtain ⟨y51,hc51⟩:=hc51
   have hB50:=hBk5.again (v:=.nilIface) ap hnil5
   have hS50:=hST5.again (v:=.nilIface) ap hnil5
   have hB6:=(hB50.setF ap (j:=1050) (.pointer (some ⟨x.F,5,none⟩)) (.inl rfl)).setF ap (j:=1051) (.pointer (some ⟨x.F,520,none⟩)) (.inr rfl)
   have hS6:=(hS50.setF ap (j:=1050) (.pointer (some ⟨x.F,5,none⟩)) (.inl rfl)).setF ap (j:=1051) (.pointer (some ⟨x.F,520,none⟩)) (.inr rfl)
   have hsm : Same (fun k => k = 1050 ∨ k = 1051) c5 ((c5.setIfInBounds 1050 (.pointer (some ⟨x.F,5,none⟩))).setIfInBounds 1051 (.pointer (some ⟨x.F,520,none⟩))):=((Same.refl _ _).set (.inl rfl) _).set (.inr rfl) _
   have hex6 : Ext (fun k => k = x.F) w5 (((w5.setCell ⟨x.F,1048,none⟩ .nilIface).setCell ⟨x.F,1050,none⟩ (.pointer (some ⟨x.F,5,none⟩))).setCell ⟨x.F,1051,none⟩ (.pointer (some ⟨x.F,520,none⟩))):=(((Ext.refl _ _).only _).only _).only _
   have hht6:=ht5.stay hres5.blk hB6.dec.tk.blk hsm (fun k a c => by omega) hex6 (fun k hk => .inl hk)
   have hht7:=ht520.stay hres5.blk hB6.dec.tk.blk hsm (fun k a c => by omega) hex6 (fun k hk => .inl hk)
   have htab : Tabs x _ ((c5.setIfInBounds 1050 (.pointer (some ⟨x.F,5,none⟩))).setIfInBounds 1051 (.pointer (some ⟨x.F,520,none⟩))) lit dist:=⟨⟨x.F,5,mn1,by rw [set_ne _ _ (by decide)];exact set_eq _ (by omega),hht6,hmn1⟩,k2.glit,by have:=k2.hnl;omega,k2.eob,.inr ⟨mn2,set_eq _ (by simp;omega),hht7,hmn2,hmn15,k2.gdist,by have:=k2.hnd;omega⟩⟩
   have HH:=Lib.hid (huffBlock_any x ap (g.at lit dist fin (pos + 1 + B.length) j Y2) _ _ _ _ q H hs wr rd fu B5 p5 toks i (hB6.enter htab k1 k3))
   have HS6:=Lib.hid hS6
   have HE6 : Hid (Ext x.M w (((w5.setCell ⟨x.F,1048,none⟩ .nilIface).setCell ⟨x.F,1050,none⟩ (.pointer (some ⟨x.F,5,none⟩))).setCell ⟨x.F,1051,none⟩ (.pointer (some ⟨x.F,520,none⟩)))):=Lib.hid (hex5.trans (hex6.mono (fun _ _ e => .inl e)))
   clear hBk5 hB50 hS50 hB6 hS6 hsm hex6 hht6 hht7 htab ht5 ht520 he5 hT5 hW5 hST5 hex5 hres5 hs5 hbb5 hcb5 h5 h520
   go_wp2_with fail
   refine HH.out.mono ?_
   rintro e w6 ⟨rfl,h6⟩
   have H6:=Lib.hid (h6.step ap HS6.out HE6.out hm)
   clear h6
   go_wp2_with fail
   go_end0
   exact H6.out
  ·have hEND : RS x g (w5.setCell ⟨x.F,1048,none⟩ (.iface 175 (.pointer (some x.U)))) (c5.setIfInBounds 1048 (.iface 175 (.pointer (some x.U)))) q [] 0 :=
    .bad (hres5.setF ap _ (by omega)) (hW5.setF _ (by omega)) (by simpa using hsz5) (by have:=HB.out;have:=Ahead.le ha;omega) (.inr ⟨hx,set_eq _ (by omega)⟩)
     (hST5.stay (S:=fun k => k = 1048) ((Same.refl (fun k => k = 1048) c5).set rfl _) (fun k hk => by omega) ((Ext.refl (fun k => k = x.F) w5).only _) (fun e => ap.FB e.symm) (fun e => ap.FC e.symm) (fun e => ap.g7 (.inl e)))
   have HEND:=Lib.hid hEND
   have HE6 : Hid (Ext x.M w (w5.setCell ⟨x.F,1048,none⟩ (.iface 175 (.pointer (some x.U))))):=Lib.hid (hex5.setCell (p:=⟨x.F,1048,none⟩) (fun _ => .inl rfl) _)
   clear hEND he5 hW5 hST5 hex5 hres5 hs5 hbb5 hcb5 h5 h520
   go_wp2_with fail
   go_end0
   exact ⟨rfl,_,[],0,HEND.out,.inl (by omega),HE6.out⟩
end Go.Proofs.YthpapbilhjobnaaGreatDoor
namespace Go.Proofs.YthpapbilhjobnaaGreatDoor
open Go.RowKit Pu
variable {c0 c1 c2 c3 c4 c5 c6 c7 c8 c9 c10 c11 c12 c13 c14 c15 c16 c17 c18 c19 c20 c21 c22 c23 c24 c25 c26 c27 c28 c29 c30 c31 c32 c33 c34 c35 c36 c37 c38 c39 c40 c41 c42 c43 c44 c45 c46 c47 c48 c49 c50 c51 c52 c53 c54 c55 c56 c57 c58 c59 c60 c61 c62 c63 c64 c65 c66 c67 c68 c69 c70 c71 c72 c73 c74 c75 c76 c77 c78 c79 c80 c81 c82 c83 : Value}
theorem Pu.Win.older {hs : List UInt8} {D : List UInt8} (h : Win hs 0 true D) (P : List UInt8) : Win hs 0 true (P ++ D):=by
 have hw:=h.whole rfl
 refine ⟨h.size,h.le,fun e => by simp at e,fun _ => by simp;omega,fun k h1 h2 => ?_⟩
 have hk : k ≤ 32768:=by simpa [hsize] using h2
 rw [h.at_ k h1 h2,List.getElem?_append_right (by simp;omega)]
 congr 1
 simp;omega
theorem made_u8 (n : Nat) : madeCells #[Value.int .u8 0] n = ((List.replicate n (0 : UInt8)).map U8).toArray:=by
 apply Array.ext'
 rw [toList_madeCells_one];simp [U8]
set_option maxRecDepth 100000 in
theorem make_u8 (n : Nat) (h : n ≤ 281474976710656) (w : World) : (Instr.makeSlice 22 (.int .i64 (n : Int)) (.int .i64 (n : Int))).run Tryz.prog w = .ok (.slice (some ⟨w.heap.size,0,none⟩) n n) (w.alloc (.cells ((List.replicate n (0 : UInt8)).map U8).toArray 5)):=by
 have:=run_make_row' (P:=Tryz.prog) 22 5 (.int .u8 0) 1 (by rfl) Tryz.info5 rfl .i64 .i64 n (by omega) (by omega) w
 rw [made_u8] at this
 exact this
noncomputable def if62 (n : Nat) : Code:=(Tryz.f62.body.bind (condOf n)).getD .skip
def Hist (w : World) (F : Nat) (c : Array Value) : Prop :=
 c[1037]? = some (.slice none 0 0) ∨ ∃ (hb : Nat) (hs : List UInt8),c[1037]? = some (.slice (some ⟨hb,0,none⟩) 32768 32768) ∧ Blk w hb (hs.map U8).toArray 5 ∧ hs.length = 32768 ∧ hb ≠ F
def HistB (c : Array Value) (k : Nat) : Prop:=∃ n m,c[1037]? = some (.slice (some ⟨k,0,none⟩) n m)
set_option maxRecDepth 100000 in
set_option maxHeartbeats 4000000 in
theorem dinit_make (F : Nat) (c : Array Value) (w : World) (bb : Bool) (hsz : c.size = 1054) (hb0 : Blk w F c 147) (hh : (c[1037]? = some (.slice none 0 0) ∧ bb = true) ∨ (∃ (hb : Nat) (hs : List UInt8),c[1037]? = some (.slice (some ⟨hb,0,none⟩) 32768 32768) ∧ Blk w hb (hs.map U8).toArray 5 ∧ hs.length = 32768 ∧ hb ≠ F ∧ bb = false)) (Q : Exit → Act → World → Prop)
  (hK : ∀ (u20 u21 u22 u23 u24 : Value) (wx : World) (c' : Array Value) (hb : Nat) (hs : List UInt8),Blk wx F c' 147 → Same (fun k => k = 1037) c c' → c'[1037]? = some (.slice (some ⟨hb,0,none⟩) 32768 32768) → Blk wx hb (hs.map U8).toArray 5 → hs.length = 32768 → hb ≠ F → (HistB c hb ∨ (c[1037]? = some (.slice none 0 0) ∧ w.heap.size ≤ hb)) → Ext (fun k => k = F) w wx → Q .normal ⟨List.toArray ((.pointer (some ⟨F,1037,none⟩))::(.int .i64 32768)::c2::c3::c4::c5::c6::c7::c8::c9::c10::c11::c12::c13::c14::c15::c16::c17::c18::(.bool bb)::u20::u21::u22::u23::u24::c25::c26::c27::c28::c29::c30::c31::c32::c33::c34::c35::c36::c37::c38::c39::c40::c41::c42::c43::c44::c45::c46::c47::c48::c49::c50::c51::c52::c53::c54::c55::c56::c57::c58::c59::c60::c61::c62::c63::c64::c65::c66::c67::c68::c69::c70::c71::c72::c73::c74::c75::c76::c77::c78::c79::c80::c81::c82::c83::[]),[]⟩ wx) :
  Code.wp Tryz.prog (if62 19) Q ⟨List.toArray ((.pointer (some ⟨F,1037,none⟩))::(.int .i64 32768)::c2::c3::c4::c5::c6::c7::c8::c9::c10::c11::c12::c13::c14::c15::c16::c17::c18::(.bool bb)::c20::c21::c22::c23::c24::c25::c26::c27::c28::c29::c30::c31::c32::c33::c34::c35::c36::c37::c38::c39::c40::c41::c42::c43::c44::c45::c46::c47::c48::c49::c50::c51::c52::c53::c54::c55::c56::c57::c58::c59::c60::c61::c62::c63::c64::c65::c66::c67::c68::c69::c70::c71::c72::c73::c74::c75::c76::c77::c78::c79::c80::c81::c82::c83::[]),[]⟩ w:=by
 rcases hh with ⟨h1,rfl⟩ | ⟨hb,hs,h1,h2,h3,h4,rfl⟩
 ·have HK:=Lib.hid hK;have HB:=Lib.hid hb0
  have k1 : w.cell? ⟨F,1037,none⟩ = some (.slice none 0 0):=by rw [hb0.cell];exact h1
  have hf:=hb0.free
  have hFl:=hb0.lt
  obtain ⟨Z,hZ⟩ : ∃ Z,((List.replicate 32768 (0 : UInt8)).map U8).toArray = Z:=⟨_,rfl⟩
  have hmk : (Instr.makeSlice 22 (.int .i64 32768) (.int .i64 32768)).run Tryz.prog w = .ok (.slice (some ⟨w.heap.size,0,none⟩) 32768 32768) (w.alloc (.cells Z 5)):=by rw [← hZ];exact make_u8 32768 (by omega) w
  have H1:=Lib.hid h1;have HZ:=Lib.hid hZ
  clear hK hb0 h1 hZ
  conv => arg 2;whnf
  have hal : Ext (fun _ => False) w (w.alloc (.cells Z 5)):=(Ext.refl _ w).alloc _
  have k2:=hal.cellSome (fun e => e) k1
  have hf2:=(HB.out.alloc (.cells Z 5)).free
  go_wp2_with fail
  have hnew:=Blk.new (w.setCell ⟨F,1037,none⟩ (.slice (some ⟨w.heap.size,0,none⟩) 32768 32768)) Z 5
  have hsz2 : (w.setCell ⟨F,1037,none⟩ (.slice (some ⟨w.heap.size,0,none⟩) 32768 32768)).heap.size = w.heap.size:=by simp [World.setCell]
  rw [hsz2,← HZ.out] at hnew
  rw [← HZ.out]
  exact HK.out _ _ _ _ _ _ (c.setIfInBounds 1037 (.slice (some ⟨w.heap.size,0,none⟩) 32768 32768)) w.heap.size _ ((HB.out.set 1037 _).alloc _) ((Same.refl (fun k => k = 1037) c).set rfl _) (set_eq _ (by omega)) hnew (by rw [List.length_replicate]) (by omega) (.inr ⟨H1.out,Nat.le_refl _⟩) (((Ext.refl _ w).only _).alloc _)
 ·have HK:=Lib.hid hK;have HB:=Lib.hid hb0
  have H1:=Lib.hid h1;have H2:=Lib.hid h2
  clear hK hb0 h1 h2
  conv => arg 2;whnf
  go_wp2_with fail
  exact HK.out _ _ _ _ _ w c hb hs HB.out (Same.refl _ _) H1.out H2.out h3 h4 (.inl ⟨_,_,H1.out⟩) (Ext.refl _ _)
set_option maxRecDepth 100000 in
set_option maxHeartbeats 4000000 in
theorem dinit_cut (F hb : Nat) (c : Array Value) (w : World) (bb : Bool) (n pc : Nat) (pa : Option Addr) (D : List UInt8) (hn : D.length = n) (hn40 : n ≤ 1099511627776) (hnc : n ≤ pc) (hbb : bb = decide (32768 < n)) (hb0 : Blk w F c 147) (h1 : c[1037]? = some (.slice (some ⟨hb,0,none⟩) 32768 32768))
  (hd : 0 < n → ∃ b o,pa = some ⟨b,o,none⟩ ∧ ∀ j y,(D.map U8)[j]? = some y → w.cell? ⟨b,o + j,none⟩ = some y) (Q : Exit → Act → World → Prop)
  (hK : ∀ (u2 u42 u43 u44 u45 u46 u47 u48 u49 u50 u51 : Value) (pa' : Option Addr) (n' pc' : Nat),n' = min n 32768 → n' ≤ pc' → u2 = .slice pa' n' pc' → (0 < n' → ∃ b o,pa' = some ⟨b,o,none⟩ ∧ ∀ j y,((D.drop (n - 32768)).map U8)[j]? = some y → w.cell? ⟨b,o + j,none⟩ = some y) → Q .normal ⟨List.toArray ((.pointer (some ⟨F,1037,none⟩))::c1::u2::c3::c4::c5::c6::c7::c8::c9::c10::c11::c12::c13::c14::c15::c16::c17::c18::c19::c20::c21::c22::c23::c24::c25::c26::c27::c28::c29::c30::c31::c32::c33::c34::c35::c36::c37::c38::c39::c40::(.bool bb)::u42::u43::u44::u45::u46::u47::u48::u49::u50::u51::c52::c53::c54::c55::c56::c57::c58::c59::c60::c61::c62::c63::c64::c65::c66::c67::c68::c69::c70::c71::c72::c73::c74::c75::c76::c77::c78::c79::c80::c81::c82::c83::[]),[]⟩ w) :
  Code.wp Tryz.prog (if62 41) Q ⟨List.toArray ((.pointer (some ⟨F,1037,none⟩))::c1::(.slice pa n pc)::c3::c4::c5::c6::c7::c8::c9::c10::c11::c12::c13::c14::c15::c16::c17::c18::c19::c20::c21::c22::c23::c24::c25::c26::c27::c28::c29::c30::c31::c32::c33::c34::c35::c36::c37::c38::c39::c40::(.bool bb)::c42::c43::c44::c45::c46::c47::c48::c49::c50::c51::c52::c53::c54::c55::c56::c57::c58::c59::c60::c61::c62::c63::c64::c65::c66::c67::c68::c69::c70::c71::c72::c73::c74::c75::c76::c77::c78::c79::c80::c81::c82::c83::[]),[]⟩ w:=by
 rcases Nat.lt_or_ge 32768 n with hlt | hge
 ·obtain rfl : bb = true:=by rw [hbb];exact decide_eq_true hlt
  obtain ⟨b,o,rfl,hcl⟩:=hd (by omega)
  have k1 : w.cell? ⟨F,1037,none⟩ = some (.slice (some ⟨hb,0,none⟩) 32768 32768):=by rw [hb0.cell];exact h1
  have HK:=Lib.hid hK;have HCL:=Lib.hid hcl;have HN:=Lib.hid hn
  obtain ⟨r,hr⟩ : ∃ y,n - 32768 = y:=⟨_,rfl⟩
  have hsub : (n : Int) - 32768 = (r : Int):=by omega
  have hrn : r ≤ n:=by omega
  have hrn2 : (r : Int) ≤ (n : Int):=by omega
  have hnr : n - r = 32768:=by omega
  have hne : ¬ pc = r:=by omega
  have hne2 : ¬ r = pc:=by omega
  have hni : (n : Int) ≤ (pc : Int):=by omega
  have HR:=Lib.hid hr;have HNR:=Lib.hid hnr
  clear hK hcl hb0 h1 hd hbb hr hn hnr
  have hlt2 : (32768 : Int) ≤ (n : Int):=by omega
  conv => arg 2;whnf
  go_wp2_with fail
  exact HK.out _ _ _ _ _ _ _ _ _ _ _ (some ⟨b,o + r,none⟩) (n - r) (pc - r) (by have:=HNR.out;omega) (by omega) rfl (fun _ => ⟨b,o + r,rfl,fun j y hy => by
   rw [HR.out,List.map_drop,List.getElem?_drop] at hy
   rw [Nat.add_assoc];exact HCL.out _ _ hy⟩)
 ·obtain rfl : bb = false:=by rw [hbb];exact decide_eq_false (by omega)
  have HK:=Lib.hid hK
  have hz : n - 32768 = 0:=by omega
  have HD:=Lib.hid hd
  clear hK hb0 h1 hd hbb
  conv => arg 2;whnf
  go_wp2_with fail
  exact HK.out _ _ _ _ _ _ _ _ _ _ _ pa n pc (by omega) hnc rfl (fun h => by rw [hz,List.drop_zero];exact HD.out h)
def DInit (F : Nat) (c : Array Value) (D : List UInt8) (w : World) (e : Ending) (w' : World) : Prop :=
 e = .returned (.tuple #[]) ∧ ∃ c' hb hs wr full,DD w' F hb c' hs wr wr full ∧ Win hs wr full D ∧ wr < 32768 ∧ Same (fun k => 1037 ≤ k ∧ k ≤ 1040) c c' ∧ Ext (fun k => k = F ∨ HistB c k) w w' ∧ (HistB c hb ∨ (c[1037]? = some (.slice none 0 0) ∧ w.heap.size ≤ hb))
set_option maxRecDepth 100000 in
set_option maxHeartbeats 16000000 in
theorem dinit_any (F : Nat) (c : Array Value) (w : World) (v : Value) (D : List UInt8) (hsz : c.size = 1054) (hb0 : Blk w F c 147) (hh : Hist w F c) (hv : Rd w v (D.map U8)) (hD : D.length ≤ 1099511627776) (hvF : ∀ b,v.ownBlock = some b → b ≠ F ∧ ¬ HistB c b) :
  Calls Tryz.prog 62 #[.pointer (some ⟨F,1037,none⟩),.int .i64 32768,v] w (DInit F c D w):=by
 obtain ⟨pa,n,pc,rfl,hn,hnc,hcl⟩ : ∃ pa n pc,v = .slice pa n pc ∧ D.length = n ∧ n ≤ pc ∧ (0 < n → ∃ b o,pa = some ⟨b,o,none⟩ ∧ ∀ j y,(D.map U8)[j]? = some y → w.cell? ⟨b,o + j,none⟩ = some y):=by
  obtain ⟨cap,h1,h2,h3⟩:=hv
  rcases h3 with ⟨rfl,h3⟩ | ⟨b,o,rfl,h3⟩
  ·have : D = []:=by simpa using h3
   subst this
   exact ⟨none,0,0,rfl,rfl,Nat.le_refl _,fun h => absurd h (by omega)⟩
  ·exact ⟨some ⟨b,o,none⟩,_,cap,rfl,by simp,h1,fun _ => ⟨b,o,rfl,h3⟩⟩
 have hpa : ∀ b o,pa = some ⟨b,o,none⟩ → b ≠ F ∧ ¬ HistB c b:=fun b o h => hvF b (by rw [h];rfl)
 have HPA:=Lib.hid hpa;have HCL:=Lib.hid hcl;have HN:=Lib.hid hn;have HH:=Lib.hid hh;have HB0:=Lib.hid hb0
 have hn40 : n ≤ 1099511627776:=by omega
 clear hv hvF hpa hcl hn
 obtain ⟨h37,m37,p37,hc37⟩ : ∃ a m p,c[1037]? = some (.slice a m p):=by
  rcases hh with h | ⟨hb,hs,h,_⟩
  ·exact ⟨_,_,_,h⟩
  ·exact ⟨_,_,_,h⟩
 have k1 : w.cell? ⟨F,1037,none⟩ = some (.slice h37 m37 p37):=by rw [hb0.cell];exact hc37
 have hce : ∀ j,j < 1054 → ∃ v,w.cell? ⟨F,j,none⟩ = some v:=fun j hj => ⟨c[j]'(by omega),by rw [hb0.cell,Array.getElem?_eq_getElem]⟩
 obtain ⟨y38,k2⟩:=hce 1038 (by omega)
 obtain ⟨y39,k3⟩:=hce 1039 (by omega)
 obtain ⟨y40,k4⟩:=hce 1040 (by omega)
 have hf:=hb0.free
 have HC37:=Lib.hid hc37
 clear hce hb0 hh hc37
 go_enter Tryz.func62,Tryz.ntmps62
 go_upto_if 19 with (fail)
 obtain ⟨w1,hw1⟩ : ∃ y,(((w.setCell ⟨F,1037,none⟩ (.slice h37 m37 p37)).setCell ⟨F,1038,none⟩ (.int .i64 0)).setCell ⟨F,1039,none⟩ (.int .i64 0)).setCell ⟨F,1040,none⟩ (.bool false) = y:=⟨_,rfl⟩
 obtain ⟨c1,hc1⟩ : ∃ y,(((c.setIfInBounds 1037 (.slice h37 m37 p37)).setIfInBounds 1038 (.int .i64 0)).setIfInBounds 1039 (.int .i64 0)).setIfInBounds 1040 (.bool false) = y:=⟨_,rfl⟩
 rw [hw1]
 have hb1 : Blk w1 F c1 147:=by rw [← hw1,← hc1];exact (((HB0.out.set 1037 _).set 1038 _).set 1039 _).set 1040 _
 have hs1 : Same (fun k => k = 1038 ∨ k = 1039 ∨ k = 1040) c c1:=by rw [← hc1,set_self HC37.out];exact (((Same.refl _ c).set (by omega) _).set (by omega) _).set (by omega) _
 have he1 : Ext (fun k => k = F) w w1:=by rw [← hw1];exact ((((Ext.refl _ w).only _).only _).only _).only _
 have hsz1 : c1.size = 1054:=by rw [hs1.1];exact hsz
 have q37 : c1[1037]? = some (.slice h37 m37 p37):=by rw [hs1.2 _ (by omega)];exact HC37.out
 have q38 : c1[1038]? = some (.int .i64 0):=by rw [← hc1,set_ne _ _ (by decide),set_ne _ _ (by decide)];exact set_eq _ (by simp;omega)
 have q39 : c1[1039]? = some (.int .i64 0):=by rw [← hc1,set_ne _ _ (by decide)];exact set_eq _ (by simp;omega)
 have q40 : c1[1040]? = some (.bool false):=by rw [← hc1];exact set_eq _ (by simp;omega)
 have Q1:=Lib.hid q37;have Q2:=Lib.hid q38;have Q3:=Lib.hid q39;have Q4:=Lib.hid q40;have HS1:=Lib.hid hs1;have HE1:=Lib.hid he1;have HB1:=Lib.hid hb1
 have HM : Hid (∀ bb : Bool,bb = decide ((p37 : Int) < 32768) → (c1[1037]? = some (.slice none 0 0) ∧ bb = true) ∨ (∃ (hb : Nat) (hs : List UInt8),c1[1037]? = some (.slice (some ⟨hb,0,none⟩) 32768 32768) ∧ Blk w1 hb (hs.map U8).toArray 5 ∧ hs.length = 32768 ∧ hb ≠ F ∧ bb = false)):=Lib.hid (by
  intro bb hbb
  rcases HH.out with h | ⟨hb,hs,h,g1,g2,g3⟩
  ·have:=HC37.out;rw [h] at this;cases this
   exact .inl ⟨q37,by rw [hbb];simp⟩
  ·have:=HC37.out;rw [h] at this;cases this
   exact .inr ⟨hb,hs,q37,g1.ext he1 g3,g2,g3,by rw [hbb];simp⟩)
 clear hw1 hc1 k1 k2 k3 k4 hf hb1 hs1 he1 q37 q38 q39 q40
 refine dinit_make F c1 w1 (decide ((p37 : Int) < 32768)) hsz1 HB1.out (HM.out _ rfl) _ ?_
 intro u20 u21 u22 u23 u24 w2 c2 hb hs hb2 hs2 q37 hhb hhl hne hhn he2
 have hsz2 : c2.size = 1054:=by rw [hs2.1];exact hsz1
 have q38 : c2[1038]? = some (.int .i64 0):=by rw [hs2.2 _ (by omega)];exact Q2.out
 have q39 : c2[1039]? = some (.int .i64 0):=by rw [hs2.2 _ (by omega)];exact Q3.out
 have q40 : c2[1040]? = some (.bool false):=by rw [hs2.2 _ (by omega)];exact Q4.out
 have k37 : w2.cell? ⟨F,1037,none⟩ = some (.slice (some ⟨hb,0,none⟩) 32768 32768):=by rw [hb2.cell];exact q37
 have hf2:=hb2.free
 have hcl2 : 0 < n → ∃ b o,pa = some ⟨b,o,none⟩ ∧ ∀ j y,(D.map U8)[j]? = some y → w2.cell? ⟨b,o + j,none⟩ = some y:=by
  intro h
  obtain ⟨b,o,rfl,hc⟩:=HCL.out h
  have hbF:=(HPA.out b o rfl).1
  exact ⟨b,o,rfl,fun j y hy => he2.cellSome hbF (HE1.out.cellSome hbF (hc j y hy))⟩
 have HB2:=Lib.hid hb2;have HS2:=Lib.hid hs2;have HE2:=Lib.hid he2;have HHB:=Lib.hid hhb;have HCL2:=Lib.hid hcl2;have HQ37:=Lib.hid q37;have HQ38:=Lib.hid q38;have HQ39:=Lib.hid q39;have HQ40:=Lib.hid q40;have HHN:=Lib.hid hhn
 clear hb2 hs2 he2 hhb hcl2 q37 q38 q39 q40 hhn
 go_upto_if 41 with (fail)
 obtain ⟨w3,hw3⟩ : ∃ y,w2.setCell ⟨F,1037,none⟩ (.slice (some ⟨hb,0,none⟩) 32768 32768) = y:=⟨_,rfl⟩
 rw [hw3]
 have hb3 : Blk w3 F c2 147:=by
  have:=HB2.out.set 1037 (.slice (some ⟨hb,0,none⟩) 32768 32768)
  rw [set_self HQ37.out] at this
  rw [← hw3];exact this
 have he3 : Ext (fun k => k = F) w2 w3:=by rw [← hw3];exact (Ext.refl _ w2).only _
 have hcl3 : 0 < n → ∃ b o,pa = some ⟨b,o,none⟩ ∧ ∀ j y,(D.map U8)[j]? = some y → w3.cell? ⟨b,o + j,none⟩ = some y:=by
  intro h
  obtain ⟨b,o,rfl,hc⟩:=HCL2.out h
  exact ⟨b,o,rfl,fun j y hy => he3.cellSome (HPA.out b o rfl).1 (hc j y hy)⟩
 refine dinit_cut F hb c2 w3 (decide ((32768 : Int) < (n : Int))) n pc pa D HN.out hn40 hnc (by simp;omega) hb3 HQ37.out hcl3 _ ?_
 intro u2 u42 u43 u44 u45 u46 u47 u48 u49 u50 u51 pa2 L2 pc2 hL2 hLc hu2 hcl4
 subst hu2
 obtain ⟨D2,hD2⟩ : ∃ y,D.drop (n - 32768) = y:=⟨_,rfl⟩
 rw [hD2] at hcl4
 have hD2l : D2.length = L2:=by rw [← hD2,List.length_drop,HN.out,hL2];omega
 have hL32 : L2 ≤ 32768:=by omega
 have hhb3 : Blk w3 hb (hs.map U8).toArray 5:=HHB.out.ext he3 hne
 obtain ⟨w4,hr,hB4,he4⟩:=run_copy_bytes (P:=Tryz.prog) w3 22 22 3 5 rfl Tryz.size5 hb 0 32768 32768 L2 pc2 (some ⟨hb,0,none⟩) pa2 hs 5 hhb3 D2 (by rw [hD2l];exact (Nat.min_eq_left hL32).symm) (fun h => by
  obtain ⟨b,o,g1,g2⟩:=hcl4 (by omega)
  exact ⟨rfl,b,o,g1,g2⟩) (by rw [hD2l,hhl];omega)
 rw [hD2l] at hr
 have hb4 : Blk w4 F c2 147:=hb3.ext he4 (Ne.symm hne)
 have hf4:=hb4.free
 have z37 : w3.cell? ⟨F,1037,none⟩ = some (.slice (some ⟨hb,0,none⟩) 32768 32768):=by rw [hb3.cell];exact HQ37.out
 have z374 : w4.cell? ⟨F,1037,none⟩ = some (.slice (some ⟨hb,0,none⟩) 32768 32768):=by rw [hb4.cell];exact HQ37.out
 have z384 : w4.cell? ⟨F,1038,none⟩ = some (.int .i64 0):=by rw [hb4.cell];exact HQ38.out
 have z394 : w4.cell? ⟨F,1039,none⟩ = some (.int .i64 0):=by rw [hb4.cell];exact HQ39.out
 have z404 : w4.cell? ⟨F,1040,none⟩ = some (.bool false):=by rw [hb4.cell];exact HQ40.out
 have hw0 : Win hs 0 false []:=Win.start [] hhl (by simp) (by simp)
 have hw1:=hw0.lay D2 (by omega)
 rw [Nat.zero_add,List.nil_append,hD2l] at hw1
 have hS2 : Same (fun k => 1037 ≤ k ∧ k ≤ 1040) c c2:=(HS1.out.mono (fun k e => by omega)).trans (HS2.out.mono (fun k e => by omega))
 have hHB : HistB c hb ∨ (c[1037]? = some (.slice none 0 0) ∧ w.heap.size ≤ hb):=by
  rcases HHN.out with ⟨a,b,h⟩ | h
  ·refine .inl ⟨a,b,?_⟩
   rw [← HS1.out.2 _ (by omega)];exact h
  ·exact .inr ⟨by rw [← HS1.out.2 _ (by omega)];exact h.1,Nat.le_trans HE1.out.size h.2⟩
 have hE4 : Ext (fun k => k = F ∨ HistB c k) w w4:=by
  have h3 : Ext (fun k => k = F) w w3:=(HE1.out.trans HE2.out).trans he3
  refine (h3.mono (fun _ _ e => .inl e)).trans' (he4) (fun i hi e => ?_)
  rcases hHB with h | h
  ·rw [e];exact .inr h
  ·omega
 have HB4:=Lib.hid hB4;have HBL4:=Lib.hid hb4;have HW1:=Lib.hid hw1;have HSS:=Lib.hid hS2;have HEE:=Lib.hid hE4;have HHB2:=Lib.hid hHB;have HD2:=Lib.hid hD2;have HL2:=Lib.hid hL2
 have hlay : (Pu.lay hs 0 D2).length = 32768:=by rw [length_lay];exact hhl
 clear hw3 hb3 he3 hcl3 hcl4 hD2 hD2l hhb3 hB4 he4 hb4 hw0 hw1 hS2 hHB hE4 k37 hf2 hL2
 have hFhb : ¬ F = hb:=fun e => hne e.symm
 rcases Nat.lt_or_ge L2 32768 with hlt | hge
 ·have hq : ((L2 : Int) == 32768) = false:=by simp;omega
  go_wp2_with fail
  go_quiet (fail)
  go_wp2_with fail
  go_end0
  have hDD : D2 = D:=by rw [← HD2.out,show n - 32768 = 0 by have:=HL2.out;omega,List.drop_zero]
  refine ⟨rfl,(c2.setIfInBounds 1038 (.int .i64 (L2 : Int))).setIfInBounds 1039 (.int .i64 (L2 : Int)),hb,Pu.lay hs 0 D2,L2,false,⟨((HBL4.out.set 1038 _).drewN nq).set 1039 _,by rw [set_ne _ _ (by decide),set_ne _ _ (by decide)];exact HQ37.out,by rw [set_ne _ _ (by decide)];exact set_eq _ (by omega),set_eq _ (by simp;omega),by rw [set_ne _ _ (by decide),set_ne _ _ (by decide)];exact HQ40.out,
   ((HB4.out.setOther _ _ hne).drewN nq).setOther _ _ hne,hne,hlay,by omega,Nat.le_refl _⟩,by rw [← hDD];exact HW1.out,hlt,(HSS.out.set (by omega) _).set (by omega) _,((HEE.out.setCell (p:=⟨F,1038,none⟩) (fun _ => .inl rfl) _).drewN nq).setCell (p:=⟨F,1039,none⟩) (fun _ => .inl rfl) _,HHB2.out⟩
 ·have hL : L2 = 32768:=by omega
  have hq : ((L2 : Int) == 32768) = true:=by simp;omega
  have HLE:=Lib.hid hL
  clear hL
  go_wp2_with fail
  go_quiet (fail)
  go_wp2_with fail
  go_end0
  have hDD : D.take (n - 32768) ++ D2 = D:=by rw [← HD2.out];exact List.take_append_drop _ _
  have hw2:=HW1.out
  rw [HLE.out] at hw2
  have hw3:=hw2.turn.older (D.take (n - 32768))
  rw [hDD] at hw3
  refine ⟨rfl,(((c2.setIfInBounds 1038 (.int .i64 (L2 : Int))).setIfInBounds 1038 (.int .i64 0)).setIfInBounds 1040 (.bool true)).setIfInBounds 1039 (.int .i64 0),hb,Pu.lay hs 0 D2,0,true,⟨((((HBL4.out.set 1038 _).drewN nq).set 1038 _).set 1040 _).set 1039 _,by rw [set_ne _ _ (by decide),set_ne _ _ (by decide),set_ne _ _ (by decide),set_ne _ _ (by decide)];exact HQ37.out,by rw [set_ne _ _ (by decide),set_ne _ _ (by decide)];exact set_eq _ (by simp;omega),by exact set_eq _ (by simp;omega),by rw [set_ne _ _ (by decide)];exact set_eq _ (by simp;omega),
   ((((HB4.out.setOther _ _ hne).drewN nq).setOther _ _ hne).setOther _ _ hne).setOther _ _ hne,hne,hlay,by omega,Nat.le_refl _⟩,hw3,by omega,(((HSS.out.set (by omega) _).set (by omega) _).set (by omega) _).set (by omega) _,((((HEE.out.setCell (p:=⟨F,1038,none⟩) (fun _ => .inl rfl) _).drewN nq).setCell (p:=⟨F,1038,none⟩) (fun _ => .inl rfl) _).setCell (p:=⟨F,1040,none⟩) (fun _ => .inl rfl) _).setCell (p:=⟨F,1039,none⟩) (fun _ => .inl rfl) _,HHB2.out⟩
end Go.Proofs.YthpapbilhjobnaaGreatDoor
namespace Go.Proofs.YthpapbilhjobnaaGreatDoor
open Go.RowKit Pu
set_option maxRecDepth 100000 in
set_option maxHeartbeats 4000000 in
theorem makeReader_any (F R : Nat) (c : Array Value) (w : World) (hsz : c.size = 1054) (hb : Blk w F c 147) :
  Calls Tryz.prog 60 #[.pointer (some ⟨F,0,none⟩),.iface 50 (.pointer (some ⟨R,0,none⟩))] w fun e w' => e = .returned (.tuple #[]) ∧ Blk w' F ((c.setIfInBounds 1 (.pointer none)).setIfInBounds 0 (.iface 50 (.pointer (some ⟨R,0,none⟩)))) 147 ∧ Ext (fun k => k = F) w w':=by
 have hce : ∀ j,j < 1054 → ∃ v,w.cell? ⟨F,j,none⟩ = some v:=fun j hj => ⟨c[j]'(by omega),by rw [hb.cell,Array.getElem?_eq_getElem]⟩
 obtain ⟨y0,k0⟩:=hce 0 (by omega)
 obtain ⟨y1,k1⟩:=hce 1 (by omega)
 have hf:=hb.free
 have HB:=Lib.hid hb
 have hta : ∀ (a : Addr) (w : World),(Instr.typeAssert (.iface 50 (.pointer (some a))) 78 86 true).run Tryz.prog w = .ok (.tuple #[.iface 50 (.pointer (some a)),.bool true]) w:=fun a w => by kernel_rfl
 clear hce hb
 go_enter Tryz.func60,Tryz.ntmps60
 go_wp2_with fail
 exact ⟨rfl,.tuple #[],by kernel_rfl,rfl,(HB.out.set 1 _).set 0 _,((Ext.refl _ w).only _).only _⟩
def z147t : List Value:=[.pointer none,.pointer none,.slice none 0 0,.int .i64 0,.int .i64 0,.bool false,.int .u8 0,.int .u8 0,.int .u8 0,.int .u8 0,.nilFunc,.int .i64 0,.bool false,.nilIface,.slice none 0 0,.pointer none,.pointer none,.int .i64 0,.int .i64 0]
def z147l : List Value:=[.nilIface,.pointer none,.int .i64 0,.int .u32 0,.int .u64 0] ++ (z139l ++ (z139l ++ z147t))
def z147 : Array Value:=z147l.toArray
theorem zc147 : Tryz.zeroCells147 = z147:=by kernel_rfl
theorem z139l_len : z139l.length = 515:=by have:=z139_size;unfold z139 at this;simpa using this
theorem z147_size : z147.size = 1054:=by
 unfold z147 z147l
 simp only [List.size_toArray,List.length_append,z139l_len];rfl
theorem z147_low (j : Nat) (h : j < 5) : z147[j]? = ([.nilIface,.pointer none,.int .i64 0,.int .u32 0,.int .u64 0] : List Value)[j]?:=by
 unfold z147 z147l
 rw [List.getElem?_toArray,List.getElem?_append_left (by simpa using h)]
set_option maxRecDepth 100000 in
theorem z147_h1 (j : Nat) (v : Value) (h : z139l[j]? = some v) : z147[5 + j]? = some v:=by
 have hj:=(List.getElem?_eq_some_iff.1 h).1
 unfold z147 z147l
 rw [List.getElem?_toArray,List.getElem?_append_right (by simp),List.getElem?_append_left (by simp;omega)]
 simpa using h
set_option maxRecDepth 100000 in
theorem z147_h2 (j : Nat) (v : Value) (h : z139l[j]? = some v) : z147[520 + j]? = some v:=by
 have hj:=(List.getElem?_eq_some_iff.1 h).1
 have hl:=z139l_len
 unfold z147 z147l
 rw [List.getElem?_toArray,List.getElem?_append_right (by simp;omega),List.getElem?_append_right (by simp;omega),List.getElem?_append_left (by simp;omega),hl]
 rw [← h];congr 1;simp;omega
set_option maxRecDepth 100000 in
theorem z147_top (j : Nat) : z147[1035 + j]? = z147t[j]?:=by
 have hl:=z139l_len
 unfold z147 z147l
 rw [List.getElem?_toArray,List.getElem?_append_right (by simp;omega),List.getElem?_append_right (by simp;omega),List.getElem?_append_right (by simp;omega),hl]
 congr 1;simp;omega
structure FreshR (w : World) (F R Bb Cb hb : Nat) (c : Array Value) (hs : List UInt8) (wr : Nat) (full : Bool) (D : List UInt8) : Prop where
 sz : c.size = 1054
 dd : DD w F hb c hs wr wr full
 win : Win hs wr full D
 lt : wr < 32768
 rdr : c[0]? = some (.iface 50 (.pointer (some ⟨R,0,none⟩)))
 nob : c[1]? = some (.pointer none)
 off : c[2]? = some (.int .i64 0)
 b : c[3]? = some (.int .u32 0)
 nb : c[4]? = some (.int .u64 0)
 h5 : HD c 5
 h520 : HD c 520
 bp : c[1035]? = some (.pointer (some ⟨Bb,0,none⟩))
 cp : c[1036]? = some (.pointer (some ⟨Cb,0,none⟩))
 step : c[1045]? = some (fnV 61)
 state : c[1046]? = some (.int .i64 0)
 err : c[1048]? = some .nilIface
 out : c[1049]? = some (.slice none 0 0)
 bb : ∃ f,Blk w Bb (arr 316 f) 149
 cb : ∃ g,Blk w Cb (arr 19 g) 150
def FNew (R : Nat) (D : List UInt8) (w : World) (e : Ending) (w' : World) : Prop :=
 ∃ F Bb Cb hb c hs wr full,e = .returned (.iface 151 (.pointer (some ⟨F,0,none⟩))) ∧ w.heap.size ≤ F ∧ F < Bb ∧ Bb < Cb ∧ Cb < hb ∧ FreshR w' F R Bb Cb hb c hs wr full D ∧ Ext (fun _ => False) w w'
theorem zc149 : Tryz.zeroCells149 = arr 316 (fun _ => 0):=by kernel_rfl
theorem zc150 : (#[.int .i64 0,.int .i64 0,.int .i64 0,.int .i64 0,.int .i64 0,.int .i64 0,.int .i64 0,.int .i64 0,.int .i64 0,.int .i64 0,.int .i64 0,.int .i64 0,.int .i64 0,.int .i64 0,.int .i64 0,.int .i64 0,.int .i64 0,.int .i64 0,.int .i64 0] : Array Value) = arr 19 (fun _ => 0):=by kernel_rfl
theorem set_get {c : Array Value} {k j : Nat} {v w : Value} (h : c[j]? = some w) (hk : k ≠ j) : (c.setIfInBounds k v)[j]? = some w:=by rw [set_ne _ _ hk];exact h
theorem freshCells (R Bb Cb : Nat) (c4 c5 : Array Value) (hc : c4 = ((((z147.setIfInBounds 1 (.pointer none)).setIfInBounds 0 (.iface 50 (.pointer (some ⟨R,0,none⟩)))).setIfInBounds 1035 (.pointer (some ⟨Bb,0,none⟩))).setIfInBounds 1036 (.pointer (some ⟨Cb,0,none⟩))).setIfInBounds 1045 (fnV 61)) (hs : Same (fun k => 1037 ≤ k ∧ k ≤ 1040) c4 c5)
  {w : World} {F hb wr : Nat} {hist : List UInt8} {full : Bool} {D : List UInt8} (hd : DD w F hb c5 hist wr wr full) (hw : Win hist wr full D) (hlt : wr < 32768) (hbb : Blk w Bb (arr 316 (fun _ => 0)) 149) (hcb : Blk w Cb (arr 19 (fun _ => 0)) 150) : FreshR w F R Bb Cb hb c5 hist wr full D:=by
 have hz:=z147_size
 have hsz4 : c4.size = 1054:=by rw [hc];simpa using hz
 have hn : ∀ j v,z147[j]? = some v → j ≠ 0 → j ≠ 1 → j ≠ 1035 → j ≠ 1036 → j ≠ 1045 → ¬ (1037 ≤ j ∧ j ≤ 1040) → c5[j]? = some v:=by
  intro j v h a b c d e f
  rw [hs.2 j f,hc]
  exact set_get (set_get (set_get (set_get (set_get h (Ne.symm b)) (Ne.symm a)) (Ne.symm c)) (Ne.symm d)) (Ne.symm e)
 have ht : ∀ j v,z147t[j]? = some v → j ≠ 0 → j ≠ 1 → j ≠ 10 → ¬ (2 ≤ j ∧ j ≤ 5) → c5[1035 + j]? = some v:=fun j v h a b c d => hn _ v (by rw [z147_top];exact h) (by omega) (by omega) (by omega) (by omega) (by omega) (by omega)
 refine ⟨by rw [hs.1];exact hsz4,hd,hw,hlt,?_,?_,hn 2 _ (by rw [z147_low 2 (by omega)];rfl) (by omega) (by omega) (by omega) (by omega) (by omega) (by omega),hn 3 _ (by rw [z147_low 3 (by omega)];rfl) (by omega) (by omega) (by omega) (by omega) (by omega) (by omega),
  hn 4 _ (by rw [z147_low 4 (by omega)];rfl) (by omega) (by omega) (by omega) (by omega) (by omega) (by omega),(HD.zero (ho:=5) fun j v h => ?_).1,(HD.zero (ho:=520) fun j v h => ?_).1,?_,?_,?_,ht 11 _ rfl (by omega) (by omega) (by omega) (by omega),ht 13 _ rfl (by omega) (by omega) (by omega) (by omega),ht 14 _ rfl (by omega) (by omega) (by omega) (by omega),⟨_,hbb⟩,⟨_,hcb⟩⟩
 ·rw [hs.2 _ (by omega),hc,set_ne _ _ (by decide),set_ne _ _ (by decide),set_ne _ _ (by decide)];exact set_eq _ (by simp;omega)
 ·rw [hs.2 _ (by omega),hc,set_ne _ _ (by decide),set_ne _ _ (by decide),set_ne _ _ (by decide),set_ne _ _ (by decide)];exact set_eq _ (by omega)
 ·have hj:=(List.getElem?_eq_some_iff.1 h).1
  rw [z139l_len] at hj
  exact hn _ v (z147_h1 j v h) (by omega) (by omega) (by omega) (by omega) (by omega) (by omega)
 ·have hj:=(List.getElem?_eq_some_iff.1 h).1
  rw [z139l_len] at hj
  exact hn _ v (z147_h2 j v h) (by omega) (by omega) (by omega) (by omega) (by omega) (by omega)
 ·rw [hs.2 _ (by omega),hc,set_ne _ _ (by decide),set_ne _ _ (by decide)];exact set_eq _ (by simp;omega)
 ·rw [hs.2 _ (by omega),hc,set_ne _ _ (by decide)];exact set_eq _ (by simp;omega)
 ·rw [hs.2 _ (by omega),hc];exact set_eq _ (by simp;omega)
set_option maxRecDepth 100000 in
set_option maxHeartbeats 8000000 in
theorem fnew_dict (R : Nat) (v : Value) (D : List UInt8) (w : World) (hv : Rd w v (D.map U8)) (hD : D.length ≤ 1099511627776) (hvs : ∀ b,v.ownBlock = some b → b < w.heap.size) :
  Calls Tryz.prog 52 #[.iface 50 (.pointer (some ⟨R,0,none⟩)),v] w (FNew R D w):=by
 have HV:=Lib.hid hv;have HVS:=Lib.hid hvs
 clear hv hvs
 obtain ⟨F,hF⟩ : ∃ F,w.heap.size = F:=⟨_,rfl⟩
 obtain ⟨w1,hw1⟩ : ∃ y,w.alloc (.cells Tryz.zeroCells147 147) = y:=⟨_,rfl⟩
 have hb1 : Blk w1 F z147 147:=by rw [← hw1,← hF,zc147];exact Blk.new w _ _
 obtain ⟨Z,hZ⟩ : ∃ Z,z147 = Z:=⟨_,rfl⟩
 rw [hZ] at hb1
 have hz : Z.size = 1054:=by rw [← hZ];exact z147_size
 have HMR:=Lib.hid (makeReader_any F R Z w1 hz hb1)
 have he1 : Ext (fun _ => False) w w1:=by rw [← hw1];exact (Ext.refl _ w).alloc _
 have HZ:=Lib.hid hZ;have HF:=Lib.hid hF;have HE1:=Lib.hid he1;have HW1:=Lib.hid hw1
 clear hF hZ hw1 hb1 he1
 go_enter Tryz.func52,Tryz.ntmps52
 go_wp2_with fail
 rw [HW1.out,HF.out]
 refine HMR.out.mono ?_
 rintro e w2 ⟨rfl,hb2,he2⟩
 obtain ⟨c2,hc2⟩ : ∃ y,(Z.setIfInBounds 1 (.pointer none)).setIfInBounds 0 (.iface 50 (.pointer (some ⟨R,0,none⟩))) = y:=⟨_,rfl⟩
 rw [hc2] at hb2
 have hf2:=hb2.free
 have hsz2 : c2.size = 1054:=by rw [← hc2];simp;exact hz
 have HC2:=Lib.hid hc2;have HB2:=Lib.hid hb2;have HE2:=Lib.hid he2
 have hce2 : ∀ j,j < 1054 → ∃ v,c2[j]? = some v:=fun j hj => ⟨c2[j]'(by omega),Array.getElem?_eq_getElem _⟩
 obtain ⟨y35,h35⟩:=hce2 1035 (by omega)
 have ka:=(hb2.alloc (.cells Tryz.zeroCells149 149)).cell 1035
 rw [h35] at ka
 have hfa:=(hb2.alloc (.cells Tryz.zeroCells149 149)).free
 clear hc2 he2
 go_upto_region 4 with (fail)
 obtain ⟨Bb,hBb⟩ : ∃ y,w2.heap.size = y:=⟨_,rfl⟩
 rw [hBb]
 have hnb : Blk (w2.alloc (.cells Tryz.zeroCells149 149)) Bb (arr 316 (fun _ => 0)) 149:=by rw [← hBb,← zc149];exact Blk.new w2 _ _
 have hFB : F < Bb:=by rw [← hBb];exact HB2.out.lt
 obtain ⟨w3,hw3⟩ : ∃ y,(w2.alloc (.cells Tryz.zeroCells149 149)).setCell ⟨F,1035,none⟩ (.pointer (some ⟨Bb,0,none⟩)) = y:=⟨_,rfl⟩
 rw [hw3]
 have hbb3 : Blk w3 Bb (arr 316 (fun _ => 0)) 149:=by rw [← hw3];exact hnb.setOther _ _ (by simp;omega)
 have hb3 : Blk w3 F (c2.setIfInBounds 1035 (.pointer (some ⟨Bb,0,none⟩))) 147:=by rw [← hw3];exact (HB2.out.alloc _).set 1035 _
 have he3 : Ext (fun k => k = F) w2 w3:=by rw [← hw3];exact ((Ext.refl (fun k => k = F) w2).alloc _).only _
 obtain ⟨c3,hc3⟩ : ∃ y,c2.setIfInBounds 1035 (.pointer (some ⟨Bb,0,none⟩)) = y:=⟨_,rfl⟩
 rw [hc3] at hb3
 have hsz3 : c3.size = 1054:=by rw [← hc3];simp;exact hsz2
 obtain ⟨y36,h36⟩ : ∃ v,c3[1036]? = some v:=⟨c3[1036]'(by omega),Array.getElem?_eq_getElem _⟩
 have hf3:=hb3.free
 have ka3:=(hb3.alloc (.cells #[.int .i64 0,.int .i64 0,.int .i64 0,.int .i64 0,.int .i64 0,.int .i64 0,.int .i64 0,.int .i64 0,.int .i64 0,.int .i64 0,.int .i64 0,.int .i64 0,.int .i64 0,.int .i64 0,.int .i64 0,.int .i64 0,.int .i64 0,.int .i64 0,.int .i64 0] 150)).cell 1036
 rw [h36] at ka3
 have hfa3:=(hb3.alloc (.cells #[.int .i64 0,.int .i64 0,.int .i64 0,.int .i64 0,.int .i64 0,.int .i64 0,.int .i64 0,.int .i64 0,.int .i64 0,.int .i64 0,.int .i64 0,.int .i64 0,.int .i64 0,.int .i64 0,.int .i64 0,.int .i64 0,.int .i64 0,.int .i64 0,.int .i64 0] 150)).free
 have HBB3:=Lib.hid hbb3;have HB3:=Lib.hid hb3;have HE3:=Lib.hid he3;have HC3:=Lib.hid hc3;have HBB:=Lib.hid hBb
 clear hb2 hf2 hce2 h35 ka hfa hBb hnb hw3 hbb3 hb3 he3 hc3 h36
 go_upto_region 5 with (fail)
 obtain ⟨Cb,hCb⟩ : ∃ y,w3.heap.size = y:=⟨_,rfl⟩
 rw [hCb]
 have hnb : Blk (w3.alloc (.cells #[.int .i64 0,.int .i64 0,.int .i64 0,.int .i64 0,.int .i64 0,.int .i64 0,.int .i64 0,.int .i64 0,.int .i64 0,.int .i64 0,.int .i64 0,.int .i64 0,.int .i64 0,.int .i64 0,.int .i64 0,.int .i64 0,.int .i64 0,.int .i64 0,.int .i64 0] 150)) Cb (arr 19 (fun _ => 0)) 150:=by rw [← hCb,← zc150];exact Blk.new w3 _ _
 have hBC : Bb < Cb:=by rw [← hCb];exact HBB3.out.lt
 obtain ⟨w4,hw4⟩ : ∃ y,(w3.alloc (.cells #[.int .i64 0,.int .i64 0,.int .i64 0,.int .i64 0,.int .i64 0,.int .i64 0,.int .i64 0,.int .i64 0,.int .i64 0,.int .i64 0,.int .i64 0,.int .i64 0,.int .i64 0,.int .i64 0,.int .i64 0,.int .i64 0,.int .i64 0,.int .i64 0,.int .i64 0] 150)).setCell ⟨F,1036,none⟩ (.pointer (some ⟨Cb,0,none⟩)) = y:=⟨_,rfl⟩
 rw [hw4]
 have hbb4 : Blk w4 Bb (arr 316 (fun _ => 0)) 149:=by rw [← hw4];exact (HBB3.out.alloc _).setOther _ _ (by simp;omega)
 have hcb4 : Blk w4 Cb (arr 19 (fun _ => 0)) 150:=by rw [← hw4];exact hnb.setOther _ _ (by simp;omega)
 have hb4 : Blk w4 F (c3.setIfInBounds 1036 (.pointer (some ⟨Cb,0,none⟩))) 147:=by rw [← hw4];exact (HB3.out.alloc _).set 1036 _
 have he4 : Ext (fun k => k = F) w3 w4:=by rw [← hw4];exact ((Ext.refl (fun k => k = F) w3).alloc _).only _
 obtain ⟨c4,hc4⟩ : ∃ y,c3.setIfInBounds 1036 (.pointer (some ⟨Cb,0,none⟩)) = y:=⟨_,rfl⟩
 rw [hc4] at hb4
 have hsz4 : c4.size = 1054:=by rw [← hc4];simp;exact hsz3
 obtain ⟨y45,h45⟩ : ∃ v,c4[1045]? = some v:=⟨c4[1045]'(by omega),Array.getElem?_eq_getElem _⟩
 have k45 : w4.cell? ⟨F,1045,none⟩ = some y45:=by rw [hb4.cell];exact h45
 have hf4:=hb4.free
 have hb5:=hb4.set 1045 (fnV 61)
 have hEF : Ext (fun k => k = F) w (w4.setCell ⟨F,1045,none⟩ (fnV 61)):=((((HE1.out.mono (fun _ _ e => e.elim)).trans HE2.out).trans HE3.out).trans he4).only _
 have hzz : z147[1037]? = some (.slice none 0 0):=by rw [z147_top 2];rfl
 have hh37 : (c4.setIfInBounds 1045 (fnV 61))[1037]? = some (.slice none 0 0):=by
  rw [← hc4,← HC3.out,← HC2.out,← HZ.out,set_ne _ _ (by decide),set_ne _ _ (by decide),set_ne _ _ (by decide),set_ne _ _ (by decide),set_ne _ _ (by decide)]
  exact hzz
 have hnh : ∀ k,¬ HistB (c4.setIfInBounds 1045 (fnV 61)) k:=by
  rintro k ⟨n,m,h⟩
  rw [hh37] at h;cases h
 have HDI:=Lib.hid (dinit_any F (c4.setIfInBounds 1045 (fnV 61)) _ v D (by simp;exact hsz4) hb5 (.inl hh37) (HV.out.ext hEF (fun b hb e => by have:=HVS.out b hb;have:=HF.out;omega)) hD (fun b hb => ⟨fun e => by have:=HVS.out b hb;have:=HF.out;omega,hnh b⟩))
 have HB5:=Lib.hid hb5;have HBB4:=Lib.hid hbb4;have HCB4:=Lib.hid hcb4;have HC4:=Lib.hid hc4;have HNH:=Lib.hid hnh;have HCBE:=Lib.hid hCb;have HEF:=Lib.hid hEF
 clear hnb hw4 hbb4 hcb4 hb4 he4 hc4 h45 hb5 hEF hzz hh37 hnh hCb ka3 hfa3 hf3
 go_wp2_with fail
 refine HDI.out.mono ?_
 rintro e w5 ⟨rfl,c5,hb,hs,wr,full,hdd,hwin,hlt,hsame,hext,hhb⟩
 have hCs : Cb < w4.heap.size:=HCB4.out.lt
 have hw4s : (w4.setCell ⟨F,1045,none⟩ (fnV 61)).heap.size = w4.heap.size:=by simp [World.setCell]
 have hhb2 : w4.heap.size ≤ hb:=by
  rcases hhb with h | h
  ·exact absurd h (HNH.out hb)
  ·have:=h.2;omega
 have hx5 : Ext (fun k => k = F) (w4.setCell ⟨F,1045,none⟩ (fnV 61)) w5:=hext.mono (fun k _ e => by rcases e with e | e;exact e;exact absurd e (HNH.out k))
 have hFr : FreshR w5 F R Bb Cb hb c5 hs wr full D:=freshCells R Bb Cb _ c5 (by rw [← HC4.out,← HC3.out,← HC2.out,HZ.out]) hsame hdd hwin hlt ((HBB4.out.setOther _ _ (by simp;omega)).ext hx5 (by omega)) ((HCB4.out.setOther _ _ (by simp;omega)).ext hx5 (by omega))
 have HFR:=Lib.hid hFr
 have HEND : Hid (Ext (fun _ => False) w w5):=Lib.hid ((HEF.out.trans hx5).mono (fun i hi e => by have:=HF.out;omega))
 clear hdd hwin hsame hext hhb hx5 hFr
 go_wp2_with fail
 go_ret
 exact ⟨F,Bb,Cb,hb,c5,hs,wr,full,rfl,by rw [HF.out];exact Nat.le_refl _,hFB,hBC,by omega,HFR.out,HEND.out⟩
set_option maxRecDepth 100000 in
set_option maxHeartbeats 8000000 in
theorem fnew_none (R : Nat) (w : World) :
  Calls Tryz.prog 53 #[.iface 50 (.pointer (some ⟨R,0,none⟩))] w (FNew R [] w):=by
 have HV : Hid (Rd w (.slice none 0 0) (([] : List UInt8).map U8)):=Lib.hid (Rd.nil w)
 have HVS : Hid (∀ b,(Value.slice none 0 0).ownBlock = some b → b < w.heap.size):=Lib.hid (by intro b h;cases h)
 have hD : ([] : List UInt8).length ≤ 1099511627776:=by simp
 obtain ⟨F,hF⟩ : ∃ F,w.heap.size = F:=⟨_,rfl⟩
 obtain ⟨w1,hw1⟩ : ∃ y,w.alloc (.cells Tryz.zeroCells147 147) = y:=⟨_,rfl⟩
 have hb1 : Blk w1 F z147 147:=by rw [← hw1,← hF,zc147];exact Blk.new w _ _
 obtain ⟨Z,hZ⟩ : ∃ Z,z147 = Z:=⟨_,rfl⟩
 rw [hZ] at hb1
 have hz : Z.size = 1054:=by rw [← hZ];exact z147_size
 have HMR:=Lib.hid (makeReader_any F R Z w1 hz hb1)
 have he1 : Ext (fun _ => False) w w1:=by rw [← hw1];exact (Ext.refl _ w).alloc _
 have HZ:=Lib.hid hZ;have HF:=Lib.hid hF;have HE1:=Lib.hid he1;have HW1:=Lib.hid hw1
 clear hF hZ hw1 hb1 he1
 go_enter Tryz.func53,Tryz.ntmps53
 go_wp2_with fail
 rw [HW1.out,HF.out]
 refine HMR.out.mono ?_
 rintro e w2 ⟨rfl,hb2,he2⟩
 obtain ⟨c2,hc2⟩ : ∃ y,(Z.setIfInBounds 1 (.pointer none)).setIfInBounds 0 (.iface 50 (.pointer (some ⟨R,0,none⟩))) = y:=⟨_,rfl⟩
 rw [hc2] at hb2
 have hf2:=hb2.free
 have hsz2 : c2.size = 1054:=by rw [← hc2];simp;exact hz
 have HC2:=Lib.hid hc2;have HB2:=Lib.hid hb2;have HE2:=Lib.hid he2
 have hce2 : ∀ j,j < 1054 → ∃ v,c2[j]? = some v:=fun j hj => ⟨c2[j]'(by omega),Array.getElem?_eq_getElem _⟩
 obtain ⟨y35,h35⟩:=hce2 1035 (by omega)
 have ka:=(hb2.alloc (.cells Tryz.zeroCells149 149)).cell 1035
 rw [h35] at ka
 have hfa:=(hb2.alloc (.cells Tryz.zeroCells149 149)).free
 clear hc2 he2
 go_upto_region 4 with (fail)
 obtain ⟨Bb,hBb⟩ : ∃ y,w2.heap.size = y:=⟨_,rfl⟩
 rw [hBb]
 have hnb : Blk (w2.alloc (.cells Tryz.zeroCells149 149)) Bb (arr 316 (fun _ => 0)) 149:=by rw [← hBb,← zc149];exact Blk.new w2 _ _
 have hFB : F < Bb:=by rw [← hBb];exact HB2.out.lt
 obtain ⟨w3,hw3⟩ : ∃ y,(w2.alloc (.cells Tryz.zeroCells149 149)).setCell ⟨F,1035,none⟩ (.pointer (some ⟨Bb,0,none⟩)) = y:=⟨_,rfl⟩
 rw [hw3]
 have hbb3 : Blk w3 Bb (arr 316 (fun _ => 0)) 149:=by rw [← hw3];exact hnb.setOther _ _ (by simp;omega)
 have hb3 : Blk w3 F (c2.setIfInBounds 1035 (.pointer (some ⟨Bb,0,none⟩))) 147:=by rw [← hw3];exact (HB2.out.alloc _).set 1035 _
 have he3 : Ext (fun k => k = F) w2 w3:=by rw [← hw3];exact ((Ext.refl (fun k => k = F) w2).alloc _).only _
 obtain ⟨c3,hc3⟩ : ∃ y,c2.setIfInBounds 1035 (.pointer (some ⟨Bb,0,none⟩)) = y:=⟨_,rfl⟩
 rw [hc3] at hb3
 have hsz3 : c3.size = 1054:=by rw [← hc3];simp;exact hsz2
 obtain ⟨y36,h36⟩ : ∃ v,c3[1036]? = some v:=⟨c3[1036]'(by omega),Array.getElem?_eq_getElem _⟩
 have hf3:=hb3.free
 have ka3:=(hb3.alloc (.cells #[.int .i64 0,.int .i64 0,.int .i64 0,.int .i64 0,.int .i64 0,.int .i64 0,.int .i64 0,.int .i64 0,.int .i64 0,.int .i64 0,.int .i64 0,.int .i64 0,.int .i64 0,.int .i64 0,.int .i64 0,.int .i64 0,.int .i64 0,.int .i64 0,.int .i64 0] 150)).cell 1036
 rw [h36] at ka3
 have hfa3:=(hb3.alloc (.cells #[.int .i64 0,.int .i64 0,.int .i64 0,.int .i64 0,.int .i64 0,.int .i64 0,.int .i64 0,.int .i64 0,.int .i64 0,.int .i64 0,.int .i64 0,.int .i64 0,.int .i64 0,.int .i64 0,.int .i64 0,.int .i64 0,.int .i64 0,.int .i64 0,.int .i64 0] 150)).free
 have HBB3:=Lib.hid hbb3;have HB3:=Lib.hid hb3;have HE3:=Lib.hid he3;have HC3:=Lib.hid hc3;have HBB:=Lib.hid hBb
 clear hb2 hf2 hce2 h35 ka hfa hBb hnb hw3 hbb3 hb3 he3 hc3 h36
 go_upto_region 5 with (fail)
 obtain ⟨Cb,hCb⟩ : ∃ y,w3.heap.size = y:=⟨_,rfl⟩
 rw [hCb]
 have hnb : Blk (w3.alloc (.cells #[.int .i64 0,.int .i64 0,.int .i64 0,.int .i64 0,.int .i64 0,.int .i64 0,.int .i64 0,.int .i64 0,.int .i64 0,.int .i64 0,.int .i64 0,.int .i64 0,.int .i64 0,.int .i64 0,.int .i64 0,.int .i64 0,.int .i64 0,.int .i64 0,.int .i64 0] 150)) Cb (arr 19 (fun _ => 0)) 150:=by rw [← hCb,← zc150];exact Blk.new w3 _ _
 have hBC : Bb < Cb:=by rw [← hCb];exact HBB3.out.lt
 obtain ⟨w4,hw4⟩ : ∃ y,(w3.alloc (.cells #[.int .i64 0,.int .i64 0,.int .i64 0,.int .i64 0,.int .i64 0,.int .i64 0,.int .i64 0,.int .i64 0,.int .i64 0,.int .i64 0,.int .i64 0,.int .i64 0,.int .i64 0,.int .i64 0,.int .i64 0,.int .i64 0,.int .i64 0,.int .i64 0,.int .i64 0] 150)).setCell ⟨F,1036,none⟩ (.pointer (some ⟨Cb,0,none⟩)) = y:=⟨_,rfl⟩
 rw [hw4]
 have hbb4 : Blk w4 Bb (arr 316 (fun _ => 0)) 149:=by rw [← hw4];exact (HBB3.out.alloc _).setOther _ _ (by simp;omega)
 have hcb4 : Blk w4 Cb (arr 19 (fun _ => 0)) 150:=by rw [← hw4];exact hnb.setOther _ _ (by simp;omega)
 have hb4 : Blk w4 F (c3.setIfInBounds 1036 (.pointer (some ⟨Cb,0,none⟩))) 147:=by rw [← hw4];exact (HB3.out.alloc _).set 1036 _
 have he4 : Ext (fun k => k = F) w3 w4:=by rw [← hw4];exact ((Ext.refl (fun k => k = F) w3).alloc _).only _
 obtain ⟨c4,hc4⟩ : ∃ y,c3.setIfInBounds 1036 (.pointer (some ⟨Cb,0,none⟩)) = y:=⟨_,rfl⟩
 rw [hc4] at hb4
 have hsz4 : c4.size = 1054:=by rw [← hc4];simp;exact hsz3
 obtain ⟨y45,h45⟩ : ∃ v,c4[1045]? = some v:=⟨c4[1045]'(by omega),Array.getElem?_eq_getElem _⟩
 have k45 : w4.cell? ⟨F,1045,none⟩ = some y45:=by rw [hb4.cell];exact h45
 have hf4:=hb4.free
 have hb5:=hb4.set 1045 (fnV 61)
 have hEF : Ext (fun k => k = F) w (w4.setCell ⟨F,1045,none⟩ (fnV 61)):=((((HE1.out.mono (fun _ _ e => e.elim)).trans HE2.out).trans HE3.out).trans he4).only _
 have hzz : z147[1037]? = some (.slice none 0 0):=by rw [z147_top 2];rfl
 have hh37 : (c4.setIfInBounds 1045 (fnV 61))[1037]? = some (.slice none 0 0):=by
  rw [← hc4,← HC3.out,← HC2.out,← HZ.out,set_ne _ _ (by decide),set_ne _ _ (by decide),set_ne _ _ (by decide),set_ne _ _ (by decide),set_ne _ _ (by decide)]
  exact hzz
 have hnh : ∀ k,¬ HistB (c4.setIfInBounds 1045 (fnV 61)) k:=by
  rintro k ⟨n,m,h⟩
  rw [hh37] at h;cases h
 have HDI:=Lib.hid (dinit_any F (c4.setIfInBounds 1045 (fnV 61)) _ (.slice none 0 0) [] (by simp;exact hsz4) hb5 (.inl hh37) (HV.out.ext hEF (fun b hb e => by have:=HVS.out b hb;have:=HF.out;omega)) hD (fun b hb => ⟨fun e => by have:=HVS.out b hb;have:=HF.out;omega,hnh b⟩))
 have HB5:=Lib.hid hb5;have HBB4:=Lib.hid hbb4;have HCB4:=Lib.hid hcb4;have HC4:=Lib.hid hc4;have HNH:=Lib.hid hnh;have HCBE:=Lib.hid hCb;have HEF:=Lib.hid hEF
 clear hnb hw4 hbb4 hcb4 hb4 he4 hc4 h45 hb5 hEF hzz hh37 hnh hCb ka3 hfa3 hf3
 go_wp2_with fail
 refine HDI.out.mono ?_
 rintro e w5 ⟨rfl,c5,hb,hs,wr,full,hdd,hwin,hlt,hsame,hext,hhb⟩
 have hCs : Cb < w4.heap.size:=HCB4.out.lt
 have hw4s : (w4.setCell ⟨F,1045,none⟩ (fnV 61)).heap.size = w4.heap.size:=by simp [World.setCell]
 have hhb2 : w4.heap.size ≤ hb:=by
  rcases hhb with h | h
  ·exact absurd h (HNH.out hb)
  ·have:=h.2;omega
 have hx5 : Ext (fun k => k = F) (w4.setCell ⟨F,1045,none⟩ (fnV 61)) w5:=hext.mono (fun k _ e => by rcases e with e | e;exact e;exact absurd e (HNH.out k))
 have hFr : FreshR w5 F R Bb Cb hb c5 hs wr full []:=freshCells R Bb Cb _ c5 (by rw [← HC4.out,← HC3.out,← HC2.out,HZ.out]) hsame hdd hwin hlt ((HBB4.out.setOther _ _ (by simp;omega)).ext hx5 (by omega)) ((HCB4.out.setOther _ _ (by simp;omega)).ext hx5 (by omega))
 have HFR:=Lib.hid hFr
 have HEND : Hid (Ext (fun _ => False) w w5):=Lib.hid ((HEF.out.trans hx5).mono (fun i hi e => by have:=HF.out;omega))
 clear hdd hwin hsame hext hhb hx5 hFr
 go_wp2_with fail
 go_ret
 exact ⟨F,Bb,Cb,hb,c5,hs,wr,full,rfl,by rw [HF.out];exact Nat.le_refl _,hFB,hBC,by omega,HFR.out,HEND.out⟩
end Go.Proofs.YthpapbilhjobnaaGreatDoor
