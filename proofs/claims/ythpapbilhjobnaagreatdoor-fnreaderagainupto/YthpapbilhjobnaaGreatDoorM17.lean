/-
  Parts of the proofs over the reader and the encoder of streams, joined: Rt Ro Fr Sl Pa Ad. Conditions: each theorem names its own.
-/
import Derived.Test.YthpapbilhjobnaaGreatDoorM01
import Derived.Test.YthpapbilhjobnaaGreatDoorM02
import Derived.Test.YthpapbilhjobnaaGreatDoorM13
import Derived.Test.YthpapbilhjobnaaGreatDoorM16
import Derived.Deep.LoopGhost
import Derived.Deep.CutBlock
set_option linter.unusedVariables false
set_option linter.unusedSimpArgs false
namespace Go.Proofs.YthpapbilhjobnaaGreatDoor
open Go.RowKit Pu
def zr (Bb Cb hb wr rd : Nat) (full : Bool) : Array Value :=
 (((((((z147.setIfInBounds 1 (.pointer none)).setIfInBounds 1035 (.pointer (some ⟨Bb,0,none⟩))).setIfInBounds 1036 (.pointer (some ⟨Cb,0,none⟩))).setIfInBounds 1037 (.slice (some ⟨hb,0,none⟩) 32768 32768)).setIfInBounds 1038 (.int .i64 wr)).setIfInBounds 1039 (.int .i64 rd)).setIfInBounds 1040 (.bool full)).setIfInBounds 1045 (fnV 61)
set_option maxRecDepth 100000 in
theorem built147 (Bb Cb hb wr rd : Nat) (full : Bool) : Tryz.prog.built 147 [(1,.pointer none),(7,.pointer (some ⟨Bb,0,none⟩)),(8,.pointer (some ⟨Cb,0,none⟩)),(9,.agg #[.slice (some ⟨hb,0,none⟩) 32768 32768,.int .i64 wr,.int .i64 rd,.bool full]),(11,.func (.func 61) #[] #[])] = some (zr Bb Cb hb wr rd full):=by kernel_rfl
theorem size147 (Bb Cb hb wr rd : Nat) (full : Bool) : (Tryz.prog.info? 147).map (·.size) = some (zr Bb Cb hb wr rd full).size:=by
 have : (zr Bb Cb hb wr rd full).size = 1054:=by unfold zr;simpa using z147_size
 exact (congrArg some this.symm ▸ (by kernel_rfl : (Tryz.prog.info? 147).map (·.size) = some 1054))
theorem z147l_one : z147l.all (fun v => v.oneCell') = true:=by kernel_rfl
theorem one_set {c : Array Value} (h : ∀ (j : Nat) (v : Value),c[j]? = some v → v.oneCell' = true) {k : Nat} {x : Value} (hx : x.oneCell' = true) : ∀ (j : Nat) (v : Value),(c.setIfInBounds k x)[j]? = some v → v.oneCell' = true:=by
 intro j v hv
 by_cases e : k = j
 ·subst e
  have hl:=(Array.getElem?_eq_some_iff.1 hv).1
  rw [set_eq _ (by simpa using hl)] at hv
  injection hv with hv
  rw [← hv];exact hx
 ·rw [set_ne _ _ e] at hv;exact h j v hv
theorem zr_one (Bb Cb hb wr rd : Nat) (full : Bool) : (zr Bb Cb hb wr rd full).all (·.oneCell') = true:=by
 have h0 : ∀ (j : Nat) (v : Value),z147[j]? = some v → v.oneCell' = true:=by
  intro j v hv
  unfold z147 at hv
  rw [List.getElem?_toArray] at hv
  exact List.all_eq_true.1 z147l_one v (List.mem_of_getElem? hv)
 have h1 : ∀ (j : Nat) (v : Value),(zr Bb Cb hb wr rd full)[j]? = some v → v.oneCell' = true:=by
  unfold zr
  exact one_set (one_set (one_set (one_set (one_set (one_set (one_set (one_set h0 rfl) rfl) rfl) rfl) rfl) rfl) rfl) rfl
 have h2:=all_oneCell_toArray (cs:=(zr Bb Cb hb wr rd full).toList) (fun v hv => by
  obtain ⟨j,hj⟩:=List.getElem?_of_mem hv
  exact h1 j v (by rw [← Array.getElem?_toList];exact hj))
 rw [Array.toArray_toList] at h2
 exact h2
theorem freshCells2 (R Bb Cb : Nat) (c4 c5 : Array Value) (hsz4 : c4.size = 1054) (hz : ∀ j,j ≠ 0 → j ≠ 1 → j ≠ 1035 → j ≠ 1036 → j ≠ 1045 → ¬ (1037 ≤ j ∧ j ≤ 1040) → c4[j]? = z147[j]?) (h0 : c4[0]? = some (.iface 50 (.pointer (some ⟨R,0,none⟩)))) (h1 : c4[1]? = some (.pointer none)) (h35 : c4[1035]? = some (.pointer (some ⟨Bb,0,none⟩))) (h36 : c4[1036]? = some (.pointer (some ⟨Cb,0,none⟩))) (h45 : c4[1045]? = some (fnV 61)) (hs : Same (fun k => 1037 ≤ k ∧ k ≤ 1040) c4 c5)
  {w : World} {F hb wr : Nat} {hist : List UInt8} {full : Bool} {D : List UInt8} (hd : DD w F hb c5 hist wr wr full) (hw : Win hist wr full D) (hlt : wr < 32768) (hbb : ∃ f,Blk w Bb (arr 316 f) 149) (hcb : ∃ g,Blk w Cb (arr 19 g) 150) : FreshR w F R Bb Cb hb c5 hist wr full D:=by
 have hn : ∀ j v,z147[j]? = some v → j ≠ 0 → j ≠ 1 → j ≠ 1035 → j ≠ 1036 → j ≠ 1045 → ¬ (1037 ≤ j ∧ j ≤ 1040) → c5[j]? = some v:=by
  intro j v h a b c d e f
  rw [hs.2 j f,hz j a b c d e f];exact h
 have ht : ∀ j v,z147t[j]? = some v → j ≠ 0 → j ≠ 1 → j ≠ 10 → ¬ (2 ≤ j ∧ j ≤ 5) → c5[1035 + j]? = some v:=fun j v h a b c d => hn _ v (by rw [z147_top];exact h) (by omega) (by omega) (by omega) (by omega) (by omega) (by omega)
 refine ⟨by rw [hs.1];exact hsz4,hd,hw,hlt,by rw [hs.2 _ (by omega)];exact h0,by rw [hs.2 _ (by omega)];exact h1,hn 2 _ (by rw [z147_low 2 (by omega)];rfl) (by omega) (by omega) (by omega) (by omega) (by omega) (by omega),hn 3 _ (by rw [z147_low 3 (by omega)];rfl) (by omega) (by omega) (by omega) (by omega) (by omega) (by omega),
  hn 4 _ (by rw [z147_low 4 (by omega)];rfl) (by omega) (by omega) (by omega) (by omega) (by omega) (by omega),(HD.zero (ho:=5) fun j v h => ?_).1,(HD.zero (ho:=520) fun j v h => ?_).1,by rw [hs.2 _ (by omega)];exact h35,by rw [hs.2 _ (by omega)];exact h36,by rw [hs.2 _ (by omega)];exact h45,ht 11 _ rfl (by omega) (by omega) (by omega) (by omega),ht 13 _ rfl (by omega) (by omega) (by omega) (by omega),ht 14 _ rfl (by omega) (by omega) (by omega) (by omega),hbb,hcb⟩
 ·have hj:=(List.getElem?_eq_some_iff.1 h).1
  rw [z139l_len] at hj
  exact hn _ v (z147_h1 j v h) (by omega) (by omega) (by omega) (by omega) (by omega) (by omega)
 ·have hj:=(List.getElem?_eq_some_iff.1 h).1
  rw [z139l_len] at hj
  exact hn _ v (z147_h2 j v h) (by omega) (by omega) (by omega) (by omega) (by omega) (by omega)
theorem zrCells (R Bb Cb hb wr rd : Nat) (full : Bool) (c3 : Array Value) (hc : ((zr Bb Cb hb wr rd full).setIfInBounds 1 (.pointer none)).setIfInBounds 0 (.iface 50 (.pointer (some ⟨R,0,none⟩))) = c3) :
  (∀ j,j ≠ 0 → j ≠ 1 → j ≠ 1035 → j ≠ 1036 → j ≠ 1045 → ¬ (1037 ≤ j ∧ j ≤ 1040) → c3[j]? = z147[j]?) ∧ c3[0]? = some (.iface 50 (.pointer (some ⟨R,0,none⟩))) ∧ c3[1]? = some (.pointer none) ∧ c3[1035]? = some (.pointer (some ⟨Bb,0,none⟩)) ∧ c3[1036]? = some (.pointer (some ⟨Cb,0,none⟩)) ∧ c3[1045]? = some (fnV 61):=by
 have hz:=z147_size
 subst hc
 unfold zr
 refine ⟨fun j a b c d e f => ?_,?_,?_,?_,?_,?_⟩
 ·rw [set_ne _ _ (by omega),set_ne _ _ (by omega),set_ne _ _ (by omega),set_ne _ _ (by omega),set_ne _ _ (by omega),set_ne _ _ (by omega),set_ne _ _ (by omega),set_ne _ _ (by omega),set_ne _ _ (by omega),set_ne _ _ (by omega)]
 ·exact set_eq _ (by simp;omega)
 ·rw [set_ne _ _ (by decide)];exact set_eq _ (by simp;omega)
 ·rw [set_ne _ _ (by decide),set_ne _ _ (by decide),set_ne _ _ (by decide),set_ne _ _ (by decide),set_ne _ _ (by decide),set_ne _ _ (by decide),set_ne _ _ (by decide),set_ne _ _ (by decide)];exact set_eq _ (by simp;omega)
 ·rw [set_ne _ _ (by decide),set_ne _ _ (by decide),set_ne _ _ (by decide),set_ne _ _ (by decide),set_ne _ _ (by decide),set_ne _ _ (by decide),set_ne _ _ (by decide)];exact set_eq _ (by simp;omega)
 ·rw [set_ne _ _ (by decide),set_ne _ _ (by decide)];exact set_eq _ (by simp;omega)
theorem wpStill_build {P : Program} {ops : Array Oper} {w : World} {Q : Act → Prop} {a : Act} {o : Oper} {rest : List Oper} (hgd : o.guard = none) (t : TypeId) (parts : Array (Nat × Operand)) (ho : o.op = .build t parts) (cells : Array Value)
  (hb : P.built t (parts.map fun (i,x) => (i,a.eval x)).toList = some cells) (h : wpStill P ops w Q rest (a.put o.dst (.agg cells))) : wpStill P ops w Q (o::rest) a:=by
 refine wpStill_step (fun K hK => ?_)
 have hw : Region.wanted o (yielded ops a.tmps) = true:=by simp [Region.wanted,hgd]
 rw [if_pos hw]
 unfold Oper.still execOp
 simp only [ho,Sem.run_bind,run_build w t _ cells hb,Result.andThen_ok]
 exact ⟨rfl,hK _ h⟩
set_option maxRecDepth 100000 in
set_option maxHeartbeats 8000000 in
theorem freset_any (F R Bb Cb hb : Nat) (c : Array Value) (hs : List UInt8) (wr rd : Nat) (full : Bool) (v : Value) (D : List UInt8) (w : World) (hsz : c.size = 1054) (hb0 : Blk w F c 147) (h1 : c[1]? = some (.pointer none)) (h35 : c[1035]? = some (.pointer (some ⟨Bb,0,none⟩))) (h36 : c[1036]? = some (.pointer (some ⟨Cb,0,none⟩))) (hd : DD w F hb c hs wr rd full)
  (hbb : ∃ f,Blk w Bb (arr 316 f) 149) (hcb : ∃ g,Blk w Cb (arr 19 g) 150) (hFB : F ≠ Bb) (hFC : F ≠ Cb) (hhB : hb ≠ Bb) (hhC : hb ≠ Cb) (hv : Rd w v (D.map U8)) (hD : D.length ≤ 1099511627776) (hvF : ∀ b,v.ownBlock = some b → b ≠ F ∧ b ≠ hb) :
  Calls Tryz.prog 129 #[.pointer (some ⟨F,0,none⟩),.iface 50 (.pointer (some ⟨R,0,none⟩)),v] w fun e w' => ∃ c' hs' wr' full',e = .returned .nilIface ∧ FreshR w' F R Bb Cb hb c' hs' wr' full' D ∧ Ext (fun k => k = F ∨ k = hb) w w':=by
 have k1 : w.cell? ⟨F,1,none⟩ = some (.pointer none):=by rw [hb0.cell];exact h1
 have k35 : w.cell? ⟨F,1035,none⟩ = some (.pointer (some ⟨Bb,0,none⟩)):=by rw [hb0.cell];exact h35
 have k36 : w.cell? ⟨F,1036,none⟩ = some (.pointer (some ⟨Cb,0,none⟩)):=by rw [hb0.cell];exact h36
 obtain ⟨k37,k38,k39,k40⟩:=hd.cells
 have hf:=hb0.free
 have HB0:=Lib.hid hb0;have HV:=Lib.hid hv;have HVF:=Lib.hid hvF;have HD:=Lib.hid hd;have HBB:=Lib.hid hbb;have HCB:=Lib.hid hcb
 clear hb0 h1 h35 h36 hd hv hvF hbb hcb
 go_enter Tryz.func129,Tryz.ntmps129
 go_upto_region 1 with (fail)
 refine region_tail2 19 (by kernel_rfl) (by kernel_rfl) ?_
 intro w1 hw1
 have he1 : Ext (fun _ => False) w w1:=by rw [hw1];exact (Ext.refl _ _).drew
 have q1:=he1.cellSome (fun e => e) k1
 have q35:=he1.cellSome (fun e => e) k35
 have q36:=he1.cellSome (fun e => e) k36
 have q37:=he1.cellSome (fun e => e) k37
 have q38:=he1.cellSome (fun e => e) k38
 have q39:=he1.cellSome (fun e => e) k39
 have q40:=he1.cellSome (fun e => e) k40
 have HE1:=Lib.hid he1
 clear hw1 he1 k1 k35 k36 k37 k38 k39 k40
 simp only [List.take_succ_cons,List.take_zero,List.drop_succ_cons,List.drop_zero]
 iterate 17 still_step
 refine wpStill_build rfl 147 #[(1,Operand.tmp 11),(7,Operand.tmp 15),(8,Operand.tmp 19),(9,Operand.tmp 23),(11,Operand.func 61)] rfl (zr Bb Cb hb wr rd full) ?_ ?_
 ·rw [List.map_toArray,← built147 Bb Cb hb wr rd full]
  refine congrArg (Tryz.prog.built 147) ?_
  simp only [List.map_cons,List.map_nil]
  rfl
 ·obtain ⟨Z,hZ⟩ : ∃ Z,zr Bb Cb hb wr rd full = Z:=⟨_,rfl⟩
  rw [hZ]
  have HZ:=Lib.hid hZ
  clear hZ
  still_step
  refine wpStill_nil ?_
  have hzsz : Z.size = 1054:=by rw [← HZ.out];unfold zr;simpa using z147_size
  have hth:=(HB0.out.ext HE1.out (fun e => e)).there 0 1054 (by omega)
  have hsz147 : (Tryz.prog.info? 147).map (·.size) = some Z.size:=by rw [← HZ.out];exact size147 _ _ _ _ _ _
  have hone : Z.all (·.oneCell') = true:=by rw [← HZ.out];exact zr_one _ _ _ _ _ _
  go_wp2_with (with_reducible refine wpList_store_mid rfl 147 _ _ rfl F 0 Z rfl rfl (by rw [hzsz];exact hth) hsz147 hone ?_)
  obtain ⟨c2,hb2,hs2,hv2⟩:=(HB0.out.ext HE1.out (fun e => e)).setCells Z.toList 0 w1 c (by simp;omega)
  have hc2 : c2 = Z:=by
   refine Array.ext_getElem? fun j => ?_
   rcases Nat.lt_or_ge j Z.size with h | h
   ·have:=hv2 j Z[j] (by simp [h])
    rw [Nat.zero_add] at this
    rw [this];simp [h]
   ·rw [Array.getElem?_eq_none (by rw [hs2.1];omega),Array.getElem?_eq_none h]
  subst hc2
  have he2 : Ext (fun k => k = F) w (w1.setCells F 0 c2.toList):=Ext.setCells (M:=fun k => k = F) (fun _ => rfl) _ _ _ (HE1.out.mono (fun _ _ e => e.elim))
  obtain ⟨w2,hw2⟩ : ∃ y,w1.setCells F 0 c2.toList = y:=⟨_,rfl⟩
  rw [hw2] at hb2 he2 ⊢
  have HMR:=Lib.hid (makeReader_any F R c2 w2 hzsz hb2)
  have HE2:=Lib.hid he2
  clear hb2 hs2 hv2 hw2 he2 hone hsz147 hth q1 q35 q36 q37 q38 q39 q40
  refine HMR.out.mono ?_
  rintro e w3 ⟨rfl,hb3,he3⟩
  obtain ⟨c3,hc3⟩ : ∃ y,(c2.setIfInBounds 1 (.pointer none)).setIfInBounds 0 (.iface 50 (.pointer (some ⟨R,0,none⟩))) = y:=⟨_,rfl⟩
  rw [hc3] at hb3
  have hsz3 : c3.size = 1054:=by rw [← hc3];simp;exact hzsz
  have hh37 : c3[1037]? = some (.slice (some ⟨hb,0,none⟩) 32768 32768):=by
   have hz:=z147_size
   rw [← hc3,← HZ.out,set_ne _ _ (by decide),set_ne _ _ (by decide)]
   unfold zr
   rw [set_ne _ _ (by decide),set_ne _ _ (by decide),set_ne _ _ (by decide),set_ne _ _ (by decide)]
   exact set_eq _ (by simp;omega)
  have hHB : ∀ k,HistB c3 k → k = hb:=by
   rintro k ⟨n,m,h⟩
   rw [hh37] at h;cases h;rfl
  have hhb3 : Blk w3 hb (hs.map U8).toArray 5:=(HD.out.hblk.ext HE2.out HD.out.ne).ext he3 HD.out.ne
  have HDI:=Lib.hid (dinit_any F c3 w3 v D hsz3 hb3 (.inr ⟨hb,hs,hh37,hhb3,HD.out.size,HD.out.ne⟩) ((HV.out.ext HE2.out (fun b h => (HVF.out b h).1)).ext he3 (fun b h => (HVF.out b h).1)) hD (fun b h => ⟨(HVF.out b h).1,fun e => (HVF.out b h).2 (hHB b e)⟩))
  have HH37:=Lib.hid hh37;have HE3:=Lib.hid he3;have HC3:=Lib.hid hc3;have HHB:=Lib.hid hHB
  clear hb3 he3 hc3 hh37 hHB hhb3
  go_wp2_with fail
  refine HDI.out.mono ?_
  rintro e w4 ⟨rfl,c4,hb',hs',wr',full',hdd,hwin,hlt,hsame,hext,hhb⟩
  have hbe : hb' = hb:=by
   rcases hhb with h | h
   ·exact HHB.out _ h
   ·rw [HH37.out] at h;exact absurd h.1 (by intro e;cases e)
  subst hbe
  obtain ⟨z1,z2,z3,z4,z5,z6⟩:=zrCells R Bb Cb hb' wr rd full c3 (by rw [HZ.out];exact HC3.out)
  have hx4 : Ext (fun k => k = F ∨ k = hb') w3 w4:=hext.mono (fun k _ e => by rcases e with e | e;exact .inl e;exact .inr (HHB.out k e))
  have hE : Ext (fun k => k = F ∨ k = hb') w w4:=((HE2.out.trans HE3.out).mono (fun _ _ e => .inl e)).trans hx4
  have hbb4 : ∃ f,Blk w4 Bb (arr 316 f) 149:=by
   obtain ⟨f,hf⟩:=HBB.out
   exact ⟨f,hf.ext hE (fun e => by rcases e with e | e;exact hFB e.symm;exact hhB e.symm)⟩
  have hcb4 : ∃ f,Blk w4 Cb (arr 19 f) 150:=by
   obtain ⟨f,hf⟩:=HCB.out
   exact ⟨f,hf.ext hE (fun e => by rcases e with e | e;exact hFC e.symm;exact hhC e.symm)⟩
  have HFR:=Lib.hid (freshCells2 R Bb Cb c3 c4 hsz3 z1 z2 z3 z4 z5 z6 hsame hdd hwin hlt hbb4 hcb4)
  have HEE:=Lib.hid hE
  clear hdd hwin hsame hext hhb hx4 hE hbb4 hcb4 z1 z2 z3 z4 z5 z6
  go_wp2_with fail
  go_ret
  exact ⟨c4,hs',wr',full',rfl,HFR.out,HEE.out⟩
end Go.Proofs.YthpapbilhjobnaaGreatDoor
namespace Go.Proofs.YthpapbilhjobnaaGreatDoor
open Go.RowKit Pu
structure Outer (x : Pl) (w w' : World) : Prop where
 size : w.heap.size ≤ w'.heap.size
 keep : ∀ k,(x.M k ∨ k = x.sb ∨ EM x.A x.U k ∨ k = 7) → k < w.heap.size → w'.heap[k]? = w.heap[k]?
 cells : ∀ b o v,w.cell? ⟨b,o,none⟩ = some v → (∀ z : Int,v ≠ .int .u8 z) → ¬ x.O b → w'.cell? ⟨b,o,none⟩ = some v
theorem Outer.of_ext {x : Pl} {w w' : World} {M : Nat → Prop} (he : Ext M w w') (hd : ∀ k,M k → ¬ (x.M k ∨ k = x.sb ∨ EM x.A x.U k ∨ k = 7)) (hb : ∀ b,M b → x.O b ∨ ∀ o v,w.cell? ⟨b,o,none⟩ = some v → ∃ z : Int,v = .int .u8 z) : Outer x w w' :=
 ⟨he.size,fun k hk hs => he.block k hs (fun hm => hd k hm hk),fun b o v hv hz ho => he.cellSome (fun hm => by
  rcases hb b hm with h | h
  ·exact ho h
  ·obtain ⟨z,hz'⟩:=h o v hv;exact hz z hz') hv⟩
theorem Outer.refl (x : Pl) (w : World) : Outer x w w:=⟨Nat.le_refl _,fun _ _ _ => rfl,fun _ _ _ h _ _ => h⟩
section
variable {x : Pl} {w w' : World}
theorem Outer.blk (h : Outer x w w') {k : Nat} {c : Array Value} {t : TypeId} (hk : x.M k ∨ k = x.sb ∨ EM x.A x.U k ∨ k = 7) (hb : Blk w k c t) : Blk w' k c t:=by
 unfold Blk;rw [h.keep k hk hb.lt];exact hb
theorem Outer.cell (h : Outer x w w') {k o : Nat} {v : Value} (hk : x.M k ∨ k = x.sb ∨ EM x.A x.U k ∨ k = 7) (hc : w.cell? ⟨k,o,none⟩ = some v) : w'.cell? ⟨k,o,none⟩ = some v:=by
 have:=World.cell?_of_block (w:=w) (w':=w') (a:=⟨k,o,none⟩) (h.keep k hk (World.block_lt_of_cell? w _ hc))
 rw [this];exact hc
theorem Outer.src (h : Outer x w w') {p : Nat} (hs : Src w x.R x.sb x.so x.cap x.src p) : Src w' x.R x.sb x.so x.cap x.src p :=
 ⟨h.blk (.inl (.inr (.inl rfl))) hs.blk,fun j y hy => h.cell (.inr (.inl rfl)) (hs.cells j y hy),hs.le,hs.small,hs.ne⟩
theorem Outer.sent (h : Outer x w w') {g : Nat} {A : Addr} (hg : EM x.A x.U g) (hA : EM x.A x.U A.block) (hs : Sent w g A) : Sent w' g A:=by
 obtain ⟨h0,c,t,hr⟩:=hs
 exact ⟨h.cell (.inr (.inr (.inl hg))) h0,c,t,h.blk (.inr (.inr (.inl hA))) hr⟩
theorem Outer.ends (h : Outer x w w') (he : Ends w x.A x.U) : Ends w' x.A x.U :=
 ⟨h.sent (.inl rfl) (.inr (.inr (.inl rfl))) he.eof,h.sent (.inr (.inl rfl)) (.inr (.inr (.inr rfl))) he.early,he.ne⟩
theorem Outer.tak (h : Outer x w w') {c : Array Value} {Y BB : List Bool} {p : Nat} (ht : Tak x w c Y w c BB p) : Tak x w' c Y w' c BB p :=
 ⟨h.blk (.inl (.inl rfl)) ht.blk,Same.refl _ _,ht.rdr,ht.bits,h.src ht.src,h.ends ht.ends,Ext.refl _ _,ht.z⟩
theorem Outer.res (h : Outer x w w') {c : Array Value} {p : Nat} (ht : Res x w c p) : Res x w' c p :=
 ⟨h.blk (.inl (.inl rfl)) ht.blk,ht.rdr,h.src ht.src,h.ends ht.ends⟩
theorem Outer.w3 (h : Outer x w w') {c : Array Value} {q : Nat} {H hs : List UInt8} {wr rd : Nat} {full : Bool} {T : List UInt8} (ht : W3 x w c q H hs wr rd full T) : W3 x w' c q H hs wr rd full T :=
 ⟨⟨h.blk (.inl (.inl rfl)) ht.dd.blk,ht.dd.hist,ht.dd.wrc,ht.dd.rdc,ht.dd.fullc,h.blk (.inl (.inr (.inr (.inl rfl)))) ht.dd.hblk,ht.dd.ne,ht.dd.size,ht.dd.wrle,ht.dd.rdle⟩,ht.win,ht.lt,ht.out,ht.len,ht.tl⟩
theorem Outer.dec (h : Outer x w w') {c : Array Value} {q : Nat} {H hs : List UInt8} {wr rd : Nat} {full : Bool} {T : List UInt8} {Y BB : List Bool} {p : Nat} (ht : Dec x w c q H hs wr rd full T Y BB p) : Dec x w' c q H hs wr rd full T Y BB p :=
 ⟨h.tak ht.tk,h.w3 ht.w3,ht.sz⟩
theorem Outer.std (h : Outer x w w') {c : Array Value} (ht : Std x w c) : Std x w' c:=by
 obtain ⟨f,hf⟩:=ht.bb
 obtain ⟨g,hg⟩:=ht.cb
 exact ⟨ht.nob,ht.bp,ht.cp,ht.h5,ht.h520,⟨f,h.blk (.inl (.inr (.inr (.inr (.inl rfl))))) hf⟩,⟨g,h.blk (.inl (.inr (.inr (.inr (.inr rfl))))) hg⟩,fun i s hs => h.cell (.inr (.inr (.inr rfl))) (ht.g7 i s hs),fun k hk => Nat.lt_of_lt_of_le (ht.O k hk) h.size⟩
theorem Outer.ht (h : Outer x w w') {hb ho : Nat} {lens : List Nat} {mn : Nat} (ht : HT w x.F x.N hb ho lens mn) : HT w' x.F x.N hb ho lens mn:=by
 obtain ⟨hR,hF,hmin,ch,lk,nl,nk,Lb,lcap,g,h1,h2,h3⟩:=ht
 have no : ∀ k,¬ x.N k → ¬ x.O k:=fun k hk ho => hk (.inr (.inr (.inr (.inr ho))))
 refine ⟨hR,hF,h.cells _ _ _ hmin (by intro z e;cases e) (no _ hR),ch,lk,nl,nk,Lb,lcap,g,h1,fun y hy => h.cells _ _ _ (h2 y hy) (by intro z e;cases e) (no _ hR),fun hs => ?_⟩
 obtain ⟨a,b,c,d,e,f⟩:=h3 hs
 refine ⟨a,b,c,h.cells _ _ _ d (by intro z e;cases e) (no _ hR),h.cells _ _ _ e (by intro z e;cases e) (no _ hR),fun v hv => ?_⟩
 obtain ⟨p,q,r,t⟩:=f v hv
 exact ⟨p,q,h.cells _ _ _ r (by intro z e;cases e) (no _ b),fun y hy => h.cells _ _ _ (t y hy) (by intro z e;cases e) (no _ p)⟩
theorem Outer.tabs (h : Outer x w w') {c : Array Value} {lit dist : List Nat} (ht : Tabs x w c lit dist) : Tabs x w' c lit dist:=by
 obtain ⟨⟨b1,o1,mn1,h1,h2,h3⟩,h4,h5,h6,h7⟩:=ht
 refine ⟨⟨b1,o1,mn1,h1,h.ht h2,h3⟩,h4,h5,h6,?_⟩
 rcases h7 with h7 | ⟨mn2,a,b,d⟩
 ·exact .inl h7
 ·exact .inr ⟨mn2,a,h.ht b,d⟩
theorem RS.outer {g : Blkc} {c : Array Value} {q : Nat} {T : List UInt8} {m : Nat} (h : RS x g w c q T m) (ho : Outer x w w') : RS x g w' c q T m:=by
 cases h with
 | next hd hB ha h8 hh hb hs he st hj => exact .next (ho.dec hd) hB ha h8 hh hb hs he (ho.std st) hj
 | toks h hs hz st => exact .toks ⟨ho.dec h.dec,ho.tabs h.tabs,h.fin,h.err,h.rest,h.fit,h.coded,h.hist,h.base,h.hand,Same.refl _ _,Ext.refl _ _,h.js⟩ hs hz (ho.std st)
 | copy h hs hz st => exact .copy ⟨ho.dec h.dec,ho.tabs h.tabs,h.fin,h.err,h.rest,h.fit,h.coded,h.hist,h.base,h.hand,Same.refl _ _,Ext.refl _ _,h.cl,h.cd,h.far1,h.far2,h.n2,h.js⟩ hs hz (ho.std st)
 | raw h hs st => exact .raw ⟨ho.dec h.dec,h.fin,h.err,h.rest,h.here,h.hist,h.base,h.cl,h.n2,Same.refl _ _,Ext.refl _ _,h.jr⟩ hs (ho.std st)
 | eof hd hB hw hh hb he st => exact .eof (ho.dec hd) hB hw hh hb he (ho.std st)
 | bad res w3 sz hb why st => exact .bad (ho.res res) (ho.w3 w3) sz hb why (ho.std st)
end
theorem W3.hand {x : Pl} {w : World} {c : Array Value} {q : Nat} {H hs : List UInt8} {wr rd : Nat} {full : Bool} {T : List UInt8} (h : W3 x w c q H hs wr rd full T) (k a cap : Nat) (ad : Addr) (hk : k ≤ T.length) (hT : T ≠ []) (hc : c[1049]? = some (.slice (some ⟨x.hb,a,none⟩) T.length cap)) (hsz : c.size = 1054)
  (had : ad = ⟨x.hb,a + k,none⟩ ∨ (cap = k ∧ ad = ⟨x.hb,a,none⟩)) : W3 x (w.setCell ⟨x.F,1049,none⟩ (.slice (some ad) (T.length - k) (cap - k))) (c.setIfInBounds 1049 (.slice (some ad) (T.length - k) (cap - k))) (q + k) H hs wr rd full (T.drop k):=by
 obtain ⟨a',cap',h1,h2,h3,h4⟩ : ∃ a cap,c[1049]? = some (.slice (some ⟨x.hb,a,none⟩) T.length cap) ∧ T.length ≤ cap ∧ cap ≤ 32768 ∧ (hs.drop a).take T.length = T:=by
  rcases h.out with ⟨e,_⟩ | h
  ·exact absurd e hT
  ·exact h
 rw [hc] at h1
 injection h1 with h1
 injection h1 with h1 _ hcc
 injection h1 with h1
 injection h1 with _ h1 _
 subst hcc h1
 have hlen:=h.len
 refine ⟨h.dd.setF _ (by omega),h.win,h.lt,.inr ?_,by simp;omega,?_⟩
 ·rcases had with rfl | ⟨rfl,rfl⟩
  ·refine ⟨a + k,cap - k,by rw [set_eq _ (by omega),List.length_drop],by simp;omega,by omega,?_⟩
   rw [List.length_drop]
   have:=congrArg (List.drop k) h4
   rw [List.drop_take,List.drop_drop] at this
   exact this
  ·have hkl : T.length = cap:=by omega
   refine ⟨a,0,by rw [set_eq _ (by omega),List.length_drop,Nat.sub_self],by simp;omega,by omega,?_⟩
   rw [List.length_drop,hkl,Nat.sub_self,List.take_zero,List.drop_eq_nil_of_le (show T.length ≤ cap by omega)]
 ·rw [List.length_drop]
  conv => lhs;rw [h.tl]
  rw [List.drop_take,List.drop_drop]
theorem RS.setT {x : Pl} {g : Blkc} {w : World} {c : Array Value} {q q' : Nat} {T T' : List UInt8} {m : Nat} (h : RS x g w c q T m) (ap : Apart x) (v : Value)
  (hw : ∀ H hs wr rd fu,W3 x w c q H hs wr rd fu T → W3 x (w.setCell ⟨x.F,1049,none⟩ v) (c.setIfInBounds 1049 v) q' H hs wr rd fu T') : RS x g (w.setCell ⟨x.F,1049,none⟩ v) (c.setIfInBounds 1049 v) q' T' m:=by
 have hS : Same (fun k => k = 1049) c (c.setIfInBounds 1049 v):=(Same.refl (fun k => k = 1049) c).set rfl _
 have hE : Ext (fun k => k = x.F) w (w.setCell ⟨x.F,1049,none⟩ v):=(Ext.refl _ w).only _
 have hst : Std x w c → Std x (w.setCell ⟨x.F,1049,none⟩ v) (c.setIfInBounds 1049 v):=fun st => st.stay hS (fun k hk => by omega) hE (fun e => ap.FB e.symm) (fun e => ap.FC e.symm) (fun e => ap.g7 (.inl e))
 have hd : ∀ {H hs wr rd fu Y BB p},Dec x w c q H hs wr rd fu T Y BB p → Dec x (w.setCell ⟨x.F,1049,none⟩ v) (c.setIfInBounds 1049 v) q' H hs wr rd fu T' Y BB p:=fun d => ⟨d.tk.setF ap v (by omega),hw _ _ _ _ _ d.w3,by simp;exact d.sz⟩
 have ht : ∀ {lit dist},Blk w x.F c 147 → Tabs x w c lit dist → Tabs x (w.setCell ⟨x.F,1049,none⟩ v) (c.setIfInBounds 1049 v) lit dist:=fun hb t => t.stay hb (hb.set _ _) hS (fun k a b => by omega) ⟨by omega,by omega⟩ hE (fun _ e => .inl e)
 have n : ∀ k,k ≠ 1049 → (c.setIfInBounds 1049 v)[k]? = c[k]?:=fun k hk => set_ne _ _ (Ne.symm hk)
 cases h with
 | next hd' hB ha h8 hh hb hs he st hj => exact .next (hd hd') hB ha h8 hh hb (by rw [n _ (by omega)];exact hs) (by rw [n _ (by omega)];exact he) (hst st) (hj.same (n _ (by omega)) (n _ (by omega)) (n _ (by omega)) (Nat.le_refl _))
 | toks h hs hz st => exact .toks ⟨hd h.dec,ht h.dec.tk.blk h.tabs,by rw [n _ (by omega)];exact h.fin,by rw [n _ (by omega)];exact h.err,h.rest,h.fit,h.coded,h.hist,h.base,h.hand,Same.refl _ _,Ext.refl _ _,h.js.same (n _ (by omega)) (n _ (by omega)) (n _ (by omega)) (Nat.le_refl _)⟩ (by rw [n _ (by omega)];exact hs) (by rw [n _ (by omega)];exact hz) (hst st)
 | copy h hs hz st => exact .copy ⟨hd h.dec,ht h.dec.tk.blk h.tabs,by rw [n _ (by omega)];exact h.fin,by rw [n _ (by omega)];exact h.err,h.rest,h.fit,h.coded,h.hist,h.base,h.hand,Same.refl _ _,Ext.refl _ _,by rw [n _ (by omega)];exact h.cl,by rw [n _ (by omega)];exact h.cd,h.far1,h.far2,h.n2,by rw [n _ (by omega)];exact h.js⟩ (by rw [n _ (by omega)];exact hs) (by rw [n _ (by omega)];exact hz) (hst st)
 | raw h hs st => exact .raw ⟨hd h.dec,by rw [n _ (by omega)];exact h.fin,by rw [n _ (by omega)];exact h.err,h.rest,h.here,h.hist,h.base,by rw [n _ (by omega)];exact h.cl,h.n2,Same.refl _ _,Ext.refl _ _,h.jr.same (n _ (by omega)) (n _ (by omega)) (Nat.le_refl _)⟩ (by rw [n _ (by omega)];exact hs) (hst st)
 | eof hd' hB hw' hh hb he st => exact .eof (hd hd') hB hw' hh hb (by rw [n _ (by omega)];exact he) (hst st)
 | bad res w3 sz hb why st => exact .bad (res.setF ap v (by omega)) (hw _ _ _ _ _ w3) (by simp;exact sz) hb (by rw [n _ (by omega)];exact why) (hst st)
theorem RS.step {x : Pl} {g : Blkc} {w : World} {c : Array Value} {q m : Nat} (ap : Apart x) (h : RS x g w c q [] m) :
  ((∃ p,c[1048]? = some (.iface 175 (.pointer (some p)))) ∨ ∃ z : Int,c[1048]? = some (.iface 159 (.int .i64 z))) ∨ (c[1048]? = some .nilIface ∧ ∃ k,(k = 61 ∨ k = 69 ∨ k = 74) ∧ c[1045]? = some (fnV k) ∧ Calls Tryz.prog k #[.pointer (some ⟨x.F,0,none⟩)] w (StepPost x g w q m)):=by
 cases h with
 | next hd hB ha h8 hh hb hs he st hj => exact .inr ⟨he,61,.inl rfl,hs,nextBlock_any x ap g w c q _ _ _ _ _ _ _ _ _ _ hd hB ha h8 hh hb he st hj⟩
 | toks h hs hz st =>
  refine .inr ⟨h.err,69,.inr (.inl rfl),hs,(huffBlock_any x ap _ _ _ _ _ q _ _ _ _ _ _ _ _ _ (.inl ⟨h,hz⟩)).mono ?_⟩
  rintro e w' ⟨rfl,h'⟩
  exact h'.step ap st (Ext.refl _ _) (by omega)
 | copy h hs hz st =>
  refine .inr ⟨h.err,69,.inr (.inl rfl),hs,(huffBlock_any x ap _ _ _ _ _ q _ _ _ _ _ _ _ _ _ (.inr ⟨_,_,h,hz⟩)).mono ?_⟩
  rintro e w' ⟨rfl,h'⟩
  exact h'.step ap st (Ext.refl _ _) (by omega)
 | raw h hs st =>
  refine .inr ⟨h.err,74,.inr (.inr rfl),hs,(copyData_any x ap _ _ _ _ _ q _ _ _ _ _ _ _ _ h).mono ?_⟩
  rintro e w' ⟨rfl,h'⟩
  exact h'.step ap st (Ext.refl _ _) (by omega)
 | eof hd hB hw hh hb he st => exact .inl (.inl ⟨_,he⟩)
 | bad res w3 sz hb why st =>
  rcases why with ⟨_,z,h⟩ | ⟨_,h⟩
  ·exact .inl (.inr ⟨z,h⟩)
  ·exact .inl (.inl ⟨_,h⟩)
end Go.Proofs.YthpapbilhjobnaaGreatDoor
namespace Go.Proofs.YthpapbilhjobnaaGreatDoor
open Go.RowKit Pu
theorem S1.part {x : Pl} {k : Blkc} {w0 : World} {c0 : Array Value} {w : World} {c : Array Value} {q : Nat} {H hs : List UInt8} {wr rd : Nat} {full : Bool} {T : List UInt8} {BB : List Bool} {p : Nat} {ts : List Tok} {i far n : Nat} (h : S1 x k w0 c0 w c q H hs wr rd full T BB p ts i far n) (o : k.ok) : ∃ i,H = k.all.take i:=by
 have hg:=h.hist o
 obtain ⟨R,hR,_⟩:=grow_prefix H far n
 rw [hR] at hg
 refine ⟨min H.length i,?_⟩
 have:=congrArg (List.take H.length) hg
 rw [List.take_left' rfl,List.take_take] at this
 exact this
theorem RS.parts {x : Pl} {g : Blkc} {w : World} {c : Array Value} {q m : Nat} {T : List UInt8} (h : RS x g w c q T m) : ∃ H hs wr rd fu p,W3 x w c q H hs wr rd fu T ∧ c.size = 1054 ∧ H.length + g.e ≤ g.all.length + g.d ∧ Std x w c ∧ Res x w c p ∧
  (g.ok → x.ext = [] → ∃ i,H = g.all.take i):=by
 cases h with
 | next hd hB ha h8 hh hb hs he st hj => exact ⟨_,_,_,_,_,_,hd.w3,hd.sz,by have:=Ahead.le ha;omega,st,hd.tk.res,fun o _ => ⟨_,hh o⟩⟩
 | toks h hs hz st => exact ⟨_,_,_,_,_,_,h.dec.w3,h.dec.sz,h.le,st,h.dec.tk.res,fun o _ => ⟨_,h.hist o⟩⟩
 | copy h hs hz st =>
  refine ⟨_,_,_,_,_,_,h.dec.w3,h.dec.sz,?_,st,h.dec.tk.res,fun o _ => ?_⟩
  ·have h1:=toksFit_le h.fit
   have h2:=RestOf.le h.rest
   have h3:=h.base
   show _ ≤ g.all.length + g.d
   have : (g.at _ _ _ _ _ _).all.length = g.all.length:=rfl
   simp only [Blkc.at] at *
   omega
  ·exact h.part o
 | raw h hs st =>
  refine ⟨_,_,_,_,_,_,h.dec.w3,h.dec.sz,?_,st,h.dec.tk.res,fun o _ => ⟨_,h.hist o⟩⟩
  have h2:=RestOf.le h.rest
  have h3:=h.base
  have h4:=h.here
  simp only [Blkc.at] at *
  omega
 | eof hd hB hw hh hb he st => exact ⟨_,_,_,_,_,_,hd.w3,hd.sz,by omega,st,hd.tk.res,fun o _ => ⟨_,hh o⟩⟩
 | bad res w3 sz hb why st =>
  refine ⟨_,_,_,_,_,_,w3,sz,hb,st,res,fun o he => ?_⟩
  rcases why with ⟨h,_⟩ | ⟨h,_⟩
  ·exact absurd o h
  ·exact absurd he h
theorem RS.err {x : Pl} {g : Blkc} {w : World} {c : Array Value} {q m : Nat} {T : List UInt8} (h : RS x g w c q T m) : (c[1048]? = some .nilIface ∧ 0 < m) ∨ (m = 0 ∧ ((∃ p,c[1048]? = some (.iface 175 (.pointer (some p)))) ∨ ∃ z : Int,c[1048]? = some (.iface 159 (.int .i64 z)))):=by
 cases h with
 | next hd hB ha h8 hh hb hs he st hj => exact .inl ⟨he,by cases ha <;> simp⟩
 | toks h hs hz st => exact .inl ⟨h.err,by omega⟩
 | copy h hs hz st => exact .inl ⟨h.err,by omega⟩
 | raw h hs st => exact .inl ⟨h.err,by omega⟩
 | eof hd hB hw hh hb he st => exact .inr ⟨rfl,.inl ⟨_,he⟩⟩
 | bad res w3 sz hb why st =>
  rcases why with ⟨_,z,h⟩ | ⟨_,h⟩
  ·exact .inr ⟨rfl,.inr ⟨z,h⟩⟩
  ·exact .inr ⟨rfl,.inl ⟨_,h⟩⟩
theorem RS.ended {x : Pl} {g : Blkc} {w : World} {c : Array Value} {q m : Nat} {v : Value} (h : RS x g w c q [] m) (hv : c[1048]? = some v) (hn : v ≠ .nilIface) (ap : Apart x) (hne : x.U ≠ x.A) :
  (v = .iface 175 (.pointer (some x.A)) ∧ q + g.e = g.all.length + g.d ∧ ∃ BB p,BB.length < 8 ∧ BB ++ bitsOf (x.src.drop p ++ x.ext) = g.Z ∧ Src w x.R x.sb x.so x.cap x.src p) ∨
  (¬ g.ok ∧ ∃ z : Int,v = .iface 159 (.int .i64 z)) ∨ (x.ext ≠ [] ∧ v = .iface 175 (.pointer (some x.U))):=by
 cases h with
 | next hd hB ha h8 hh hb hs he st hj => rw [he] at hv;cases hv;exact absurd rfl hn
 | toks h hs hz st => have:=h.err;rw [this] at hv;cases hv;exact absurd rfl hn
 | copy h hs hz st => have:=h.err;rw [this] at hv;cases hv;exact absurd rfl hn
 | raw h hs st => have:=h.err;rw [this] at hv;cases hv;exact absurd rfl hn
 | eof hd hB hw hh hb he st =>
  rw [he] at hv;cases hv
  have:=hd.w3.len
  refine .inl ⟨rfl,?_,_,_,hB,hd.tk.z,hd.tk.src⟩
  simp at this;omega
 | bad res w3 sz hb why st =>
  rcases why with ⟨a,z,h⟩ | ⟨a,h⟩
  ·rw [h] at hv;cases hv;exact .inr (.inl ⟨a,z,rfl⟩)
  ·rw [h] at hv;cases hv;exact .inr (.inr ⟨a,rfl⟩)
theorem RS.drewN {x : Pl} {g : Blkc} {w : World} {c : Array Value} {q m : Nat} {T : List UInt8} (h : RS x g w c q T m) (n : Nat) : RS x g (w.drewN n) c q T m :=
 h.outer ⟨Nat.le_refl _,fun _ _ _ => rfl,fun _ _ _ h _ _ => h⟩
theorem RS.bytes {x : Pl} {g : Blkc} {w : World} {c : Array Value} {q m : Nat} {T : List UInt8} (h : RS x g w c q T m) (k : Nat) (hk : k ≤ T.length) (ho : g.ok) (he : x.ext = []) : T.take k = (g.all.drop q).take k:=by
 obtain ⟨H,hs,wr,rd,fu,p,h1,h2,h3,h4,h5,h6⟩:=h.parts
 obtain ⟨i,hi⟩:=h6 ho he
 have hl:=h1.len
 have htl:=h1.tl
 rw [htl,List.take_take,Nat.min_eq_left hk,hi,List.drop_take,List.take_take,Nat.min_eq_left]
 have : H.length ≤ i:=by rw [hi];simp;omega
 omega
theorem RS.flushed {x : Pl} {g : Blkc} {w : World} {c : Array Value} {q m : Nat} (ap : Apart x) (h : RS x g w c q [] m) (hm : m = 0) : ∃ hs wr rd fu,DD w x.F x.hb c hs wr rd fu ∧ wr < 32768 ∧
  ∀ w' c',DD w' x.F x.hb c' hs wr wr fu → Same (fun j => j = 1038 ∨ j = 1039 ∨ j = 1040) c c' → Ext (fun j => j = x.F) w w' → ∃ T,RS x g (w'.setCell ⟨x.F,1049,none⟩ (.slice (some ⟨x.hb,rd,none⟩) (wr - rd) (32768 - rd))) (c'.setIfInBounds 1049 (.slice (some ⟨x.hb,rd,none⟩) (wr - rd) (32768 - rd))) q T 0:=by
 have key : ∀ {H hs wr rd fu},W3 x w c q H hs wr rd fu [] → c.size = 1054 → Std x w c → ∀ w' c',DD w' x.F x.hb c' hs wr wr fu → Same (fun j => j = 1038 ∨ j = 1039 ∨ j = 1040) c c' → Ext (fun j => j = x.F) w w' →
   ∃ T,W3 x (w'.setCell ⟨x.F,1049,none⟩ (.slice (some ⟨x.hb,rd,none⟩) (wr - rd) (32768 - rd))) (c'.setIfInBounds 1049 (.slice (some ⟨x.hb,rd,none⟩) (wr - rd) (32768 - rd))) q H hs wr wr fu T ∧ Std x (w'.setCell ⟨x.F,1049,none⟩ (.slice (some ⟨x.hb,rd,none⟩) (wr - rd) (32768 - rd))) (c'.setIfInBounds 1049 (.slice (some ⟨x.hb,rd,none⟩) (wr - rd) (32768 - rd))) ∧
    Same (fun j => j = 1038 ∨ j = 1039 ∨ j = 1040 ∨ j = 1049) c (c'.setIfInBounds 1049 (.slice (some ⟨x.hb,rd,none⟩) (wr - rd) (32768 - rd))) ∧ Ext (fun j => j = x.F) w (w'.setCell ⟨x.F,1049,none⟩ (.slice (some ⟨x.hb,rd,none⟩) (wr - rd) (32768 - rd))):=by
  intro H hs wr rd fu h3 hsz hst w' c' hd hs' he
  obtain ⟨T,t1,t2,t3,t4⟩:=h3.flush
  have hlt:=h3.lt
  have hrd:=h3.dd.rdle
  have hS:=(hs'.mono (fun j e => (by omega : j = 1038 ∨ j = 1039 ∨ j = 1040 ∨ j = 1049))).set (k:=1049) (by omega) (.slice (some ⟨x.hb,rd,none⟩) (wr - rd) (32768 - rd))
  have hE:=he.only (R:=x.F) (o:=1049) (.slice (some ⟨x.hb,rd,none⟩) (wr - rd) (32768 - rd))
  refine ⟨T,⟨hd.setF _ (by omega),h3.win,hlt,.inr ⟨rd,32768 - rd,by rw [set_eq _ (by rw [hs'.1];omega),t1],by omega,by omega,t2⟩,by omega,t3⟩,?_,hS,hE⟩
  exact hst.stay hS (fun k hk => by omega) hE (fun e => ap.FB e.symm) (fun e => ap.FC e.symm) (fun e => ap.g7 (.inl e))
 cases h with
 | next hd hB ha h8 hh hb hs he st hj => exfalso;cases ha <;> simp at hm
 | toks h hs hz st => omega
 | copy h hs hz st => omega
 | raw h hs st => omega
 | eof hd hB hw hh hb he st =>
  refine ⟨_,_,_,_,hd.w3.dd,hd.w3.lt,fun w' c' h1 h2 h3 => ?_⟩
  obtain ⟨T,k1,k2,k3,k4⟩:=key hd.w3 hd.sz st w' c' h1 h2 h3
  exact ⟨T,.eof ⟨hd.tk.wind ap k1.dd.blk k3 (fun j hj => by omega) (k4.mono (fun _ _ e => .inl e)),k1,by rw [k3.1];exact hd.sz⟩ hB rfl hh hb (by rw [k3.2 _ (by omega)];exact he) k2⟩
 | bad res w3 sz hb why st =>
  refine ⟨_,_,_,_,w3.dd,w3.lt,fun w' c' h1 h2 h3 => ?_⟩
  obtain ⟨T,k1,k2,k3,k4⟩:=key w3 sz st w' c' h1 h2 h3
  exact ⟨T,.bad ⟨k1.dd.blk,by rw [k3.2 _ (by omega)];exact res.rdr,res.src.ext k4 (fun e => ap.FR e.symm) ap.sF,res.ends.ext k4 (fun j hj e => ap.E j hj (.inl e))⟩ k1 (by rw [k3.1];exact sz) hb (by rw [k3.2 _ (by omega)];exact why) k2⟩
def FRPost (x : Pl) (g : Blkc) (w0 : World) (q : Nat) (B bo n : Nat) (cur : Array Value) (t : TypeId) (e : Ending) (w : World) : Prop :=
 ∃ k v cs c T m,e = .returned (.tuple #[.int .i64 (k : Nat),v]) ∧ cs.length = k ∧ k ≤ n ∧ Blk w B (splice cur.toList bo (cs.map U8)).toArray t ∧ Ext (fun j => x.M j ∨ j = B) w0 w ∧ RS x g w c (q + k) T m ∧ (g.ok → x.ext = [] → cs = (g.all.drop q).take k) ∧
  ((v = .nilIface ∧ 0 < k) ∨ (T = [] ∧ c[1048]? = some v ∧ v ≠ .nilIface))
section
variable {P : Program}
end
set_option maxRecDepth 100000 in
set_option maxHeartbeats 16000000 in
theorem fread_any (x : Pl) (ap : Apart x) (g : Blkc) (w : World) (c : Array Value) (q m : Nat) (T : List UInt8) (h : RS x g w c q T m) (B bo n dcap : Nat) (cur : Array Value) (t : TypeId) (hn : 0 < n) (hn2 : n ≤ 1099511627776) (hdc : n ≤ dcap) (hb : Blk w B cur t) (hfit : bo + n ≤ cur.size)
  (hu8 : ∀ (o : Nat) (v : Value),cur[o]? = some v → ∃ z : Int,v = .int .u8 z) (hB : ¬ (x.M B ∨ B = x.sb ∨ EM x.A x.U B ∨ B = 7)) :
  Calls Tryz.prog 128 #[.pointer (some ⟨x.F,0,none⟩),.slice (some ⟨B,bo,none⟩) n dcap] w (FRPost x g w q B bo n cur t):=by
 have HH:=Lib.hid h;have HBB:=Lib.hid hb
 have hBM : ¬ x.M B:=fun e => hB (.inl e)
 clear h hb
 go_enter Tryz.func128,Tryz.ntmps128
 go_upto_block 0 with (fail)
 refine wp_block ?_
 go_loopg [] (if T = [] then m + 1 else 0) (fun k wx => ∃ c T m,RS x g wx c q T m ∧ Ext x.M w wx ∧ k = if T = [] then m + 1 else 0)
 case atStart => exact ⟨c,T,m,HH.out,Ext.refl _ _,rfl⟩
 case round =>
  obtain ⟨c,T,m,hrs,hex,hk⟩:=hrel
  obtain ⟨wo,rfl⟩ : ∃ wo : World,wo = wr:=⟨_,rfl⟩
  have HRS:=Lib.hid hrs;have HEX:=Lib.hid hex;have HK:=Lib.hid hk
  obtain ⟨H,hs,wr,rd,fu,p,hw3,hsz,hbd,hst,hres,hok⟩:=hrs.parts
  have hblk:=hw3.dd.blk
  have hf:=hblk.free
  have hbo:=HBB.out.ext hex hBM
  have herr:=hrs.err
  have hc49 : ∃ v,wo.cell? ⟨x.F,1049,none⟩ = some v:=⟨c[1049]'(by omega),by rw [hblk.cell,Array.getElem?_eq_getElem]⟩
  by_cases hT : T = []
  ·subst hT
   obtain ⟨pp,cp,hc49⟩ : ∃ pp cp,wo.cell? ⟨x.F,1049,none⟩ = some (.slice pp 0 cp):=by
    rcases hw3.out with ⟨_,e⟩ | ⟨a,cp,e,_⟩
    ·exact ⟨none,0,by rw [hblk.cell];exact e⟩
    ·exact ⟨some ⟨x.hb,a,none⟩,cp,by rw [hblk.cell];simpa using e⟩
   rcases hrs.step ap with hE | ⟨hnil,kf,hk3,hkf,hstep⟩
   ·have hEND : Hid (∀ v nq,c[1048]? = some v → v ≠ .nilIface → FRPost x g w q B bo n cur t (.returned (.tuple #[.int .i64 0,v])) (wo.drewN nq)):=Lib.hid (fun v nq hv hne => ⟨0,v,[],c,[],m,rfl,rfl,Nat.zero_le _,by simpa [splice] using hbo.drewN nq,(hex.mono (fun _ _ e => .inl e)).drewN nq,hrs.drewN nq,fun _ _ => by simp,.inr ⟨rfl,hv,hne⟩⟩)
    rcases hE with ⟨pe,hE⟩ | ⟨ze,hE⟩
    ·have hc48 : wo.cell? ⟨x.F,1048,none⟩ = some (.iface 175 (.pointer (some pe))):=by rw [hblk.cell];exact hE
     have HE:=Lib.hid hE
     clear hrs hex hk herr hw3 hblk hbo hres hok hE hst
     go_wp2_with fail
     go_quiet (fail)
     go_wp2_with fail
     go_ret2
     exact hEND.out _ nq HE.out (by intro e;cases e)
    ·have hc48 : wo.cell? ⟨x.F,1048,none⟩ = some (.iface 159 (.int .i64 ze)):=by rw [hblk.cell];exact hE
     have HE:=Lib.hid hE
     clear hrs hex hk herr hw3 hblk hbo hres hok hE hst
     go_wp2_with fail
     go_quiet (fail)
     go_wp2_with fail
     go_ret2
     exact hEND.out _ nq HE.out (by intro e;cases e)
   ·have hc48 : wo.cell? ⟨x.F,1048,none⟩ = some .nilIface:=by rw [hblk.cell];exact hnil
    have hc45 : wo.cell? ⟨x.F,1045,none⟩ = some (.func (.func kf) #[] #[]):=by rw [hblk.cell];exact hkf
    have HST:=Lib.hid hstep
    clear hrs hex hk herr hw3 hblk hbo hres hok hst hnil hkf hstep
    rcases hk3 with rfl | rfl | rfl
    all_goals
     go_wp2_with fail
     refine HST.out.mono ?_
     rintro e w2 ⟨rfl,c2,T2,m2,hrs2,hdec,hex2⟩
     have hblk2 : Blk w2 x.F c2 147:=by
      obtain ⟨_,_,_,_,_,_,h1,_⟩:=hrs2.parts
      exact h1.dd.blk
     have hf2:=hblk2.free
     have HEX2:=Lib.hid (HEX.out.trans hex2)
     have HDEC:=Lib.hid hdec
     have HKK : gk = m + 1:=by rw [HK.out];rfl
     have HK2:=Lib.hid HKK
     have hout2 : ∃ pp cp,w2.cell? ⟨x.F,1049,none⟩ = some (.slice pp T2.length cp):=by
      obtain ⟨_,_,_,_,_,_,h1,_⟩:=hrs2.parts
      rcases h1.out with ⟨e1,e⟩ | ⟨a,cp,e,_⟩
      ·exact ⟨none,0,by rw [hblk2.cell,e1];exact e⟩
      ·exact ⟨some ⟨x.hb,a,none⟩,cp,by rw [hblk2.cell];exact e⟩
     obtain ⟨pp2,cp2,hc492⟩:=hout2
     have HRS2:=Lib.hid hrs2
     have hsz2 : c2.size = 1054:=by
      obtain ⟨_,_,_,_,_,_,_,h1,_⟩:=hrs2.parts
      exact h1
     obtain ⟨L2,hL2⟩ : ∃ y,T2.length = y:=⟨_,rfl⟩
     rw [hL2] at hc492
     have HL2:=Lib.hid hL2
     rcases hrs2.err with ⟨hn2',hm2⟩ | ⟨hm2,he2⟩
     ·have hc482 : w2.cell? ⟨x.F,1048,none⟩ = some .nilIface:=by rw [hblk2.cell];exact hn2'
      clear hrs2 hdec hex2 hblk2 HKK hL2 HK hc48 hc45 hc49
      go_wp2_with fail
      go_roundg (if T2 = [] then m2 + 1 else 0)
      case measure => rw [HK2.out];have:=HDEC.out;split <;> rename_i h <;> (rcases this with h1 | h1 <;> first | omega | exact absurd h h1)
      case rel => exact ⟨c2,T2,m2,HRS2.out,HEX2.out,rfl⟩
     ·have hv : ∃ v,w2.cell? ⟨x.F,1048,none⟩ = some v ∧ ∃ ty u,v = .iface ty u:=by
       rcases he2 with ⟨pe,h⟩ | ⟨z,h⟩
       ·exact ⟨_,by rw [hblk2.cell];exact h,_,_,rfl⟩
       ·exact ⟨_,by rw [hblk2.cell];exact h,_,_,rfl⟩
      obtain ⟨v48,hc482,ty48,u48,rfl⟩:=hv
      by_cases hT2 : T2 = []
      ·have hL0 : L2 = 0:=by rw [← hL2,hT2];rfl
       subst hT2
       obtain ⟨hs2,wr2,rd2,fu2,hdd2,hlt2,hfl⟩:=hrs2.flushed ap hm2
       have HFL:=Lib.hid hfl
       have HRF:=Lib.hid (readFlush_any x.F x.hb c2 hs2 wr2 rd2 fu2 w2 hdd2 (by have:=hdd2.rdle;omega))
       clear hrs2 hdec hex2 hblk2 HKK hL2 HK hc48 hc45 hc49 hfl
       subst hL0
       go_wp2_with fail
       refine HRF.out.mono ?_
       rintro e w3 ⟨c3,rfl,hd3,hs3,he3⟩
       rw [if_neg (by omega),if_neg (by omega)] at hd3
       obtain ⟨T3,hrs3⟩:=HFL.out w3 c3 hd3 hs3 he3
       have hb3:=hd3.blk
       have hf3:=hb3.free
       have hc493 : ∃ v,w3.cell? ⟨x.F,1049,none⟩ = some v:=⟨c3[1049]'(by rw [hs3.1];omega),by rw [hb3.cell,Array.getElem?_eq_getElem]⟩
       obtain ⟨v493,hc493⟩:=hc493
       have HRS3:=Lib.hid hrs3
       have HEX3:=Lib.hid (HEX2.out.trans (he3.mono (fun _ _ e => (.inl e : x.M _))))
       clear hd3 hs3 he3 hrs3 hb3 hdd2 hc482 hc492
       go_wp2_with fail
       go_roundg (if T3 = [] then 0 + 1 else 0)
       case measure => rw [HK2.out];have:=HDEC.out;split <;> (rcases this with h1 | h1 <;> first | omega | exact absurd rfl h1)
       case rel => exact ⟨_,T3,0,HRS3.out,(HEX3.out.setCell (p:=⟨x.F,1049,none⟩) (fun _ => .inl rfl) _),rfl⟩
      ·have hL0 : 0 < L2:=by rw [← hL2];exact List.length_pos_iff.2 hT2
       have hq : ((L2 : Int) == 0) = false:=by simp;omega
       clear hrs2 hdec hex2 hblk2 HKK hL2 HK hc48 hc45 hc49 hL0
       go_wp2_with fail
       go_roundg (if T2 = [] then m2 + 1 else 0)
       case measure => rw [HK2.out,if_neg hT2];omega
       case rel => exact ⟨c2,T2,m2,HRS2.out,HEX2.out,rfl⟩
  ·have hout:=hw3.out
   rcases hout with ⟨e,_⟩ | ⟨a,cp,o1,o2,o3,o4⟩
   ·exact absurd e hT
   have hc49 : wo.cell? ⟨x.F,1049,none⟩ = some (.slice (some ⟨x.hb,a,none⟩) T.length cp):=by rw [hblk.cell];exact o1
   obtain ⟨L,hL⟩ : ∃ y,T.length = y:=⟨_,rfl⟩
   have hL0 : 0 < L:=by rw [← hL];exact List.length_pos_iff.2 hT
   rw [hL] at hc49
   have hL0i : (0 : Int) < (L : Int):=by omega
   have hcs : (T.take n).length = Nat.min L n:=by rw [List.length_take,hL];exact Nat.min_comm _ _
   obtain ⟨k,hke⟩ : ∃ k,Nat.min L n = k:=⟨_,rfl⟩
   rw [hke] at hcs
   have hkL : k ≤ L:=by rw [← hke];exact Nat.min_le_left _ _
   have hkn : k ≤ n:=by rw [← hke];exact Nat.min_le_right _ _
   have hkc : (k = L ∧ L ≤ n) ∨ (k = n ∧ n < L):=by
    rcases Nat.lt_or_ge n L with h | h
    ·exact .inr ⟨by rw [← hke];exact Nat.min_eq_right (by omega),h⟩
    ·exact .inl ⟨by rw [← hke];exact Nat.min_eq_left h,h⟩
   have hk0 : 0 < k:=by omega
   have hsrc : ∀ j y,((T.take n).map U8)[j]? = some y → wo.cell? ⟨x.hb,a + j,none⟩ = some y:=by
    intro j y hy
    rw [hw3.dd.hblk.cell,List.getElem?_toArray]
    rw [List.map_take,List.getElem?_take] at hy
    split at hy
    ·have hjT : j < T.length:=by have:=(List.getElem?_eq_some_iff.1 hy).1;simpa using this
     rw [← hy,← o4,List.map_take,List.map_drop,List.getElem?_take,if_pos hjT,List.getElem?_drop]
    ·simp at hy
   obtain ⟨w2,hr,hB2,he2⟩:=run_copy_at (P:=Tryz.prog) wo 22 22 3 5 rfl Tryz.size5 B bo n dcap L cp (some ⟨B,bo,none⟩) (some ⟨x.hb,a,none⟩) cur t hbo (T.take n) (by rw [hcs,hke]) (fun _ => ⟨rfl,x.hb,a,rfl,hsrc⟩) (by rw [hcs];omega)
   rw [hcs] at hr
   have hou : Outer x wo w2:=Outer.of_ext he2 (fun j hj => by rw [hj];exact hB) (fun j hj => .inr (by
    subst hj
    intro o v hv
    rw [hbo.cell] at hv
    exact hu8 o v hv))
   have hc492 : w2.cell? ⟨x.F,1049,none⟩ = some (.slice (some ⟨x.hb,a,none⟩) L cp):=hou.cell (.inl (.inl rfl)) hc49
   have hb2:=hou.blk (.inl (.inl rfl)) hblk
   have hf2:=hb2.free
   obtain ⟨sa,hsa⟩ : ∃ sa : Addr,(if cp = k then some (⟨x.hb,a,none⟩ : Addr) else some ⟨x.hb,a + k,none⟩) = some sa:=by split <;> exact ⟨_,rfl⟩
   have hsa2 : sa = ⟨x.hb,a + k,none⟩ ∨ (cp = k ∧ sa = ⟨x.hb,a,none⟩):=by
    split at hsa
    ·rename_i h;injection hsa with hsa;exact .inr ⟨h,hsa.symm⟩
    ·injection hsa with hsa;exact .inl hsa.symm
   have hrs2:=((hrs.outer hou).setT (q':=q + k) (T':=T.drop k) ap (.slice (some sa) (T.length - k) (cp - k)) (fun H hs wr rd fu hw => hw.hand k a cp sa (by omega) hT o1 hsz hsa2))
   rw [hL] at hrs2
   have hbytes:=hrs.bytes k (by omega)
   have hcsk : T.take n = T.take k:=by
    rcases hkc with ⟨h1,h2⟩ | ⟨h1,h2⟩
    ·rw [List.take_of_length_le (by omega),List.take_of_length_le (by omega)]
    ·rw [h1]
   have hex2 : Ext (fun j => x.M j ∨ j = B) w (w2.setCell ⟨x.F,1049,none⟩ (.slice (some sa) (L - k) (cp - k))):=((hex.mono (fun _ _ e => .inl e)).trans (he2.mono (fun _ _ e => .inr e))).setCell (p:=⟨x.F,1049,none⟩) (fun _ => .inl (.inl rfl)) _
   have hB3 : Blk (w2.setCell ⟨x.F,1049,none⟩ (.slice (some sa) (L - k) (cp - k))) B (splice cur.toList bo ((T.take n).map U8)).toArray t:=hB2.setOther _ _ (fun e => hBM (.inl e))
   obtain ⟨v48,hv48⟩ : ∃ v,c[1048]? = some v:=⟨c[1048]'(by omega),Array.getElem?_eq_getElem _⟩
   have hc48 : (w2.setCell ⟨x.F,1049,none⟩ (.slice (some sa) (L - k) (cp - k))).cell? ⟨x.F,1048,none⟩ = some v48:=by rw [(hb2.set 1049 _).cell,set_ne _ _ (by decide)];exact hv48
   have HRS2:=Lib.hid hrs2;have HEX2:=Lib.hid hex2;have HB3:=Lib.hid hB3;have HBY:=Lib.hid hbytes;have HCSK:=Lib.hid hcsk;have HL:=Lib.hid hL;have HCS:=Lib.hid hcs
   have HV48 : Hid ((c.setIfInBounds 1049 (.slice (some sa) (L - k) (cp - k)))[1048]? = some v48):=Lib.hid (by rw [set_ne _ _ (by decide)];exact hv48)
   have hLc : L ≤ cp:=by omega
   have hLci : (L : Int) ≤ (cp : Int):=by omega
   have hkLi : (k : Int) ≤ (L : Int):=by omega
   clear hrs hex hk hL hke hcs hsrc hB2 he2 hou hb2 hsa2 hrs2 hbytes hcsk hex2 hB3 hv48 hw3 hblk hbo hres hok herr o1 o2 o3 o4
   obtain ⟨r,hr0⟩ : ∃ y,L - k = y:=⟨_,rfl⟩
   rw [hr0] at HRS2 HEX2 HB3 HV48 hc48
   rcases hkc with ⟨h1,h2⟩ | ⟨h1,h2⟩
   ·have hq : ((r : Int) == 0) = true:=by simp;omega
    have hTd : T.drop k = []:=List.drop_eq_nil_of_le (by have:=HL.out;omega)
    rw [hTd] at HRS2
    have H1:=Lib.hid h1;have H2:=Lib.hid h2;have HR0:=Lib.hid hr0
    clear hTd hL0 hL0i h1 h2
    go_wp2_with fail
    go_quiet (fail)
    go_wp2_with fail
    go_ret2
    have hq2:=HRS2.out.drewN nq
    refine ⟨k,v48,T.take n,_,[],_,rfl,by rw [HCSK.out,List.length_take,HL.out];omega,hkn,HB3.out.drewN nq,HEX2.out.drewN nq,hq2,fun o e => by rw [HCSK.out];exact HBY.out o e,?_⟩
    by_cases hv : v48 = .nilIface
    ·exact .inl ⟨hv,hk0⟩
    ·exact .inr ⟨rfl,HV48.out,hv⟩
   ·have hq : ((r : Int) == 0) = false:=by simp;omega
    have H1:=Lib.hid h1;have H2:=Lib.hid h2;have HR0:=Lib.hid hr0
    clear hL0 hL0i h1 h2
    go_wp2_with fail
    go_ret2
    exact ⟨k,.nilIface,T.take n,_,T.drop k,_,rfl,by rw [HCSK.out,List.length_take,HL.out];omega,hkn,HB3.out,HEX2.out,HRS2.out,fun o e => by rw [HCSK.out];exact HBY.out o e,.inl ⟨rfl,hk0⟩⟩
end Go.Proofs.YthpapbilhjobnaaGreatDoor
namespace Go.Proofs.YthpapbilhjobnaaGreatDoor
open Go.RowKit Pu
set_option maxHeartbeats 1000000 in
theorem newReader_any (a : Option Addr) (n c : Nat) (w : World) : Calls Tryz.prog 23 #[.slice a n c] w fun e w' => e = .returned (.pointer (some ⟨w.heap.size,0,none⟩)) ∧ w' = w.alloc (.cells #[.slice a n c,.int .i64 0,.int .i64 (-1)] 80):=by
 go_enter Tryz.func23,Tryz.ntmps23
 go_wp2_with fail
 go_ret
 exact ⟨rfl,rfl⟩
set_option maxHeartbeats 1000000 in
theorem readerLen_any (R sb so cap p : Nat) (src : List UInt8) (w : World) (h : Src w R sb so cap src p) :
  Calls Tryz.prog 27 #[.pointer (some ⟨R,0,none⟩)] w fun e w' => e = .returned (.int .i64 ((src.length - p : Nat) : Int)) ∧ Ext (fun _ => False) w w':=by
 have hc0 : w.cell? ⟨R,0,none⟩ = some (.slice (some ⟨sb,so,none⟩) src.length cap):=by rw [h.blk.cell];rfl
 have hc1 : w.cell? ⟨R,1,none⟩ = some (.int .i64 p):=by rw [h.blk.cell];rfl
 have hle:=h.le
 have hsm:=h.small
 clear h
 obtain ⟨n,hn⟩ : ∃ n,src.length = n:=⟨_,rfl⟩
 rw [hn] at hc0 hle hsm ⊢
 clear hn
 rcases Nat.lt_or_ge p n with hlt | hge
 ·have hd : decide ((n : Int) ≤ (p : Int)) = false:=by simp;omega
  have he : (n : Int) - (p : Int) = ((n - p : Nat) : Int):=by omega
  go_enter Tryz.func27,Tryz.ntmps27
  go_wp2_with fail
  go_quiet (fail)
  obtain ⟨na,rfl⟩ : ∃ n : Nat,n = nq:=⟨_,rfl⟩
  go_wp2_with fail
  go_quiet (fail)
  go_wp2_with fail
  go_ret
  exact ⟨rfl,((Ext.refl _ w).drewN _).drewN _⟩
 ·have hd : decide ((n : Int) ≤ (p : Int)) = true:=by simp;omega
  have he : n - p = 0:=by omega
  rw [he]
  go_enter Tryz.func27,Tryz.ntmps27
  go_wp2_with fail
  go_quiet (fail)
  go_wp2_with fail
  go_ret
  exact ⟨rfl,(Ext.refl _ w).drewN _⟩
theorem u16_word (a b : Nat) (ha : a < 256) (hb : b < 256) : bits BinOp.or IntKind.u16 (b : Int) ((a : Int) * 256) = ((256 * a + b : Nat) : Int):=by
 have h:=u16_or_nat b (a * 256) (by omega) (by omega)
 rw [Nat.or_comm,nat_join 8 (a * 256) b (by omega) (by omega)] at h
 rw [show 256 * a + b = a * 256 + b by omega,← h];simp
set_option maxHeartbeats 1000000 in
theorem uint16_any (B o cap : Nat) (a b : Nat) (ha : a < 256) (hb : b < 256) (w : World) (h0 : w.cell? ⟨B,o,none⟩ = some (.int .u8 a)) (h1 : w.cell? ⟨B,o + 1,none⟩ = some (.int .u8 b)) :
  Calls Tryz.prog 49 #[.agg #[],.slice (some ⟨B,o,none⟩) 2 cap] w fun e w' => e = .returned (.int .u16 ((256 * a + b : Nat) : Int)) ∧ Ext (fun _ => False) w w':=by
 have hw:=u16_word a b ha hb
 have hal : Ext (fun _ => False) w (w.alloc (.cells #[] 114)):=(Ext.refl _ w).alloc _
 have k0:=hal.cellSome (fun e => e) h0
 have k1:=hal.cellSome (fun e => e) h1
 have HAL:=Lib.hid hal
 clear hal
 go_enter Tryz.func49,Tryz.ntmps49
 go_wp2_with fail
 go_quiet (fail)
 go_wp2_with fail
 go_ret
 exact ⟨rfl,HAL.out.drewN _⟩
theorem u32_word (a b c d : Nat) (ha : a < 256) (hb : b < 256) (hc : c < 256) (hd : d < 256) :
  bits BinOp.or IntKind.u32 (d : Int) ((c : Int) * 256) = ((256 * c + d : Nat) : Int) ∧ bits BinOp.or IntKind.u32 ((256 * c + d : Nat) : Int) ((b : Int) * 65536) = ((65536 * b + 256 * c + d : Nat) : Int) ∧ bits BinOp.or IntKind.u32 ((65536 * b + 256 * c + d : Nat) : Int) ((a : Int) * 16777216) = ((16777216 * a + 65536 * b + 256 * c + d : Nat) : Int):=by
 refine ⟨?_,?_,?_⟩
 ·have h:=u32_or_nat d (c * 256) (by omega) (by omega)
  rw [Nat.or_comm,nat_join 8 (c * 256) d (by omega) (by omega)] at h
  rw [show 256 * c + d = c * 256 + d by omega,← h];simp
 ·have h:=u32_or_nat (256 * c + d) (b * 65536) (by omega) (by omega)
  rw [Nat.or_comm,nat_join 16 (b * 65536) (256 * c + d) (by omega) (by omega)] at h
  rw [show 65536 * b + 256 * c + d = b * 65536 + (256 * c + d) by omega,← h];simp
 ·have h:=u32_or_nat (65536 * b + 256 * c + d) (a * 16777216) (by omega) (by omega)
  rw [Nat.or_comm,nat_join 24 (a * 16777216) (65536 * b + 256 * c + d) (by omega) (by omega)] at h
  rw [show 16777216 * a + 65536 * b + 256 * c + d = a * 16777216 + (65536 * b + 256 * c + d) by omega,← h];simp
set_option maxHeartbeats 2000000 in
theorem uint32_any (B o cap : Nat) (a b c d : Nat) (ha : a < 256) (hb : b < 256) (hc : c < 256) (hd : d < 256) (w : World) (h0 : w.cell? ⟨B,o,none⟩ = some (.int .u8 a)) (h1 : w.cell? ⟨B,o + 1,none⟩ = some (.int .u8 b)) (h2 : w.cell? ⟨B,o + 2,none⟩ = some (.int .u8 c)) (h3 : w.cell? ⟨B,o + 3,none⟩ = some (.int .u8 d)) :
  Calls Tryz.prog 50 #[.agg #[],.slice (some ⟨B,o,none⟩) 4 cap] w fun e w' => e = .returned (.int .u32 ((16777216 * a + 65536 * b + 256 * c + d : Nat) : Int)) ∧ Ext (fun _ => False) w w':=by
 obtain ⟨w1,w2,w3⟩:=u32_word a b c d ha hb hc hd
 have hal : Ext (fun _ => False) w (w.alloc (.cells #[] 114)):=(Ext.refl _ w).alloc _
 have k0:=hal.cellSome (fun e => e) h0
 have k1:=hal.cellSome (fun e => e) h1
 have k2:=hal.cellSome (fun e => e) h2
 have k3:=hal.cellSome (fun e => e) h3
 obtain ⟨s1,hs1⟩ : ∃ y,256 * c + d = y:=⟨_,rfl⟩
 rw [hs1] at w1 w2
 obtain ⟨s2,hs2⟩ : ∃ y,65536 * b + 256 * c + d = y:=⟨_,rfl⟩
 rw [hs2] at w2 w3
 obtain ⟨s3,hs3⟩ : ∃ y,16777216 * a + 65536 * b + 256 * c + d = y:=⟨_,rfl⟩
 rw [hs3] at w3 ⊢
 have HAL:=Lib.hid hal
 clear hal hs1 hs2 hs3
 go_enter Tryz.func50,Tryz.ntmps50
 go_wp2_with fail
 go_quiet (fail)
 go_wp2_with fail
 go_ret
 exact ⟨rfl,HAL.out.drewN _⟩
set_option maxHeartbeats 1000000 in
theorem fclose_eof (F : Nat) (c : Array Value) (A : Addr) (w : World) (hb : Blk w F c 147) (hA : Sent w 0 A) (hv : c[1048]? = some (.iface 175 (.pointer (some A)))) :
  Calls Tryz.prog 127 #[.pointer (some ⟨F,0,none⟩)] w fun e w' => e = .returned .nilIface ∧ Ext (fun _ => False) w w':=by
 obtain ⟨i,hi,hcmp⟩:=Option.map_eq_some_iff.1 Tryz.comp175
 obtain ⟨j,hj,_⟩:=Option.map_eq_some_iff.1 Tryz.size204
 have h0:=hA.cell
 have hc : w.cell? ⟨F,1048,none⟩ = some (.iface 175 (.pointer (some A))):=by rw [hb.cell];exact hv
 have he:=fun w : World => run_eql_iface_ptr_same (P:=Tryz.prog) w A Tryz.underlying47 Tryz.underlying175 hi hcmp hj
 clear hA hb
 go_enter Tryz.func127,Tryz.ntmps127
 go_wp2_with fail
 go_quiet (fail)
 go_wp2_with fail
 go_ret
 exact ⟨rfl,(Ext.refl _ w).drewN _⟩
end Go.Proofs.YthpapbilhjobnaaGreatDoor
namespace Go.Proofs.YthpapbilhjobnaaGreatDoor.Pu
def raw (p : Nat × Nat) (c : UInt8) : Nat × Nat:=(p.1 + c.toNat,p.2 + (p.1 + c.toNat))
def red (p : Nat × Nat) (c : UInt8) : Nat × Nat:=((p.1 + c.toNat) % 65521,(p.2 + (p.1 + c.toNat) % 65521) % 65521)
theorem raw_mod (l : List UInt8) (p q : Nat × Nat) (h1 : p.1 % 65521 = q.1 % 65521) (h2 : p.2 % 65521 = q.2 % 65521) :
  (l.foldl raw p).1 % 65521 = (l.foldl red q).1 % 65521 ∧ (l.foldl raw p).2 % 65521 = (l.foldl red q).2 % 65521:=by
 induction l generalizing p q with
 | nil => exact ⟨h1,h2⟩
 | cons c l ih =>
  refine ih _ _ ?_ ?_ <;> simp only [raw,red] <;> omega
theorem red_lt (l : List UInt8) (p : Nat × Nat) (h : p.1 < 65521 ∧ p.2 < 65521) : (l.foldl red p).1 < 65521 ∧ (l.foldl red p).2 < 65521:=by
 induction l generalizing p with
 | nil => exact h
 | cons c l ih => exact ih _ ⟨Nat.mod_lt _ (by omega),Nat.mod_lt _ (by omega)⟩
theorem raw_end (l : List UInt8) (p : Nat × Nat) (h : p.1 < 65521 ∧ p.2 < 65521) : (l.foldl raw p).1 % 65521 = (l.foldl red p).1 ∧ (l.foldl raw p).2 % 65521 = (l.foldl red p).2:=by
 have h1:=raw_mod l p p rfl rfl
 have h2:=red_lt l p h
 omega
theorem raw_bound (l : List UInt8) (p : Nat × Nat) (h : p.1 < 65521 ∧ p.2 < 65521) (n : Nat) (hn : l.length = n) :
  (l.foldl raw p).1 ≤ 65520 + 255 * n ∧ 2 * (l.foldl raw p).2 ≤ 2 * (65520 * (n + 1)) + 255 * (n * (n + 1)):=by
 induction n generalizing l with
 | zero =>
  have : l = []:=List.eq_nil_of_length_eq_zero hn
  subst this
  simp;omega
 | succ n ih =>
  obtain ⟨m,c,rfl⟩ : ∃ m c,l = m ++ [c]:=by
   have hne : l ≠ []:=by intro e;rw [e] at hn;simp at hn
   exact ⟨l.dropLast,l.getLast hne,(List.dropLast_concat_getLast hne).symm⟩
  have hm : m.length = n:=by simp at hn;omega
  obtain ⟨h1,h2⟩:=ih m hm
  rw [List.foldl_append]
  simp only [List.foldl_cons,List.foldl_nil,raw]
  have hc:=c.toNat_lt
  have e1 : (n + 1) * (n + 1 + 1) = n * (n + 1) + 2 * (n + 1):=by
   rw [Nat.mul_comm (n + 1),show n + 1 + 1 = n + 2 by omega,Nat.add_mul]
  rw [e1]
  omega
theorem raw_small (l : List UInt8) (p : Nat × Nat) (h : p.1 < 65521 ∧ p.2 < 65521) (hl : l.length ≤ 5552) : (l.foldl raw p).1 < 4294967296 ∧ (l.foldl raw p).2 < 4294967296:=by
 obtain ⟨h1,h2⟩:=raw_bound l p h l.length rfl
 have h3 : l.length * (l.length + 1) ≤ 5552 * 5553:=Nat.mul_le_mul hl (by omega)
 omega
theorem raw_take (l : List UInt8) (p : Nat × Nat) (k : Nat) (hk : k < l.length) : (l.take (k + 1)).foldl raw p = raw ((l.take k).foldl raw p) l[k]:=by
 rw [List.take_succ_eq_append_getElem hk,List.foldl_append];rfl
end Go.Proofs.YthpapbilhjobnaaGreatDoor.Pu
namespace Go.Proofs.YthpapbilhjobnaaGreatDoor
open Go.RowKit Pu
variable {c0 c1 c2 c3 c4 c5 c6 c7 c8 c9 c10 c11 c12 c13 c14 c15 c16 c17 c18 c19 c20 c21 c22 c23 c24 c25 c26 c27 c28 c29 c30 c31 c32 c33 c34 c35 c36 c37 c38 c39 c40 c41 c42 c43 c44 c45 c46 c47 c48 c49 c50 c51 c52 c53 c54 c55 c56 c57 c58 c59 c60 c61 c62 c63 c64 c65 c66 c67 c68 c69 c70 c71 c72 c73 c74 c75 c76 c77 c78 c79 c80 c81 c82 c83 c84 c85 c86 c87 : Value}
noncomputable def blk59 (n : Nat) : Code:=(Tryz.f59.body.bind (blockOf n)).getD .skip
theorem rawCast (P : Nat × Nat) (c : UInt8) : ((raw P c).1 : Int) = (P.1 : Int) + (c.toNat : Int) ∧ ((raw P c).2 : Int) = (P.2 : Int) + ((P.1 : Int) + (c.toNat : Int)):=by simp [raw]
theorem u32N {a b : Nat} (h : a = b) : Value.int .u32 (a : Int) = .int .u32 (b : Int):=by rw [h]
set_option maxRecDepth 100000 in
set_option maxHeartbeats 4000000 in
theorem upd_four (b o cap n : Nat) (ad : Addr) (l : List UInt8) (P : Nat × Nat) (hP : P.1 < 65521 ∧ P.2 < 65521) (w : World) (hl : l.length = n) (hn : n ≤ 5552) (hcap : n ≤ cap) (hc : ∀ j x,(l.map U8)[j]? = some x → w.cell? ⟨b,o + j,none⟩ = some x) (ha : 0 < n → ad = ⟨b,o,none⟩) (Q : Exit → Act → World → Prop)
  (hK : ∀ (u1 u5 u6 u24 u25 u26 u27 u28 u29 u30 u31 u32 u33 u34 u35 u36 u37 u38 u39 u40 u41 u42 u43 u44 u45 u46 u47 u48 u49 u50 u51 u52 u53 u54 u55 u56 u57 u58 u59 u60 u61 u62 u63 u64 : Value),(∃ j ad',j ≤ n ∧ n < j + 4 ∧ u1 = .slice (some ad') (n - j) (cap - j) ∧ (j < n → ad' = ⟨b,o + j,none⟩) ∧ u5 = .int .u32 ((l.take j).foldl raw P).1 ∧ u6 = .int .u32 ((l.take j).foldl raw P).2) → Q .normal ⟨List.toArray (c0::u1::c2::c3::c4::u5::u6::c7::c8::c9::c10::c11::c12::c13::c14::c15::c16::c17::c18::c19::c20::c21::c22::c23::u24::u25::u26::u27::u28::u29::u30::u31::u32::u33::u34::u35::u36::u37::u38::u39::u40::u41::u42::u43::u44::u45::u46::u47::u48::u49::u50::u51::u52::u53::u54::u55::u56::u57::u58::u59::u60::u61::u62::u63::u64::c65::c66::c67::c68::c69::c70::c71::c72::c73::c74::c75::c76::c77::c78::c79::c80::c81::c82::c83::c84::c85::c86::c87::[]),[]⟩ w) :
  Code.wp Tryz.prog (blk59 2) Q ⟨List.toArray (c0::(.slice (some ad) n cap)::c2::c3::c4::(.int .u32 P.1)::(.int .u32 P.2)::c7::c8::c9::c10::c11::c12::c13::c14::c15::c16::c17::c18::c19::c20::c21::c22::c23::c24::c25::c26::c27::c28::c29::c30::c31::c32::c33::c34::c35::c36::c37::c38::c39::c40::c41::c42::c43::c44::c45::c46::c47::c48::c49::c50::c51::c52::c53::c54::c55::c56::c57::c58::c59::c60::c61::c62::c63::c64::c65::c66::c67::c68::c69::c70::c71::c72::c73::c74::c75::c76::c77::c78::c79::c80::c81::c82::c83::c84::c85::c86::c87::[]),[]⟩ w:=by
 have HC:=Lib.hid hc;have HK:=Lib.hid hK;have HL:=Lib.hid hl;have HP:=Lib.hid hP;have HA:=Lib.hid ha
 clear hc hK hl ha
 conv => arg 2;whnf
 go_wp2_with fail
 go_loopg [1,5,6] n (fun k s1 s5 s6 wx => w = wx ∧ ∃ (j : Nat) (ad' : Addr),j ≤ n ∧ s1 = .slice (some ad') (n - j) (cap - j) ∧ (j < n → ad' = ⟨b,o + j,none⟩) ∧ s5 = .int .u32 ((l.take j).foldl raw P).1 ∧ s6 = .int .u32 ((l.take j).foldl raw P).2 ∧ k = n - j)
 case atStart => exact ⟨rfl,0,ad,by omega,rfl,HA.out,rfl,rfl,rfl⟩
 case round =>
  obtain ⟨rfl,j,ad',hj,rfl,had,rfl,rfl,hk⟩:=hrel
  have HAD:=Lib.hid had;have HKK:=Lib.hid hk
  clear had hk
  rcases Nat.lt_or_ge n (j + 4) with h4 | h4
  ·have h4' : ¬ ((4 : Int) ≤ ((n - j : Nat) : Int)):=by omega
   obtain ⟨r,hr⟩ : ∃ r,n - j = r:=⟨_,rfl⟩
   rw [hr] at h4'
   have HR:=Lib.hid hr
   generalize hA : ((l.take j).foldl raw P).1 = A at *
   generalize hB : ((l.take j).foldl raw P).2 = B at *
   rw [hr]
   clear hr
   go_wp2_with fail
   exact HK.out _ _ _ _ _ _ _ _ _ _ _ _ _ _ _ _ _ _ _ _ _ _ _ _ _ _ _ _ _ _ _ _ _ _ _ _ _ _ _ _ _ _ _ _ ⟨j,ad',hj,h4,by rw [HR.out],HAD.out,by rw [hA],by rw [hB]⟩
  ·obtain rfl:=HAD.out (by omega)
   have h4' : (4 : Int) ≤ ((n - j : Nat) : Int):=by omega
   have h4n : 4 ≤ n - j:=by omega
   have hll:=HL.out
   have e0:=(rawCast ((l.take j).foldl raw P) (l[j]'(by omega)))
   have e1:=(rawCast ((l.take (j + 1)).foldl raw P) (l[j + 1]'(by omega)))
   have e2:=(rawCast ((l.take (j + 2)).foldl raw P) (l[j + 2]'(by omega)))
   have e3:=(rawCast ((l.take (j + 3)).foldl raw P) (l[j + 3]'(by omega)))
   rw [← raw_take l P j (by omega)] at e0
   rw [← raw_take l P (j + 1) (by omega)] at e1
   rw [← raw_take l P (j + 2) (by omega)] at e2
   rw [← raw_take l P (j + 3) (by omega)] at e3
   have hs : ∀ i,((l.take i).foldl raw P).1 < 4294967296 ∧ ((l.take i).foldl raw P).2 < 4294967296:=fun i => raw_small (l.take i) P HP.out (by simp;omega)
   have hs1:=hs (j + 1);have hs2:=hs (j + 2);have hs3:=hs (j + 3);have hs4:=hs (j + 4)
   have c0 : w.cell? ⟨b,o + j,none⟩ = some (.int .u8 (l[j]'(by omega)).toNat):=HC.out j _ (by simp [U8,show j < l.length by omega])
   have c1 : w.cell? ⟨b,o + j + 1,none⟩ = some (.int .u8 (l[j + 1]'(by omega)).toNat):=HC.out (j + 1) _ (by simp [U8,show j + 1 < l.length by omega])
   have c2 : w.cell? ⟨b,o + j + 2,none⟩ = some (.int .u8 (l[j + 2]'(by omega)).toNat):=HC.out (j + 2) _ (by simp [U8,show j + 2 < l.length by omega])
   have c3 : w.cell? ⟨b,o + j + 3,none⟩ = some (.int .u8 (l[j + 3]'(by omega)).toNat):=HC.out (j + 3) _ (by simp [U8,show j + 3 < l.length by omega])
   have b0:=(l[j]'(by omega)).toNat_lt
   have b1:=(l[j + 1]'(by omega)).toNat_lt
   have b2:=(l[j + 2]'(by omega)).toNat_lt
   have b3:=(l[j + 3]'(by omega)).toNat_lt
   generalize (l[j]'(by omega)).toNat = x0 at *
   generalize (l[j + 1]'(by omega)).toNat = x1 at *
   generalize (l[j + 2]'(by omega)).toNat = x2 at *
   generalize (l[j + 3]'(by omega)).toNat = x3 at *
   generalize hA0 : ((l.take j).foldl raw P).1 = A0 at *
   generalize hB0 : ((l.take j).foldl raw P).2 = B0 at *
   generalize hA1 : ((l.take (j + 1)).foldl raw P).1 = A1 at *
   generalize hB1 : ((l.take (j + 1)).foldl raw P).2 = B1 at *
   generalize hA2 : ((l.take (j + 2)).foldl raw P).1 = A2 at *
   generalize hB2 : ((l.take (j + 2)).foldl raw P).2 = B2 at *
   generalize hA3 : ((l.take (j + 3)).foldl raw P).1 = A3 at *
   generalize hB3 : ((l.take (j + 3)).foldl raw P).2 = B3 at *
   generalize hA4 : ((l.take (j + 4)).foldl raw P).1 = A4 at *
   generalize hB4 : ((l.take (j + 4)).foldl raw P).2 = B4 at *
   have f1 : (A0 : Int) + (x0 : Int) = (A1 : Int):=e0.1.symm
   have g1 : (B0 : Int) + (A1 : Int) = (B1 : Int):=by omega
   have f2 : (A1 : Int) + (x1 : Int) = (A2 : Int):=e1.1.symm
   have g2 : (B1 : Int) + (A2 : Int) = (B2 : Int):=by omega
   have f3 : (A2 : Int) + (x2 : Int) = (A3 : Int):=e2.1.symm
   have g3 : (B2 : Int) + (A3 : Int) = (B3 : Int):=by omega
   have f4 : (A3 : Int) + (x3 : Int) = (A4 : Int):=e3.1.symm
   have g4 : (B3 : Int) + (A4 : Int) = (B4 : Int):=by omega
   clear e0 e1 e2 e3 hs hA0 hB0 hA1 hB1 hA2 hB2 hA3 hB3
   have hcr : n - j ≤ cap - j:=by omega
   obtain ⟨r,hr⟩ : ∃ r,n - j = r:=⟨_,rfl⟩
   obtain ⟨cr,hcre⟩ : ∃ r,cap - j = r:=⟨_,rfl⟩
   rw [hr] at h4' h4n hcr
   rw [hcre] at hcr
   have HR:=Lib.hid hr;have HCR:=Lib.hid hcre
   rw [hr,hcre]
   obtain ⟨sa,hsa⟩ : ∃ sa : Addr,(if cr = 4 then some (⟨b,o + j,none⟩ : Addr) else some ⟨b,o + j + 4,none⟩) = some sa:=by split <;> exact ⟨_,rfl⟩
   have hSA : j + 4 < n → sa = ⟨b,o + (j + 4),none⟩:=by
    intro h
    have:=HR.out
    rw [if_neg (by omega)] at hsa
    injection hsa with hsa
    rw [← hsa,Nat.add_assoc]
   have HSA:=Lib.hid hSA
   clear hr hcre hll hSA
   go_wp2_with fail
   go_roundg (n - (j + 4))
   case measure => have:=HKK.out;omega
   case rel =>
    have h1:=HR.out;have h2:=HCR.out
    exact ⟨rfl,j + 4,sa,h4,by rw [show n - (j + 4) = r - 4 by omega,show cap - (j + 4) = cr - 4 by omega],HSA.out,by rw [hA4],by rw [hB4],rfl⟩
set_option maxRecDepth 100000 in
set_option maxHeartbeats 4000000 in
theorem upd_rest (b o cap n j : Nat) (ad : Addr) (l : List UInt8) (P : Nat × Nat) (hP : P.1 < 65521 ∧ P.2 < 65521) (w : World) (hl : l.length = n) (hn : n ≤ 5552) (hcap : n ≤ cap) (hj : j ≤ n) (hc : ∀ j x,(l.map U8)[j]? = some x → w.cell? ⟨b,o + j,none⟩ = some x) (ha : j < n → ad = ⟨b,o + j,none⟩) (Q : Exit → Act → World → Prop)
  (hK : ∀ (u5 u6 u9 u67 u68 u69 u70 u71 u72 u73 u74 u75 u76 u77 u78 : Value),u5 = .int .u32 (l.foldl raw P).1 → u6 = .int .u32 (l.foldl raw P).2 → Q .normal ⟨List.toArray (c0::c1::c2::c3::c4::u5::u6::c7::c8::u9::c10::c11::c12::c13::c14::c15::c16::c17::c18::c19::c20::c21::c22::c23::c24::c25::c26::c27::c28::c29::c30::c31::c32::c33::c34::c35::c36::c37::c38::c39::c40::c41::c42::c43::c44::c45::c46::c47::c48::c49::c50::c51::c52::c53::c54::c55::c56::c57::c58::c59::c60::c61::c62::c63::c64::(.slice (some ad) (n - j) (cap - j))::(.int .i64 ((n - j : Nat) : Int))::u67::u68::u69::u70::u71::u72::u73::u74::u75::u76::u77::u78::c79::c80::c81::c82::c83::c84::c85::c86::c87::[]),[]⟩ w) :
  Code.wp Tryz.prog (blk59 4) Q ⟨List.toArray (c0::c1::c2::c3::c4::(.int .u32 ((l.take j).foldl raw P).1)::(.int .u32 ((l.take j).foldl raw P).2)::c7::c8::c9::c10::c11::c12::c13::c14::c15::c16::c17::c18::c19::c20::c21::c22::c23::c24::c25::c26::c27::c28::c29::c30::c31::c32::c33::c34::c35::c36::c37::c38::c39::c40::c41::c42::c43::c44::c45::c46::c47::c48::c49::c50::c51::c52::c53::c54::c55::c56::c57::c58::c59::c60::c61::c62::c63::c64::(.slice (some ad) (n - j) (cap - j))::(.int .i64 ((n - j : Nat) : Int))::(.int .i64 0)::c68::c69::c70::c71::c72::c73::c74::c75::c76::c77::c78::c79::c80::c81::c82::c83::c84::c85::c86::c87::[]),[]⟩ w:=by
 have HC:=Lib.hid hc;have HK:=Lib.hid hK;have HL:=Lib.hid hl;have HP:=Lib.hid hP;have HA:=Lib.hid ha
 clear hc hK hl ha
 obtain ⟨r,hr⟩ : ∃ r,n - j = r:=⟨_,rfl⟩
 obtain ⟨cr,hcr⟩ : ∃ r,cap - j = r:=⟨_,rfl⟩
 rw [hr,hcr]
 rw [hr,hcr] at HK
 have hrc : r ≤ cr:=by omega
 have hr5 : r ≤ 5552:=by omega
 have HR:=Lib.hid hr
 clear hr hcr
 conv => arg 2;whnf
 go_wp2_with fail
 go_loopg [5,6,67] r (fun k s5 s6 s67 wx => w = wx ∧ ∃ (i : Nat),i ≤ r ∧ s67 = .int .i64 i ∧ s5 = .int .u32 ((l.take (j + i)).foldl raw P).1 ∧ s6 = .int .u32 ((l.take (j + i)).foldl raw P).2 ∧ k = r - i)
 case atStart => exact ⟨rfl,0,by omega,rfl,rfl,rfl,rfl⟩
 case round =>
  obtain ⟨rfl,i,hi,rfl,rfl,rfl,hk⟩:=hrel
  have HKK:=Lib.hid hk
  clear hk
  rcases Nat.lt_or_ge i r with h4 | h4
  ·have hr:=HR.out
   obtain rfl:=HA.out (by omega)
   have hll:=HL.out
   have e0:=(rawCast ((l.take (j + i)).foldl raw P) (l[j + i]'(by omega)))
   rw [← raw_take l P (j + i) (by omega)] at e0
   have hs : ∀ i,((l.take i).foldl raw P).1 < 4294967296 ∧ ((l.take i).foldl raw P).2 < 4294967296:=fun i => raw_small (l.take i) P HP.out (by simp;omega)
   have hs1:=hs (j + i + 1)
   have c0 : w.cell? ⟨b,o + j + i,none⟩ = some (.int .u8 (l[j + i]'(by omega)).toNat):=by rw [Nat.add_assoc];exact HC.out (j + i) _ (by simp [U8,show j + i < l.length by omega])
   have b0:=(l[j + i]'(by omega)).toNat_lt
   generalize (l[j + i]'(by omega)).toNat = x0 at *
   generalize hA0 : ((l.take (j + i)).foldl raw P).1 = A0 at *
   generalize hB0 : ((l.take (j + i)).foldl raw P).2 = B0 at *
   generalize hA1 : ((l.take (j + i + 1)).foldl raw P).1 = A1 at *
   generalize hB1 : ((l.take (j + i + 1)).foldl raw P).2 = B1 at *
   have f1 : (A0 : Int) + (x0 : Int) = (A1 : Int):=e0.1.symm
   have g1 : (B0 : Int) + (A1 : Int) = (B1 : Int):=by omega
   have hi2 : (i : Int) < (r : Int):=by omega
   clear e0 hs hA0 hB0 hr hll
   go_wp2_with fail
   go_roundg (r - (i + 1))
   case measure => have:=HKK.out;omega
   case rel => exact ⟨rfl,i + 1,h4,by go_num,by rw [← hA1];rfl,by rw [← hB1];rfl,rfl⟩
  ·have hir : i = r:=by omega
   have hi2 : ¬ ((i : Int) < (r : Int)):=by omega
   have hfull : l.take (j + i) = l:=List.take_of_length_le (by have:=HL.out;have:=HR.out;omega)
   rw [hfull]
   generalize hA0 : (l.foldl raw P).1 = A0 at *
   generalize hB0 : (l.foldl raw P).2 = B0 at *
   go_wp2_with fail
   exact HK.out _ _ _ _ _ _ _ _ _ _ _ _ _ _ _ rfl rfl
theorem adlS_app (a b : List UInt8) : adlS (a ++ b) = b.foldl red (adlS a):=by simp [adlS,List.foldl_append];rfl
theorem red_end (l : List UInt8) (a : List UInt8) : (l.foldl raw (adlS a)).1 % 65521 = (adlS (a ++ l)).1 ∧ (l.foldl raw (adlS a)).2 % 65521 = (adlS (a ++ l)).2:=by
 have h:=raw_end l (adlS a) (adlS_lt a)
 rw [adlS_app];exact h
set_option maxRecDepth 100000 in
set_option maxHeartbeats 8000000 in
theorem update_some (l0 l : List UInt8) (b o cap n : Nat) (w : World) (hl : l.length = n) (hn : n ≤ 1099511627776) (hcap : n ≤ cap) (hc : ∀ j x,(l.map U8)[j]? = some x → w.cell? ⟨b,o + j,none⟩ = some x) :
  Calls Tryz.prog 59 #[.int .u32 (adler l0),.slice (some ⟨b,o,none⟩) n cap] w fun e w' => e = .returned (.int .u32 (adler (l0 ++ l))) ∧ Ext (fun _ => False) w w':=by
 have HC:=Lib.hid hc;have HL:=Lib.hid hl
 clear hc hl
 have h01:=adlS_lt l0
 obtain ⟨D,hD⟩ : ∃ D,adler l0 = D:=⟨_,rfl⟩
 rw [hD]
 have hDe : D = (adlS l0).2 * 65536 + (adlS l0).1:=by rw [← hD];rfl
 obtain ⟨a0,ha0⟩ : ∃ a,(adlS l0).1 = a:=⟨_,rfl⟩
 obtain ⟨b0,hb0⟩ : ∃ a,(adlS l0).2 = a:=⟨_,rfl⟩
 rw [ha0,hb0] at h01 hDe
 have hand : bits BinOp.and IntKind.u32 (D : Int) 65535 = (a0 : Int):=by
  have:=u32_and_nat D 65535 (by omega) (by omega)
  rw [show (65535 : Nat) = 2 ^ 16 - 1 by rfl,Nat.and_two_pow_sub_one_eq_mod,show D % 2 ^ 16 = a0 by omega] at this
  exact this
 have hshr : (D : Int) / 65536 = (b0 : Int):=by omega
 have HA0:=Lib.hid ha0;have HB0:=Lib.hid hb0
 clear hD hDe ha0 hb0
 go_enter Tryz.func59,Tryz.ntmps59
 go_upto_block 0 with (fail)
 refine wp_block ?_
 go_loopg [1,5,6] n (fun k s1 s5 s6 wx => Ext (fun _ => False) w wx ∧ ∃ j,j ≤ n ∧ ((j = n ∧ ∃ a c,s1 = .slice a 0 c) ∨ (j < n ∧ s1 = .slice (some ⟨b,o + j,none⟩) (n - j) (cap - j))) ∧ s5 = .int .u32 (adlS (l0 ++ l.take j)).1 ∧ s6 = .int .u32 (adlS (l0 ++ l.take j)).2 ∧ k = n - j)
 case atStart =>
  refine ⟨Ext.refl _ _,0,by omega,?_,by simpa using u32N HA0.out.symm,by simpa using u32N HB0.out.symm,rfl⟩
  rcases Nat.eq_zero_or_pos n with h | h
  ·exact .inl ⟨h.symm,some ⟨b,o,none⟩,cap,by rw [h]⟩
  ·exact .inr ⟨h,rfl⟩
 case round =>
  obtain ⟨hex,j,hj,hcase,rfl,rfl,hk⟩:=hrel
  have HEX:=Lib.hid hex;have HKK:=Lib.hid hk
  clear hex hk
  rcases hcase with ⟨rfl,a,c,rfl⟩ | ⟨hjn,rfl⟩
  ·have hfull : l.take j = l:=List.take_of_length_le (by have:=HL.out;omega)
   rw [hfull]
   have h2:=adlS_lt (l0 ++ l)
   have HO:=Lib.hid (or_sum (adlS (l0 ++ l)).2 (adlS (l0 ++ l)).1 h2.2 h2.1)
   obtain ⟨h3,h4⟩:=h2
   generalize hA0 : (adlS (l0 ++ l)).1 = A0 at *
   generalize hB0 : (adlS (l0 ++ l)).2 = B0 at *
   clear hfull
   go_wp2_with fail
   go_ret
   refine ⟨?_,HEX.out⟩
   rw [HO.out,← hA0,← hB0];rfl
  ·obtain ⟨r,hr⟩ : ∃ r,n - j = r:=⟨_,rfl⟩
   obtain ⟨cr,hcr⟩ : ∃ r,cap - j = r:=⟨_,rfl⟩
   rw [hr,hcr]
   have HR:=Lib.hid hr;have HCR:=Lib.hid hcr
   have hrc : r ≤ cr:=by omega
   have hr0 : 0 < r:=by omega
   have hr0i : (0 : Int) < (r : Int):=by omega
   have hPP:=adlS_lt (l0 ++ l.take j)
   have HPP:=Lib.hid hPP
   clear hr hcr
   obtain ⟨m,hm1,hm2,hm3⟩ : ∃ m,m ≤ r ∧ m ≤ 5552 ∧ ((r ≤ 5552 ∧ m = r) ∨ (5552 < r ∧ m = 5552)):=by
    rcases Nat.lt_or_ge 5552 r with h | h
    ·exact ⟨5552,by omega,by omega,.inr ⟨h,rfl⟩⟩
    ·exact ⟨r,by omega,by omega,.inl ⟨h,rfl⟩⟩
   have hcl : ((l.drop j).take m).length = m:=by have:=HL.out;have:=HR.out;simp;omega
   have hex : ∀ i x,(((l.drop j).take m).map U8)[i]? = some x → wr.cell? ⟨b,o + j + i,none⟩ = some x:=by
    intro i x hx
    rw [List.map_take,List.map_drop,List.getElem?_take] at hx
    split at hx
    ·rw [List.getElem?_drop] at hx
     rw [Nat.add_assoc];exact HEX.out.cellSome (fun e => e) (HC.out _ _ hx)
    ·simp at hx
   have HCH:=Lib.hid hex;have HCL:=Lib.hid hcl
   clear hex hcl
   have hend : ((((l.drop j).take m).foldl raw (adlS (l0 ++ l.take j))).1 : Int) % 65521 = ((adlS (l0 ++ l.take (j + m))).1 : Int) ∧ ((((l.drop j).take m).foldl raw (adlS (l0 ++ l.take j))).2 : Int) % 65521 = ((adlS (l0 ++ l.take (j + m))).2 : Int):=by
    have h:=red_end ((l.drop j).take m) (l0 ++ l.take j)
    have e : l0 ++ l.take j ++ (l.drop j).take m = l0 ++ l.take (j + m):=by rw [List.append_assoc,← List.take_add]
    rw [e] at h
    omega
   have HEND:=Lib.hid hend
   clear hend
   generalize hPe : adlS (l0 ++ l.take j) = PP at *
   clear hPe
   rcases hm3 with ⟨hm4,rfl⟩ | ⟨hm4,hm5⟩
   ·have hle : ¬ ((5552 : Int) < (m : Int)):=by omega
    go_upto_block 2 with (fail)
    refine upd_four b (o + j) cr m ⟨b,o + j,none⟩ ((l.drop j).take m) PP HPP.out wr HCL.out hm2 hrc HCH.out (fun _ => rfl) _ ?_
    intro u1 u5 u6 u24 u25 u26 u27 u28 u29 u30 u31 u32 u33 u34 u35 u36 u37 u38 u39 u40 u41 u42 u43 u44 u45 u46 u47 u48 u49 u50 u51 u52 u53 u54 u55 u56 u57 u58 u59 u60 u61 u62 u63 u64 hu
    obtain ⟨j1,ad1,g1,g2,rfl,g4,rfl,rfl⟩:=hu
    go_upto_block 4 with (fail)
    refine upd_rest b (o + j) cr m j1 ad1 ((l.drop j).take m) PP HPP.out wr HCL.out hm2 hrc g1 HCH.out g4 _ ?_
    intro u5 u6 u9 u67 u68 u69 u70 u71 u72 u73 u74 u75 u76 u77 u78 hu5 hu6
    subst hu5 hu6
    have he1:=HEND.out.1
    have he2:=HEND.out.2
    generalize hA0 : (((l.drop j).take m).foldl raw PP).1 = A0 at *
    generalize hB0 : (((l.drop j).take m).foldl raw PP).2 = B0 at *
    clear hA0 hB0
    generalize hA1 : (adlS (l0 ++ l.take (j + m))).1 = A1 at *
    generalize hB1 : (adlS (l0 ++ l.take (j + m))).2 = B1 at *
    go_wp2_with fail
    go_roundg 0
    case measure => have:=HKK.out;omega
    case rel =>
     have:=HR.out
     exact ⟨HEX.out,j + m,by omega,.inl ⟨by omega,none,0,rfl⟩,by first | rw [he1,← hA1] | rw [← hA1],by first | rw [he2,← hB1] | rw [← hB1],by omega⟩
   ·subst hm5
    have hle : (5552 : Int) < (r : Int):=by omega
    have hle2 : 5552 ≤ r:=by omega
    have hle3 : 5552 ≤ cr:=by omega
    have hne : ¬ cr = 5552:=by omega
    have hne2 : ¬ 5552 = cr:=by omega
    go_upto_region 5 with (fail)
    go_quiet (fail)
    have HCH2 : Hid (∀ i x,(((l.drop j).take 5552).map U8)[i]? = some x → (wr.drewN nq).cell? ⟨b,o + j + i,none⟩ = some x):=HCH
    clear HCH
    go_upto_block 2 with (fail)
    refine upd_four b (o + j) cr 5552 ⟨b,o + j,none⟩ ((l.drop j).take 5552) PP HPP.out (wr.drewN nq) HCL.out hm2 hle3 HCH2.out (fun _ => rfl) _ ?_
    intro u1 u5 u6 u24 u25 u26 u27 u28 u29 u30 u31 u32 u33 u34 u35 u36 u37 u38 u39 u40 u41 u42 u43 u44 u45 u46 u47 u48 u49 u50 u51 u52 u53 u54 u55 u56 u57 u58 u59 u60 u61 u62 u63 u64 hu
    obtain ⟨j1,ad1,g1,g2,rfl,g4,rfl,rfl⟩:=hu
    go_upto_block 4 with (fail)
    refine upd_rest b (o + j) cr 5552 j1 ad1 ((l.drop j).take 5552) PP HPP.out (wr.drewN nq) HCL.out hm2 hle3 g1 HCH2.out g4 _ ?_
    intro u5 u6 u9 u67 u68 u69 u70 u71 u72 u73 u74 u75 u76 u77 u78 hu5 hu6
    subst hu5 hu6
    have he1:=HEND.out.1
    have he2:=HEND.out.2
    generalize hA0 : (((l.drop j).take 5552).foldl raw PP).1 = A0 at *
    generalize hB0 : (((l.drop j).take 5552).foldl raw PP).2 = B0 at *
    clear hA0 hB0
    generalize hA1 : (adlS (l0 ++ l.take (j + 5552))).1 = A1 at *
    generalize hB1 : (adlS (l0 ++ l.take (j + 5552))).2 = B1 at *
    go_wp2_with fail
    go_roundg (n - (j + 5552))
    case measure => have:=HKK.out;omega
    case rel =>
     have h1:=HR.out;have h2:=HCR.out
     exact ⟨HEX.out.drewN nq,j + 5552,by omega,.inr ⟨by omega,by rw [show n - (j + 5552) = r - 5552 by omega,show cap - (j + 5552) = cr - 5552 by omega,Nat.add_assoc]⟩,by first | rw [he1,← hA1] | rw [← hA1],by first | rw [he2,← hB1] | rw [← hB1],rfl⟩
set_option maxRecDepth 100000 in
set_option maxHeartbeats 4000000 in
theorem update_nil (l0 : List UInt8) (w : World) :
  Calls Tryz.prog 59 #[.int .u32 (adler l0),.slice none 0 0] w fun e w' => e = .returned (.int .u32 (adler l0)) ∧ Ext (fun _ => False) w w':=by
 have h01:=adlS_lt l0
 obtain ⟨D,hD⟩ : ∃ D,adler l0 = D:=⟨_,rfl⟩
 rw [hD]
 have hDe : D = (adlS l0).2 * 65536 + (adlS l0).1:=by rw [← hD];rfl
 obtain ⟨a0,ha0⟩ : ∃ a,(adlS l0).1 = a:=⟨_,rfl⟩
 obtain ⟨b0,hb0⟩ : ∃ a,(adlS l0).2 = a:=⟨_,rfl⟩
 rw [ha0,hb0] at h01 hDe
 have hand : bits BinOp.and IntKind.u32 (D : Int) 65535 = (a0 : Int):=by
  have:=u32_and_nat D 65535 (by omega) (by omega)
  rw [show (65535 : Nat) = 2 ^ 16 - 1 by rfl,Nat.and_two_pow_sub_one_eq_mod,show D % 2 ^ 16 = a0 by omega] at this
  exact this
 have hshr : (D : Int) / 65536 = (b0 : Int):=by omega
 have HO:=Lib.hid (or_sum b0 a0 h01.2 h01.1)
 have HDE:=Lib.hid hDe
 clear hD hDe ha0 hb0
 go_enter Tryz.func59,Tryz.ntmps59
 go_upto_block 0 with (fail)
 refine wp_block ?_
 go_loopg [1,5,6] 0 (fun k s1 s5 s6 wx => w = wx ∧ s1 = .slice none 0 0 ∧ s5 = .int .u32 (a0 : Nat) ∧ s6 = .int .u32 (b0 : Nat) ∧ k = 0)
 case atStart => exact ⟨rfl,rfl,rfl,rfl,rfl⟩
 case round =>
  obtain ⟨rfl,rfl,rfl,rfl,hk⟩:=hrel
  go_wp2_with fail
  go_ret
  exact ⟨by rw [HO.out,HDE.out];rfl,Ext.refl _ _⟩
theorem update_any (l0 l : List UInt8) (v : Value) (w : World) (hn : l.length ≤ 1099511627776) (h : Rd w v (l.map U8)) :
  Calls Tryz.prog 59 #[.int .u32 (adler l0),v] w fun e w' => e = .returned (.int .u32 (adler (l0 ++ l))) ∧ Ext (fun _ => False) w w':=by
 obtain ⟨cap,h1,h2,h3⟩:=h
 rcases h3 with ⟨rfl,h3⟩ | ⟨b,o,rfl,h3⟩
 ·obtain rfl : l = []:=by simpa using h3
  simpa using update_nil l0 w
 ·simp only [List.length_map] at h1 ⊢
  exact update_some l0 l b o cap _ w rfl hn h1 h3
theorem adler_nil_eq : adler [] = 1:=by decide +kernel
set_option maxHeartbeats 1000000 in
theorem checksum_any (l : List UInt8) (v : Value) (w : World) (hn : l.length ≤ 1099511627776) (h : Rd w v (l.map U8)) :
  Calls Tryz.prog 51 #[v] w fun e w' => e = .returned (.int .u32 (adler l)) ∧ Ext (fun _ => False) w w':=by
 have HU:=update_any [] l v w hn h
 rw [adler_nil_eq,List.nil_append] at HU
 have HUU:=Lib.hid HU
 clear h HU
 go_enter Tryz.func51,Tryz.ntmps51
 go_wp2_with fail
 refine HUU.out.mono ?_
 rintro e w1 ⟨rfl,he1⟩
 have HE1:=Lib.hid he1
 clear he1
 go_wp2_with fail
 go_ret
 exact ⟨rfl,HE1.out⟩
set_option maxHeartbeats 1000000 in
theorem digest_reset (b : Nat) (D : Nat) (w : World) (h : Blk w b #[.int .u32 D] 134) : Calls Tryz.prog 63 #[.pointer (some ⟨b,0,none⟩)] w fun e w' => e = .returned (.tuple #[]) ∧ Blk w' b #[.int .u32 1] 134 ∧ Ext (fun k => k = b) w w':=by
 have hc : w.cell? ⟨b,0,none⟩ = some (.int .u32 D):=by rw [h.cell];rfl
 have hf:=h.free
 have HB:=Lib.hid h
 clear h
 go_enter Tryz.func63,Tryz.ntmps63
 go_wp2_with fail
 go_end0
 exact ⟨rfl,by simpa using HB.out.set 0 (.int .u32 1),(Ext.refl _ _).only _⟩
set_option maxHeartbeats 1000000 in
theorem digest_new (w : World) : Calls Tryz.prog 54 #[] w fun e w' => ∃ b,e = .returned (.iface 153 (.pointer (some ⟨b,0,none⟩))) ∧ w.heap.size ≤ b ∧ Blk w' b #[.int .u32 (adler [])] 134 ∧ Ext (fun _ => False) w w':=by
 go_enter Tryz.func54,Tryz.ntmps54
 go_wp2_with fail
 have hb : Blk (w.alloc (.cells #[.int .u32 0] 134)) w.heap.size #[.int .u32 ((0 : Nat) : Int)] 134:=Blk.new w _ _
 refine (digest_reset w.heap.size 0 _ hb).mono ?_
 rintro e w1 ⟨rfl,hb1,he1⟩
 have HB1:=Lib.hid hb1;have HE1:=Lib.hid he1
 clear hb hb1 he1
 go_wp2_with fail
 go_ret
 exact ⟨w.heap.size,rfl,Nat.le_refl _,by rw [adler_nil_eq];exact HB1.out,((Ext.refl (fun _ => False) w).alloc _).trans' HE1.out (fun i hi e => by omega)⟩
set_option maxHeartbeats 1000000 in
theorem sum32_any (b : Nat) (D : Nat) (w : World) (h : Blk w b #[.int .u32 D] 134) : Calls Tryz.prog 133 #[.pointer (some ⟨b,0,none⟩)] w fun e w' => e = .returned (.int .u32 D) ∧ w = w':=by
 have hc : w.cell? ⟨b,0,none⟩ = some (.int .u32 D):=by rw [h.cell];rfl
 clear h
 go_enter Tryz.func133,Tryz.ntmps133
 go_wp2_with fail
 go_ret
 exact ⟨rfl,rfl⟩
set_option maxHeartbeats 2000000 in
theorem digest_write (b : Nat) (l0 l : List UInt8) (v : Value) (w : World) (hn : l.length ≤ 1099511627776) (h : Rd w v (l.map U8)) (hb : Blk w b #[.int .u32 (adler l0)] 134) :
  Calls Tryz.prog 134 #[.pointer (some ⟨b,0,none⟩),v] w fun e w' => e = .returned (.tuple #[.int .i64 l.length,.nilIface]) ∧ Blk w' b #[.int .u32 (adler (l0 ++ l))] 134 ∧ Ext (fun k => k = b) w w':=by
 have HU:=Lib.hid (update_any l0 l v w hn h)
 have hc : w.cell? ⟨b,0,none⟩ = some (.int .u32 (adler l0)):=by rw [hb.cell];rfl
 have HB:=Lib.hid hb
 obtain ⟨a,cap,hv⟩:=h.len
 rw [List.length_map] at hv
 subst hv
 generalize adler l0 = D at *
 generalize adler (l0 ++ l) = D2 at *
 generalize l.length = n at *
 clear h hb
 go_enter Tryz.func134,Tryz.ntmps134
 go_wp2_with fail
 refine HU.out.mono ?_
 rintro e w1 ⟨rfl,he1⟩
 have hc1:=he1.cellSome (fun e => e) hc
 have hb1:=HB.out.ext he1 (fun e => e)
 have hf1:=hb1.free
 have HE1:=Lib.hid he1;have HB1:=Lib.hid hb1
 clear he1 hb1 hc
 go_wp2_with fail
 go_ret2
 exact ⟨rfl,by simpa using HB1.out.set 0 (.int .u32 D2),(HE1.out.mono (fun _ _ e => e.elim)).only _⟩
end Go.Proofs.YthpapbilhjobnaaGreatDoor
