/-
  Parts of the proofs over the reader and the encoder of streams, joined: Rr Rf Re St Rv Hb4. Conditions: each theorem names its own.
-/
import Derived.Test.YthpapbilhjobnaaGreatDoorM02
import Derived.Test.YthpapbilhjobnaaGreatDoorM04
import Derived.Test.YthpapbilhjobnaaGreatDoorM05
import Derived.LoopN
set_option linter.unusedVariables false
set_option linter.unusedSimpArgs false
namespace Go.Proofs.YthpapbilhjobnaaGreatDoor
open Go.RowKit Pu
section
variable {P : Program}
theorem run_copy_at (w : World) (dT sT ty elem : TypeId) (hu : P.underlying dT = some (.slice elem)) (hsz : (P.info? elem).map (·.size) = some 1)
  (g off dLen dCap sLen sCap : Nat) (dp sp : Option Addr) (cur : Array Value) (t : TypeId) (hg : Blk w g cur t) (cs : List UInt8) (hn : cs.length = Nat.min sLen dLen)
  (hpos : 0 < cs.length → dp = some ⟨g,off,none⟩ ∧ ∃ b o,sp = some ⟨b,o,none⟩ ∧ ∀ j x,(cs.map U8)[j]? = some x → w.cell? ⟨b,o + j,none⟩ = some x) (hfit : off + cs.length ≤ cur.size) :
  ∃ w',(Builtin.copy_ #[dT,sT] ty #[.slice dp dLen dCap,.slice sp sLen sCap]).run P w = .ok (.int .i64 cs.length) w' ∧ Blk w' g (splice cur.toList off (cs.map U8)).toArray t ∧ Ext (fun k => k = g) w w':=by
 rcases Nat.eq_zero_or_pos cs.length with h0 | h0
 ·have : cs = []:=List.eq_nil_of_length_eq_zero h0
  subst this
  exact ⟨w,run_copy_none (P:=P) w dT sT ty elem dp sp dLen dCap sLen sCap hu hsz (by simpa using hn.symm),by simpa [splice] using hg,Ext.refl _ _⟩
 ·obtain ⟨rfl,b,o,rfl,hcl⟩:=hpos h0
  have hcells : ∀ j v,(cs.map U8)[j]? = some v → w.cell? ((⟨b,o,none⟩ : Addr).add j) = some v:=by
   intro j u hu
   have:=hcl j u hu
   by_cases hj : j = 0
   ·subst hj;simpa [Addr.add] using this
   ·simpa [Addr.add,hj] using this
  have h1 : ∀ v ∈ cs.map U8,v.oneCell' = true:=by intro u hu;obtain ⟨y,_,rfl⟩:=List.mem_map.1 hu;rfl
  have hr:=run_copy_row (P:=P) w dT sT ty elem g off dLen dCap ⟨b,o,none⟩ sLen sCap cur t (cs.map U8) hu hsz hg (by rw [List.length_map];exact hn) hcells (by simpa using hfit) h1
  rw [List.length_map] at hr
  refine ⟨_,hr,?_,?_⟩
  ·unfold Blk
   rw [setRow_heap w g _ _ t (0,0) hg]
   simp [splice]
  ·exact ⟨rfl,rfl,rfl,by simp,fun k hk hm => setRow_other w g k _ hm⟩
theorem wpList_copy_at {w : World} {ops : Array Oper} {rest : List Oper} {o : Oper} {a : Act} {Q : Exit → Act → World → Prop} (hgd : o.guard = none) (d s : Operand) (dT sT : TypeId)
  (ho : o.op = .call { callee:=.builtin .copy,args:=#[d,s],argTypes:=#[dT,sT] }) (elem : TypeId) (hu : P.underlying dT = some (.slice elem)) (hsz : (P.info? elem).map (·.size) = some 1)
  (dp sp : Option Addr) (dLen dCap sLen sCap : Nat) (hd : a.eval d = .slice dp dLen dCap) (hs' : a.eval s = .slice sp sLen sCap)
  (g off : Nat) (cur : Array Value) (t : TypeId) (hg : Blk w g cur t) (cs : List UInt8) (hn : cs.length = Nat.min sLen dLen)
  (hpos : 0 < cs.length → dp = some ⟨g,off,none⟩ ∧ ∃ b o,sp = some ⟨b,o,none⟩ ∧ ∀ j x,(cs.map U8)[j]? = some x → w.cell? ⟨b,o + j,none⟩ = some x) (hfit : off + cs.length ≤ cur.size)
  (h : ∀ w',Blk w' g (splice cur.toList off (cs.map U8)).toArray t → Ext (fun k => k = g) w w' → wpList P ops Q rest (a.put o.dst (.int .i64 cs.length)) w') : wpList P ops Q (o::rest) a w:=by
 refine wpList_plain hgd fun K hK => ?_
 obtain ⟨w',hr,h1,h2⟩:=run_copy_at (P:=P) w dT sT o.type elem hu hsz g off dLen dCap sLen sCap dp sp cur t hg cs hn hpos hfit
 unfold Oper.wp
 simp [execOp,ho,resolve,invoke,builtin,hd,hs',hr,Result.andThen]
 exact hK _ _ (h w' h1 h2)
end
def ReadPost (R sb so cap : Nat) (src : List UInt8) (p : Nat) (A : Addr) (B bo n : Nat) (cur : Array Value) (t : TypeId) (w : World) (e : Ending) (w' : World) : Prop :=
 (p < src.length ∧ e = .returned (.tuple #[.int .i64 ((src.drop p).take n).length,.nilIface]) ∧ Src w' R sb so cap src (p + ((src.drop p).take n).length) ∧ Blk w' B (splice cur.toList bo (((src.drop p).take n).map U8)).toArray t ∧ Ext (fun k => k = R ∨ k = B) w w') ∨
 (p = src.length ∧ e = .returned (.tuple #[.int .i64 0,.iface 175 (.pointer (some A))]) ∧ Src w' R sb so cap src p ∧ Ext (fun k => k = R) w w')
set_option maxRecDepth 100000 in
set_option maxHeartbeats 4000000 in
theorem read_any (R sb so cap : Nat) (src : List UInt8) (p : Nat) (A : Addr) (B bo n dcap : Nat) (cur : Array Value) (t : TypeId) (w : World) (h : Src w R sb so cap src p) (hE : Sent w 0 A) (h0 : R ≠ 0) (hb : Blk w B cur t) (hBR : B ≠ R) (hBs : B ≠ sb) (hfit : bo + n ≤ cur.size) (hcap : src.length ≤ cap) (hn : n ≤ 1099511627776) :
  Calls Tryz.prog 102 #[.pointer (some ⟨R,0,none⟩),.slice (some ⟨B,bo,none⟩) n dcap] w (ReadPost R sb so cap src p A B bo n cur t w):=by
 have HS:=Lib.hid h
 have hc0 : w.cell? ⟨R,0,none⟩ = some (.slice (some ⟨sb,so,none⟩) src.length cap):=by rw [h.blk.cell];rfl
 have hc1 : w.cell? ⟨R,1,none⟩ = some (.int .i64 p):=by rw [h.blk.cell];rfl
 have hc2 : w.cell? ⟨R,2,none⟩ = some (.int .i64 (-1)):=by rw [h.blk.cell];rfl
 have hf:=h.blk.free
 have hsm:=h.small
 have hle:=h.le
 have hce:=hE.cell
 have h0' : (0 : Nat) ≠ R:=Ne.symm h0
 have HB:=Lib.hid hb
 rcases Nat.lt_or_ge p src.length with hlt | hge
 ·obtain ⟨N,hN⟩ : ∃ N,src.length = N:=⟨_,rfl⟩
  rw [hN] at hc0 hlt hsm hle hcap
  obtain ⟨m,hm⟩ : ∃ m,((src.drop p).take n).length = m:=⟨_,rfl⟩
  have hm' : m = Nat.min (N - p) n:=by rw [← hm,← hN];simp [Nat.min_comm]
  have hmn : m ≤ n:=by rw [hm'];exact Nat.min_le_right _ _
  have hmq : m ≤ N - p:=by rw [hm'];exact Nat.min_le_left _ _
  have hmp : p + m ≤ N:=by omega
  have HN:=Lib.hid hN;have HM:=Lib.hid hm;have HM2:=Lib.hid hm'
  clear h hN hE hm hm' hb hce
  have hb1 : decide ((N : Int) ≤ (p : Int)) = false:=by simp;omega
  have hpc : ¬ p = cap:=by omega
  have hpc2 : ¬ cap = p:=by omega
  have hpc3 : (p : Int) ≤ (cap : Int):=by omega
  have hpN : (p : Int) ≤ (N : Int):=by omega
  go_enter Tryz.func102,Tryz.ntmps102
  go_wp2
  go_quiet (fail)
  go_wp2_with fail
  refine region_tail2 10 (by kernel_rfl) (by kernel_rfl) ?_
  intro w1 hw1
  have he1 : Ext (fun k => k = R) w w1:=by rw [hw1];exact (((Ext.refl _ w).drewN _).only _).drew
  have hR1 : Blk w1 R #[.slice (some ⟨sb,so,none⟩) src.length cap,.int .i64 p,.int .i64 (-1)] 80:=by
   rw [hw1];simpa using ((HS.out.blk.drewN nq).set 2 (.int .i64 (-1))).drew
  have hd0 : w1.cell? ⟨R,0,none⟩ = some (.slice (some ⟨sb,so,none⟩) N cap):=by rw [hR1.cell,← HN.out];rfl
  have hd1 : w1.cell? ⟨R,1,none⟩ = some (.int .i64 p):=by rw [hR1.cell];rfl
  have hS1 : Src w1 R sb so cap src p:=HS.out.next he1 hR1 (by have:=HN.out;omega)
  have HE1:=Lib.hid he1;have HR1:=Lib.hid hR1;have HS1:=Lib.hid hS1
  have HB1:=Lib.hid (HB.out.ext he1 hBR)
  have hsl : ∀ j y,(((src.drop p).take n).map U8)[j]? = some y → w1.cell? ⟨sb,so + p + j,none⟩ = some y:=by
   intro j y hy
   rw [List.map_take,List.map_drop,List.getElem?_take] at hy
   split at hy
   ·rw [List.getElem?_drop] at hy
    rw [Nat.add_assoc];exact hS1.cells _ _ hy
   ·simp at hy
  have HSL:=Lib.hid hsl
  clear hw1 he1 hR1 hS1 hsl hc0 hc1 hc2
  simp only [List.take_succ_cons,List.take_zero,List.drop_succ_cons,List.drop_zero]
  repeat still_step
  refine wpStill_nil ?_
  refine wpList_copy_at rfl (.tmp 20) (.tmp 29) 22 22 rfl 5 rfl Tryz.size5 (some ⟨B,bo,none⟩) (some ⟨sb,so + p,none⟩) n dcap (N - p) (cap - p) rfl rfl B bo cur t HB1.out ((src.drop p).take n) (HM.out.trans HM2.out) (fun _ => ⟨rfl,sb,so + p,rfl,HSL.out⟩) (by rw [HM.out];omega) ?_
  intro w2 hB2 he2
  rw [HM.out]
  have hd2:=he2.cellSome (fun e => hBR e.symm) hd1
  have hf2 : ∀ i,w2.frozen? ⟨R,i,none⟩ = false:=(HR1.out.ext he2 (fun e => hBR e.symm)).free
  have hsum : IntKind.i64.wrap ((p : Int) + (m : Int)) = (p : Int) + (m : Int):=IntWalk.i64_in _ (by omega)
  have HB2:=Lib.hid hB2;have HE2:=Lib.hid he2
  clear hB2 he2 hd0 hd1
  go_wp2_with fail
  go_ret2
  have hR3 : Blk (w2.setCell ⟨R,1,none⟩ (.int .i64 ((p : Int) + (m : Int)))) R #[.slice (some ⟨sb,so,none⟩) src.length cap,.int .i64 ((p + m : Nat) : Int),.int .i64 (-1)] 80:=by
   simpa using (HR1.out.ext HE2.out (fun e => hBR e.symm)).set 1 (.int .i64 ((p : Int) + (m : Int)))
  have hE : Ext (fun k => k = R ∨ k = B) w (w2.setCell ⟨R,1,none⟩ (.int .i64 ((p : Int) + (m : Int)))) :=
   ((HE1.out.mono (fun _ _ e => .inl e)).trans (HE2.out.mono (fun _ _ e => .inr e))).setCell (fun _ => .inl rfl) _
  refine .inl ⟨by have:=HN.out;omega,by rw [HM.out];rfl,?_,HB2.out.setOther _ _ (by simpa using hBR),hE⟩
  rw [HM.out]
  exact ⟨hR3,fun j y hy => hE.cellSome (by rintro (e | e);exact HS.out.ne e;exact hBs e.symm) (HS.out.cells j y hy),by have:=HN.out;omega,HS.out.small,HS.out.ne⟩
 ·have hpe : p = src.length:=by omega
  subst hpe
  obtain ⟨N,hN⟩ : ∃ N,src.length = N:=⟨_,rfl⟩
  rw [hN] at hc0 hc1 hsm
  have HN:=Lib.hid hN
  clear h hN hE
  go_enter Tryz.func102,Tryz.ntmps102
  go_wp2
  go_quiet (fail)
  obtain ⟨na,rfl⟩ : ∃ n : Nat,n = nq:=⟨_,rfl⟩
  go_wp2
  go_quiet (fail)
  go_wp2
  go_ret2
  have hE : Ext (fun k => k = R) w ((w.drewN na).drewN nq):=((Ext.refl _ w).drewN _).drewN _
  exact .inr ⟨rfl,rfl,HS.out.next hE (by simpa using (HS.out.blk.drewN na).drewN nq) (Nat.le_refl _),hE⟩
end Go.Proofs.YthpapbilhjobnaaGreatDoor
namespace Go.Proofs.YthpapbilhjobnaaGreatDoor
open Go.RowKit Pu
theorem nilAhead_read (a : Addr) (w : World) : (nilAhead 319 50 (.pointer (some a)) "Read").run Tryz.prog w = .ok (some false) w := by kernel_rfl
theorem method_read (a : Addr) (w : World) : (method 319 50 (.pointer (some a)) "Read").run Tryz.prog w = .ok (102, .pointer (some a)) w := by kernel_rfl
set_option maxRecDepth 100000 in
set_option maxHeartbeats 4000000 in
theorem readAtLeast_all (R sb so cap : Nat) (src : List UInt8) (p : Nat) (A : Addr) (B bo n dcap : Nat) (cur : Array Value) (t : TypeId) (w : World) (h : Src w R sb so cap src p) (hE : Sent w 0 A) (h0 : R ≠ 0) (hb : Blk w B cur t) (hBR : B ≠ R) (hBs : B ≠ sb) (hfit : bo + n ≤ cur.size) (hcap : src.length ≤ cap) (hn : n ≤ 1099511627776) (hdc : n ≤ dcap) (hall : p + n ≤ src.length) :
  Calls Tryz.prog 58 #[.iface 50 (.pointer (some ⟨R,0,none⟩)),.slice (some ⟨B,bo,none⟩) n dcap,.int .i64 n] w fun e w' => e = .returned (.tuple #[.int .i64 n,.nilIface]) ∧ Src w' R sb so cap src (p + n) ∧ Blk w' B (splice cur.toList bo (((src.drop p).take n).map U8)).toArray t ∧ Ext (fun k => k = R ∨ k = B) w w':=by
 have HS:=Lib.hid h;have HB:=Lib.hid hb
 have hdr : Ext (fun _ => False) w w.drew:=(Ext.refl _ w).drew
 have HX:=Lib.hid (read_any R sb so cap src p A B bo n dcap cur t w.drew (h.ext hdr (fun e => e) (fun e => e)) (hE.ext hdr (fun e => e) (fun e => e)) h0 hb.drew hBR hBs hfit hcap hn)
 clear hdr
 clear h hb hE
 rcases Nat.eq_zero_or_pos n with hz | hz
 ·subst hz
  clear HX
  go_enter Tryz.func58,Tryz.ntmps58
  go_upto_block 0 with (fail)
  refine wp_block ?_
  refine wp_loop_rounds 1 ?_
  rw [rounds_succ]
  go_wp2_with fail
  go_ret2
  exact ⟨rfl,HS.out,by simpa [splice] using HB.out,Ext.refl _ _⟩
 ·have hm:=method_read
  have hq1 : ¬ ((n : Int) < (n : Int)):=by omega
  go_enter Tryz.func58,Tryz.ntmps58
  go_upto_block 0 with (fail)
  refine wp_block ?_
  refine wp_loop_rounds 2 ?_
  rw [rounds_succ]
  have hz1 : (0 : Int) < (n : Int):=by omega
  have hz2 : ¬ n = 0:=by omega
  have hz3 : ¬ dcap = 0:=by omega
  have HY : Hid (Calls Tryz.prog 102 #[.pointer (some ⟨R,0,none⟩),.slice (some ⟨B,bo,none⟩) n dcap] w.drew fun e w' => e = .returned (.tuple #[.int .i64 n,.nilIface]) ∧ Src w' R sb so cap src (p + n) ∧ Blk w' B (splice cur.toList bo (((src.drop p).take n).map U8)).toArray t ∧ Ext (fun k => k = R ∨ k = B) w w'):=by
   refine Lib.hid (HX.out.mono ?_)
   have hl : ((src.drop p).take n).length = n:=by simp;omega
   rintro e w' (⟨h1,h2,h3,h4,h5⟩ | ⟨h1,h2⟩)
   ·rw [hl] at h2 h3
    exact ⟨h2,h3,h4,((Ext.refl _ w).drew).trans h5⟩
   ·omega
  clear HX
  have hmf : ∀ (fn : Fn) (first cap : Array Value) (w : World),(Instr.makeFunc fn first cap).run Tryz.prog w = .ok (.func fn first cap) w:=fun _ _ _ _ => rfl
  have hna:=nilAhead_read
  go_upto_region 5 with (fail)
  go_region_with (go_at_call 102;refine HY.out.mono ?_;rintro e w1 ⟨rfl,hs1,hb1,he1⟩;have HS1:=Lib.hid hs1;have HB1:=Lib.hid hb1;have HE1:=Lib.hid he1;clear hs1 hb1 he1)
  all_goals
   go_wp2_with fail
   rw [rounds_succ]
   go_wp2_with fail
   go_ret2
   exact ⟨rfl,HS1.out,HB1.out,HE1.out⟩
set_option maxRecDepth 100000 in
set_option maxHeartbeats 4000000 in
theorem readFull_all (R sb so cap : Nat) (src : List UInt8) (p : Nat) (A : Addr) (B bo n dcap : Nat) (cur : Array Value) (t : TypeId) (w : World) (h : Src w R sb so cap src p) (hE : Sent w 0 A) (h0 : R ≠ 0) (hb : Blk w B cur t) (hBR : B ≠ R) (hBs : B ≠ sb) (hfit : bo + n ≤ cur.size) (hcap : src.length ≤ cap) (hn : n ≤ 1099511627776) (hdc : n ≤ dcap) (hall : p + n ≤ src.length) :
  Calls Tryz.prog 48 #[.iface 50 (.pointer (some ⟨R,0,none⟩)),.slice (some ⟨B,bo,none⟩) n dcap] w fun e w' => e = .returned (.tuple #[.int .i64 n,.nilIface]) ∧ Src w' R sb so cap src (p + n) ∧ Blk w' B (splice cur.toList bo (((src.drop p).take n).map U8)).toArray t ∧ Ext (fun k => k = R ∨ k = B) w w':=by
 have HX:=Lib.hid (readAtLeast_all R sb so cap src p A B bo n dcap cur t w h hE h0 hb hBR hBs hfit hcap hn hdc hall)
 clear h hb hE hall
 go_enter Tryz.func48,Tryz.ntmps48
 go_wp2_with fail
 refine HX.out.mono ?_
 rintro e w1 ⟨rfl,h1,h2,h3⟩
 have H1:=Lib.hid h1;have H2:=Lib.hid h2;have H3:=Lib.hid h3
 clear h1 h2 h3
 go_wp2_with fail
 go_ret2
 exact ⟨rfl,H1.out,H2.out,H3.out⟩
end Go.Proofs.YthpapbilhjobnaaGreatDoor
namespace Go.Proofs.YthpapbilhjobnaaGreatDoor
open Go.RowKit Pu
set_option maxRecDepth 100000 in
set_option maxHeartbeats 4000000 in
theorem readAtLeast_end (R sb so cap : Nat) (src : List UInt8) (A : Addr) (B bo n dcap : Nat) (cur : Array Value) (t : TypeId) (w : World) (h : Src w R sb so cap src src.length) (hE : Sent w 0 A) (h0 : R ≠ 0) (h0A : R ≠ A.block) (hb : Blk w B cur t) (hBR : B ≠ R) (hBs : B ≠ sb) (hfit : bo + n ≤ cur.size) (hcap : src.length ≤ cap) (hn : n ≤ 1099511627776) (hdc : n ≤ dcap) (hz : 0 < n) :
  Calls Tryz.prog 58 #[.iface 50 (.pointer (some ⟨R,0,none⟩)),.slice (some ⟨B,bo,none⟩) n dcap,.int .i64 n] w fun e w' => e = .returned (.tuple #[.int .i64 0,.iface 175 (.pointer (some A))]) ∧ Src w' R sb so cap src src.length ∧ Ext (fun k => k = R) w w':=by
 have HS:=Lib.hid h;have HB:=Lib.hid hb
 have hdr : Ext (fun _ => False) w w.drew:=(Ext.refl _ w).drew
 have HX:=Lib.hid (read_any R sb so cap src src.length A B bo n dcap cur t w.drew (h.ext hdr (fun e => e) (fun e => e)) (hE.ext hdr (fun e => e) (fun e => e)) h0 hb.drew hBR hBs hfit hcap hn)
 have HE:=Lib.hid hE
 clear hdr h hb hE
 have hm:=method_read
 have hq1 : ¬ ((n : Int) < (n : Int)):=by omega
 have HY : Hid (Calls Tryz.prog 102 #[.pointer (some ⟨R,0,none⟩),.slice (some ⟨B,bo,none⟩) n dcap] w.drew fun e w' => e = .returned (.tuple #[.int .i64 0,.iface 175 (.pointer (some A))]) ∧ Src w' R sb so cap src src.length ∧ Ext (fun k => k = R) w w'):=by
  refine Lib.hid (HX.out.mono ?_)
  rintro e w' (⟨h1,h2⟩ | ⟨h1,h2,h3,h4⟩)
  ·omega
  ·exact ⟨h2,h3,((Ext.refl _ w).drew).trans h4⟩
 clear HX
 have hz1 : (0 : Int) < (n : Int):=by omega
 have hz2 : ¬ n = 0:=by omega
 have hz3 : ¬ dcap = 0:=by omega
 have hz4 : ¬ ((n : Int) ≤ 0):=by omega
 go_enter Tryz.func58,Tryz.ntmps58
 go_upto_block 0 with (fail)
 refine wp_block ?_
 refine wp_loop_rounds 2 ?_
 rw [rounds_succ]
 have hmf : ∀ (fn : Fn) (first cap : Array Value) (w : World),(Instr.makeFunc fn first cap).run Tryz.prog w = .ok (.func fn first cap) w:=fun _ _ _ _ => rfl
 have hna:=nilAhead_read
 go_upto_region 5 with (fail)
 go_region_with (go_at_call 102;refine HY.out.mono ?_;rintro e w1 ⟨rfl,hs1,he1⟩;have HS1:=Lib.hid hs1;have HE1:=Lib.hid he1;clear hs1 he1)
 all_goals
  go_wp2_with fail
  rw [rounds_succ]
  go_wp2_with fail
  go_ret2
  exact ⟨rfl,HS1.out,HE1.out⟩
set_option maxRecDepth 100000 in
set_option maxHeartbeats 8000000 in
theorem readAtLeast_some (R sb so cap : Nat) (src : List UInt8) (p k : Nat) (A U : Addr) (B bo n dcap : Nat) (cur : Array Value) (t : TypeId) (w : World) (h : Src w R sb so cap src p) (hE : Ends w A U) (hER : ¬ EM A U R) (hEB : ¬ EM A U B) (h0 : R ≠ 0) (hb : Blk w B cur t) (hBR : B ≠ R) (hBs : B ≠ sb) (hfit : bo + n ≤ cur.size) (hcap : src.length ≤ cap) (hn : n ≤ 1099511627776) (hdc : n ≤ dcap) (hk : p + k = src.length) (hk1 : 0 < k) (hk2 : k < n) :
  Calls Tryz.prog 58 #[.iface 50 (.pointer (some ⟨R,0,none⟩)),.slice (some ⟨B,bo,none⟩) n dcap,.int .i64 n] w fun e w' => e = .returned (.tuple #[.int .i64 k,.iface 175 (.pointer (some U))]) ∧ Src w' R sb so cap src src.length ∧ Blk w' B (splice cur.toList bo ((src.drop p).map U8)).toArray t ∧ Ext (fun k => k = R ∨ k = B) w w':=by
 have hdr : Ext (fun _ => False) w w.drew:=(Ext.refl _ w).drew
 have HX:=Lib.hid (read_any R sb so cap src p A B bo n dcap cur t w.drew (h.ext hdr (fun e => e) (fun e => e)) (hE.eof.ext hdr (fun e => e) (fun e => e)) h0 hb.drew hBR hBs hfit hcap hn)
 have HE:=Lib.hid hE
 clear hdr h hb hE
 have hm:=method_read
 have hl : ((src.drop p).take n).length = k:=by simp;omega
 have hl2 : (src.drop p).take n = src.drop p:=List.take_of_length_le (by simp;omega)
 have HY : Hid (Calls Tryz.prog 102 #[.pointer (some ⟨R,0,none⟩),.slice (some ⟨B,bo,none⟩) n dcap] w.drew fun e w' => e = .returned (.tuple #[.int .i64 k,.nilIface]) ∧ Src w' R sb so cap src src.length ∧ Blk w' B (splice cur.toList bo ((src.drop p).map U8)).toArray t ∧ Ext (fun k => k = R ∨ k = B) w w'):=by
  refine Lib.hid (HX.out.mono ?_)
  rintro e w' (⟨h1,h2,h3,h4,h5⟩ | ⟨h1,h2⟩)
  ·rw [hl] at h2 h3
   rw [hl2] at h4
   rw [hk] at h3
   exact ⟨h2,h3,h4,((Ext.refl _ w).drew).trans h5⟩
  ·omega
 clear HX hl hl2
 have hz1 : (0 : Int) < (n : Int):=by omega
 have hz2 : ¬ n = 0:=by omega
 have hz3 : ¬ dcap = 0:=by omega
 have hz4 : (k : Int) < (n : Int):=by omega
 have hz5 : ¬ dcap = k:=by omega
 have hz6 : (k : Int) ≤ (n : Int):=by omega
 have hz7 : (0 : Int) < (k : Int):=by omega
 have hz8 : ¬ ((n : Int) ≤ (k : Int)):=by omega
 go_enter Tryz.func58,Tryz.ntmps58
 go_upto_block 0 with (fail)
 refine wp_block ?_
 refine wp_loop_rounds 3 ?_
 rw [rounds_succ]
 have hmf : ∀ (fn : Fn) (first cap : Array Value) (w : World),(Instr.makeFunc fn first cap).run Tryz.prog w = .ok (.func fn first cap) w:=fun _ _ _ _ => rfl
 have hna:=nilAhead_read
 go_upto_region 5 with (fail)
 go_region_with (go_at_call 102;refine HY.out.mono ?_;rintro e w1 ⟨rfl,hs1,hb1,he1⟩;have HS1:=Lib.hid hs1;have HB1:=Lib.hid hb1;have HE1:=Lib.hid he1;clear hs1 hb1 he1)
 all_goals
  go_wp2_with fail
  rw [rounds_succ]
  go_upto_region 5 with (fail)
  have HZ : Hid (Calls Tryz.prog 102 #[.pointer (some ⟨R,0,none⟩),.slice (some ⟨B,bo + k,none⟩) ((n - k : Nat) : Nat) (dcap - k)] w1.drew fun e w' => e = .returned (.tuple #[.int .i64 0,.iface 175 (.pointer (some A))]) ∧ Src w' R sb so cap src src.length ∧ Ext (fun k => k = R) w1 w'):=by
   refine Lib.hid ((read_any R sb so cap src src.length A B (bo + k) (n - k) (dcap - k) (splice cur.toList bo ((src.drop p).map U8)).toArray t w1.drew (HS1.out.ext ((Ext.refl (fun _ => False) w1).drew) (fun e => e) (fun e => e)) ((HE.out.eof.ext HE1.out (fun e => ?_) (fun e => ?_)).ext ((Ext.refl (fun _ => False) w1).drew) (fun e => e) (fun e => e)) h0 HB1.out.drew hBR hBs ?_ hcap (by omega)).mono ?_)
   ·rcases e with e | e
    ·exact hER (e ▸ .inl rfl)
    ·exact hEB (e ▸ .inl rfl)
   ·rcases e with e | e
    ·exact hER (e ▸ (by unfold EM;simp))
    ·exact hEB (e ▸ (by unfold EM;simp))
   ·simp [splice];omega
   ·rintro e w' (⟨h1,h2⟩ | ⟨h1,h2,h3,h4⟩)
    ·omega
    ·exact ⟨h2,h3,((Ext.refl _ w1).drew).trans h4⟩
  go_region_with (go_at_call 102;refine HZ.out.mono ?_;rintro e w2 ⟨rfl,hs2,he2⟩;have HS2:=Lib.hid hs2;have HE2:=Lib.hid he2;clear hs2 he2)
  all_goals
   have hE2 : Ends w2 A U:=(HE.out.ext HE1.out (fun j hj e => by rcases e with e | e;exact hER (e ▸ hj);exact hEB (e ▸ hj))).ext HE2.out (fun j hj e => hER (e ▸ hj))
   have hg0:=hE2.eof.cell
   have hg4:=hE2.early.cell
   clear hE2
   obtain ⟨ii,hii,hcmp⟩:=Option.map_eq_some_iff.1 Tryz.comp175
   obtain ⟨jj,hjj,_⟩:=Option.map_eq_some_iff.1 Tryz.size204
   have heq:=fun w : World => run_eql_iface_ptr_same (P:=Tryz.prog) w A Tryz.underlying47 Tryz.underlying175 hii hcmp hjj
   go_wp2_with fail
   rw [rounds_succ]
   go_wp2_with fail
   go_ret2
   exact ⟨rfl,HS2.out,HB1.out.ext HE2.out hBR,HE1.out.trans (HE2.out.mono (fun _ _ e => .inl e))⟩
def ShortPost (R sb so cap : Nat) (src : List UInt8) (p : Nat) (A U : Addr) (B bo : Nat) (cur : Array Value) (t : TypeId) (w : World) (e : Ending) (w' : World) : Prop :=
 (e = .returned (.tuple #[.int .i64 ((src.length - p : Nat) : Int),.iface 175 (.pointer (some A))]) ∧ p = src.length ∨ e = .returned (.tuple #[.int .i64 ((src.length - p : Nat) : Int),.iface 175 (.pointer (some U))]) ∧ p < src.length) ∧
  Src w' R sb so cap src src.length ∧ Blk w' B (splice cur.toList bo ((src.drop p).map U8)).toArray t ∧ Ext (fun k => k = R ∨ k = B) w w'
set_option maxRecDepth 100000 in
set_option maxHeartbeats 8000000 in
theorem readFull_short (R sb so cap : Nat) (src : List UInt8) (p : Nat) (A U : Addr) (B bo n dcap : Nat) (cur : Array Value) (t : TypeId) (w : World) (h : Src w R sb so cap src p) (hE : Ends w A U) (hER : ¬ EM A U R) (hEB : ¬ EM A U B) (hb : Blk w B cur t) (hBR : B ≠ R) (hBs : B ≠ sb) (hfit : bo + n ≤ cur.size) (hcap : src.length ≤ cap) (hn : n ≤ 1099511627776) (hdc : n ≤ dcap) (hsh : src.length < p + n) :
  Calls Tryz.prog 48 #[.iface 50 (.pointer (some ⟨R,0,none⟩)),.slice (some ⟨B,bo,none⟩) n dcap] w (ShortPost R sb so cap src p A U B bo cur t w):=by
 have h0 : R ≠ 0:=fun e => hER (.inl e)
 have h0A : R ≠ A.block:=fun e => hER (.inr (.inr (.inl e)))
 have hle:=h.le
 have HX : Hid (Calls Tryz.prog 58 #[.iface 50 (.pointer (some ⟨R,0,none⟩)),.slice (some ⟨B,bo,none⟩) n dcap,.int .i64 n] w (fun e w' => ∃ v,e = .returned (.tuple #[.int .i64 ((src.length - p : Nat) : Int),v]) ∧ ShortPost R sb so cap src p A U B bo cur t w e w')):=by
  refine Lib.hid ?_
  rcases Nat.lt_or_ge p src.length with hp | hp
  ·refine (readAtLeast_some R sb so cap src p (src.length - p) A U B bo n dcap cur t w h hE hER hEB h0 hb hBR hBs hfit hcap hn hdc (by omega) (by omega) (by omega)).mono ?_
   rintro e w' ⟨rfl,h1,h2,h3⟩
   exact ⟨_,rfl,.inr ⟨rfl,hp⟩,h1,h2,h3⟩
  ·have hpe : p = src.length:=by omega
   subst hpe
   refine (readAtLeast_end R sb so cap src A B bo n dcap cur t w h hE.eof h0 h0A hb hBR hBs hfit hcap hn hdc (by omega)).mono ?_
   rintro e w' ⟨rfl,h1,h2⟩
   exact ⟨.iface 175 (.pointer (some A)),by rw [Nat.sub_self];rfl,.inl ⟨by rw [Nat.sub_self];rfl,rfl⟩,h1,by simpa [splice] using hb.ext h2 hBR,h2.mono (fun _ _ e => .inl e)⟩
 clear h hb hE
 go_enter Tryz.func48,Tryz.ntmps48
 go_wp2_with fail
 refine HX.out.mono ?_
 rintro e w1 ⟨v,rfl,h1⟩
 have H1:=Lib.hid h1
 clear h1
 go_wp2_with fail
 go_ret2
 exact H1.out
end Go.Proofs.YthpapbilhjobnaaGreatDoor
namespace Go.Proofs.YthpapbilhjobnaaGreatDoor
open Go.RowKit Pu
theorem Pu.cut_two (all : List UInt8) (i m n : Nat) (hm : m ≤ n) (hin : i + n ≤ all.length) : (all.take (i + n)).drop i = (all.take (i + m)).drop i ++ (all.take (i + n)).drop (i + m):=by
 refine List.ext_getElem? fun k => ?_
 rcases Nat.lt_or_ge k m with h | h
 ·rw [List.getElem?_append_left (by simp;omega),List.getElem?_drop,List.getElem?_drop,List.getElem?_take,List.getElem?_take,if_pos (by omega),if_pos (by omega)]
 ·rw [List.getElem?_append_right (by simp;omega),List.getElem?_drop,List.getElem?_drop]
  congr 1
  simp;omega
theorem Pu.raw_split {all src ext : List UInt8} {Y : List Bool} {p i n : Nat} (h : bitsOf (src.drop p ++ ext) = bitsOf ((all.take (i + n)).drop i) ++ Y) (m : Nat) (hm : m ≤ n) (hin : i + n ≤ all.length) (hp : p + m ≤ src.length) :
  (src.drop p).take m = (all.take (i + m)).drop i ∧ bitsOf (src.drop (p + m) ++ ext) = bitsOf ((all.take (i + n)).drop (i + m)) ++ Y:=by
 rw [Pu.cut_two all i m n hm hin,bitsOf_append (List.drop i (List.take (i + m) all)),List.append_assoc] at h
 obtain ⟨L',h1,h2⟩:=bitsOf_split h
 have hl : ((all.take (i + m)).drop i).length = m:=by simp;omega
 have e1:=congrArg (List.take m) h1
 have e2:=congrArg (List.drop m) h1
 rw [List.take_append_of_le_length (by simp;omega),List.take_left' hl] at e1
 rw [List.drop_append_of_le_length (by simp;omega),List.drop_left' hl,List.drop_drop] at e2
 exact ⟨e1,by rw [e2];exact h2⟩
theorem Pu.raw_short {all src ext : List UInt8} {Y : List Bool} {p i n : Nat} (h : bitsOf (src.drop p ++ ext) = bitsOf ((all.take (i + n)).drop i) ++ Y) (m : Nat) (hm : m ≤ n) (hin : i + n ≤ all.length) (hp : src.length < p + m) (hple : p ≤ src.length) : ext ≠ []:=by
 intro e
 have:=congrArg List.length h
 rw [e] at this
 have hk : ((all.take (i + n)).drop i).length = n:=by simp;omega
 simp only [List.append_nil,length_bitsOf,List.length_append,hk,List.length_drop] at this
 omega
def DBM : Nat → Prop:=fun k => HBM k ∨ k = 1041 ∨ k = 1042 ∨ k = 1043 ∨ k = 1044
def JR (c : Array Value) (wr : Nat) (full : Bool) : Prop :=
 c[1046]? = some (.int .i64 0) ∨ (c[1046]? = some (.int .i64 1) ∧ ∃ far : Nat,c[1053]? = some (.int .i64 far) ∧ 1 ≤ far ∧ far ≤ hsize wr full)
theorem JS.raw {c : Array Value} {wr : Nat} {full : Bool} (h : JS c wr full) : JR c wr full:=by
 rcases h with h | ⟨a,_,b⟩
 ·exact .inl h
 ·exact .inr ⟨a,b⟩
theorem JR.js {c : Array Value} {wr : Nat} {full : Bool} (h : JR c wr full) (h0 : c[1052]? = some (.int .i64 0)) : JS c wr full:=by
 rcases h with h | ⟨a,b⟩
 ·exact .inl h
 ·exact .inr ⟨a,h0,b⟩
theorem JR.same {c c' : Array Value} {wr wr' : Nat} {full full' : Bool} (h : JR c wr full) (h1 : c'[1046]? = c[1046]?) (h3 : c'[1053]? = c[1053]?) (hz : hsize wr full ≤ hsize wr' full') : JR c' wr' full':=by
 rcases h with h | ⟨a,far,e,f,g⟩
 ·exact .inl (by rw [h1];exact h)
 ·exact .inr ⟨by rw [h1];exact a,far,by rw [h3];exact e,f,Nat.le_trans g hz⟩
structure D0 (x : Pl) (k : Blkc) (w0 : World) (c0 : Array Value) (w : World) (c : Array Value) (q : Nat) (H hs : List UInt8) (wr rd : Nat) (full : Bool) (T : List UInt8) (p i n : Nat) : Prop where
 dec : Dec x w c q H hs wr rd full T (bitsOf ((k.all.take (i + n)).drop i) ++ k.Y) [] p
 fin : c[1047]? = some (.bool k.fin)
 err : c[1048]? = some .nilIface
 rest : RestOf k.all k.fin k.pos k.j k.Z k.Y
 here : i + n = k.j
 hist : HistOk k.ok k.all i H
 base : H.length + k.e = i + k.d
 cl : c[1052]? = some (.int .i64 n)
 n2 : n ≤ 65535
 same : Same DBM c0 c
 ext : Ext x.M3 w0 w
 jr : JR c wr full
inductive CDEnd (x : Pl) (k : Blkc) (w0 : World) (c0 : Array Value) (q : Nat) (w : World) : Prop
 | more {c : Array Value} {H hs T : List UInt8} {wr rd : Nat} {fu : Bool} {p i n : Nat} (h : D0 x k w0 c0 w c q H hs wr rd fu T p i n) (ht : T ≠ []) (hs : c[1045]? = some (fnV 74)) : CDEnd x k w0 c0 q w
 | done {c : Array Value} {H hs T : List UInt8} {wr rd : Nat} {fu : Bool} {p : Nat} (hd : Dec x w c q H hs wr rd fu T k.Y [] p) (hh : HistOk k.ok k.all k.j H) (hb : H.length + k.e = k.j + k.d) (hr : RestOf k.all k.fin k.pos k.j k.Z k.Y) (hs : c[1045]? = some (fnV 61))
   (he : (k.fin = false ∧ c[1048]? = some .nilIface) ∨ (k.fin = true ∧ wr = rd ∧ c[1048]? = some (.iface 175 (.pointer (some x.A))))) (hsm : Same DBM c0 c) (hx : Ext x.M3 w0 w) (hj : JS c wr fu) : CDEnd x k w0 c0 q w
 | bad {c : Array Value} {H hs : List UInt8} {wr rd : Nat} {fu : Bool} {p : Nat} (h : Bad x k.ok w c q H hs wr rd fu p) (hb : H.length + k.e ≤ k.all.length + k.d) (hsm : Same DBM c0 c) (hx : Ext x.M3 w0 w) : CDEnd x k w0 c0 q w
theorem DD.filled {w w' : World} {F R hb : Nat} {c : Array Value} {hs : List UInt8} {wr rd : Nat} {full : Bool} (h : DD w F hb c hs wr rd full) (l : List UInt8) (he : Ext (fun k => k = R ∨ k = hb) w w') (hFR : F ≠ R) (hb' : Blk w' hb (splice (hs.map U8).toArray.toList wr (l.map U8)).toArray 5) (hl : wr + l.length ≤ 32768) :
  DD w' F hb c (Pu.lay hs wr l) wr rd full:=by
 have e : (splice (hs.map U8).toArray.toList wr (l.map U8)).toArray = ((Pu.lay hs wr l).map U8).toArray:=by
  rw [← lay_eq hs l wr (by rw [h.size];omega)]
  simp [splice]
 rw [e] at hb'
 exact ⟨h.blk.ext he (fun e => by rcases e with e | e;exact hFR e;exact h.ne e.symm),h.hist,h.wrc,h.rdc,h.fullc,hb',h.ne,by rw [length_lay];exact h.size,h.wrle,h.rdle⟩
end Go.Proofs.YthpapbilhjobnaaGreatDoor
namespace Go.Proofs.YthpapbilhjobnaaGreatDoor
open Go.RowKit Pu
def rt : List UInt8:=(List.range 256).map (fun n => UInt8.ofNat (val (msb n 8)))
theorem rt_get (T : ByteArray) (x : Nat) (h : x < T.size) (hT : T = ⟨rt.toArray⟩) (hx : x < 256) : T[x].toNat = val (msb x 8):=by
 subst hT
 show (rt.toArray[x]'h).toNat = _
 have hv : val (msb x 8) < 256:=by have:=val_lt (msb x 8);simpa using this
 simp [rt,UInt8.toNat_ofNat]
 omega
set_option maxRecDepth 100000 in
set_option maxHeartbeats 4000000 in
theorem reverse8_any (x : Nat) (hx : x < 256) (w : World) :
  Calls Tryz.prog 79 #[.int .u8 x] w (fun e w' => e = .returned (.int .u8 (val (msb x 8) : Nat)) ∧ Ext (fun _ => False) w w'):=by
 have h0 : (0 : Int) ≤ (x : Int):=by omega
 have h1 : (x : Int) < 256:=by omega
 go_enter Tryz.func79,Tryz.ntmps79
 go_wp2_with fail
 go_ret
 refine ⟨?_,Ext.refl _ _⟩
 refine congrArg (fun (n : Nat) => Ending.returned (Value.int IntKind.u8 (n : Int))) (rt_get _ x _ ?_ hx)
 decide
theorem rev_join (x a b P Q : Nat) (ha : x / 256 = a) (hb : x % 256 = b) (hP : P = val (msb a 8)) (hQ : Q = val (msb b 8)) :
  bits BinOp.or IntKind.u16 (IntKind.u16.wrap (P : Int)) (IntKind.u16.wrap (IntKind.u16.wrap (Q : Int) * 256)) = ((val (msb x 16) : Nat) : Int):=by
 have hP8 : P < 256:=by have:=val_lt (msb a 8);rw [hP];simpa using this
 have hQ8 : Q < 256:=by have:=val_lt (msb b 8);rw [hQ];simpa using this
 have e1 : IntKind.u16.wrap (P : Int) = (P : Int):=by simp [IntKind.wrap,IntKind.signed,IntKind.bits];omega
 have e2 : IntKind.u16.wrap (Q : Int) = (Q : Int):=by simp [IntKind.wrap,IntKind.signed,IntKind.bits];omega
 have e3 : IntKind.u16.wrap ((Q : Int) * 256) = ((Q * 256 : Nat) : Int):=by simp [IntKind.wrap,IntKind.signed,IntKind.bits];omega
 have hj : Q * 256 ||| P = Q * 256 + P:=nat_join 8 (Q * 256) P (by omega) (by omega)
 have hm : msb b 8 = msb x 8:=by rw [← hb];exact msb_mod x 8
 rw [e2,e3,e1,u16_or_nat _ _ (by omega) (by omega),Nat.or_comm,hj,rev_bytes,ha,← hm,← hP,← hQ,Nat.mul_comm,Nat.add_comm]
set_option maxRecDepth 100000 in
set_option maxHeartbeats 4000000 in
theorem reverse16_any (x : Nat) (hx : x < 65536) (w : World) :
  Calls Tryz.prog 86 #[.int .u16 x] w (fun e w' => e = .returned (.int .u16 (val (msb x 16) : Nat)) ∧ Ext (fun _ => False) w w'):=by
 obtain ⟨a,ha⟩ : ∃ y,x / 256 = y:=⟨_,rfl⟩
 obtain ⟨b,hb⟩ : ∃ y,x % 256 = y:=⟨_,rfl⟩
 have h0 : (0 : Int) ≤ (a : Int):=by omega
 have h1 : (a : Int) < 256:=by omega
 have h2 : (0 : Int) ≤ (b : Int):=by omega
 have h3 : (b : Int) < 256:=by omega
 have hand : bits BinOp.and IntKind.u16 (x : Int) 255 = (b : Int):=by
  have:=u16_and_nat x 255 hx (by omega)
  rw [Nat.and_two_pow_sub_one_eq_mod x 8] at this
  rw [← hb];exact this
 have hs1 : (x : Int) / 256 = (a : Int):=by omega
 have hs2 : (x : Int) / 2 ^ 8 = (a : Int):=by omega
 have hi1 : (0 : Int) ≤ (x : Int) / 256:=by omega
 have hi2 : (x : Int) / 256 < 256:=by omega
 have hi3 : ((x : Int) / 256).toNat < 256:=by omega
 have ha3 : a < 256:=by omega
 have hb3 : b < 256:=by omega
 go_enter Tryz.func86,Tryz.ntmps86
 go_wp2_with fail
 go_region
 go_wp2_with fail
 go_ret
 refine ⟨?_,(Ext.refl _ w).drew⟩
 refine congrArg (fun (n : Int) => Ending.returned (Value.int IntKind.u16 n)) (rev_join x a b _ _ ha hb (rt_get _ a _ ?_ ha3) (rt_get _ b _ ?_ hb3))
 all_goals decide
end Go.Proofs.YthpapbilhjobnaaGreatDoor
namespace Go.Proofs.YthpapbilhjobnaaGreatDoor
open Go.RowKit Pu
variable {c0 c1 c2 c3 c4 c5 c6 c7 c8 c9 c10 c11 c12 c13 c14 c15 c16 c17 c18 c19 c20 c21 c22 c23 c24 c25 c26 c27 c28 c29 c30 c31 c32 c33 c34 c35 c36 c37 c38 c39 c40 c41 c42 c43 c44 c45 c46 c47 c48 c49 c50 c51 c52 c53 c54 c55 c56 c57 c58 c59 c60 c61 c62 c63 c64 c65 c66 c67 c68 c69 c70 c71 c72 c73 c74 c75 c76 c77 c78 c79 c80 c81 c82 c83 c84 c85 c86 c87 c88 c89 c90 c91 c92 c93 c94 c95 c96 c97 c98 c99 c100 c101 c102 c103 c104 c105 c106 c107 c108 c109 c110 c111 c112 c113 c114 c115 c116 c117 c118 c119 c120 c121 c122 c123 c124 c125 c126 c127 c128 c129 c130 c131 c132 c133 c134 c135 c136 c137 c138 c139 c140 c141 c142 c143 c144 c145 c146 c147 c148 c149 c150 c151 c152 c153 c154 c155 c156 c157 c158 c159 c160 c161 c162 c163 c164 c165 c166 c167 c168 c169 c170 c171 c172 c173 c174 c175 c176 c177 c178 c179 c180 c181 c182 c183 c184 c185 c186 c187 c188 c189 c190 c191 c192 c193 c194 c195 c196 c197 c198 c199 c200 c201 c202 c203 c204 c205 c206 c207 c208 c209 c210 c211 c212 c213 c214 c215 c216 c217 c218 c219 c220 c221 c222 c223 c224 c225 c226 c227 c228 c229 c230 c231 c232 c233 c234 c235 c236 c237 c238 c239 c240 c241 c242 c243 c244 c245 c246 c247 c248 c249 c250 c251 c252 c253 c254 c255 c256 c257 c258 c259 c260 c261 c262 c263 c264 c265 c266 c267 c268 c269 c270 c271 c272 c273 c274 c275 c276 c277 c278 c279 c280 c281 c282 c283 c284 c285 c286 c287 c288 c289 c290 c291 c292 c293 c294 c295 c296 c297 c298 c299 c300 c301 c302 c303 c304 c305 c306 c307 c308 c309 c310 c311 c312 c313 c314 c315 c316 c317 c318 c319 c320 c321 c322 c323 c324 c325 c326 c327 c328 c329 c330 c331 c332 c333 c334 c335 c336 c337 c338 c339 c340 c341 c342 c343 c344 c345 c346 c347 c348 c349 c350 c351 c352 c353 c354 c355 c356 c357 c358 c359 c360 c361 : Value}
theorem more_arith (ex lb vb mo : Nat) (hex : ex ≤ 5) (hlb : lb ≤ 258) (hvl : vb < 4294967296) (hmo : mo < 2 ^ ex) (hbt : vb % 2 ^ ex = mo % 2 ^ ex) :
  wrap64 ((lb : Int) + wrap64 (bits BinOp.and IntKind.u32 (vb : Int) (((2 : Int) ^ ex - 1) % 4294967296))) = ((lb + mo : Nat) : Int):=by
 have hp : 2 ^ ex ≤ 32:=Nat.le_trans (Nat.pow_le_pow_right (by omega) hex) (by decide)
 have hp2 : (2 : Int) ^ ex = ((2 ^ ex : Nat) : Int):=by simp
 have hp0 : 1 ≤ 2 ^ ex:=Nat.two_pow_pos ex
 have hm2 : mo < 8192:=Nat.lt_of_lt_of_le hmo (Nat.le_trans hp (by decide))
 have e1 : ((2 : Int) ^ ex - 1) % 4294967296 = ((2 ^ ex - 1 : Nat) : Int):=by rw [hp2];exact dist_mask _ hp0 (Nat.le_trans hp (by decide))
 have e2 : bits BinOp.and IntKind.u32 (vb : Int) ((2 ^ ex - 1 : Nat) : Int) = (mo : Int):=by
  rw [u32_low vb ex hvl (Nat.le_trans hex (by decide)),hbt,Nat.mod_eq_of_lt hmo]
 rw [e1,e2,wrap64_small mo hm2]
 unfold wrap64
 omega
set_option maxRecDepth 100000 in
set_option maxHeartbeats 8000000 in
theorem block_more (x : Pl) (ap : Apart x) (ex lb mo : Nat) (w : World) (d : Array Value) (BB Z : List Bool) (p : Nat) (h : Tak x w d (lsb mo ex ++ Z) w d BB p) (hsz : d.size = 1054) (hex : ex ≤ 5) (hlb : lb ≤ 258) (hmo : mo < 2 ^ ex) (hBB : BB.length ≤ 24) (Q : Exit → Act → World → Prop)
  (hK : ∀ (u3 u5 u112 u113 u114 u115 u116 u117 u118 u119 u120 u121 u122 u123 u124 u125 u126 u127 u128 u129 u130 u131 u132 u133 u134 u135 u136 u137 u138 u139 u140 u141 u142 u143 u144 u145 u146 u147 u148 u149 u150 u151 u152 u153 : Value) (wx : World) (d' : Array Value) (B' : List Bool) (p' : Nat),Tak x w d Z wx d' B' p' → (B'.length < 8 ∨ B'.length ≤ BB.length) → u5 = .int .i64 ((lb + mo : Nat) : Int) → Q .normal ⟨List.toArray ((.pointer (some ⟨x.F,0,none⟩))::c1::c2::u3::(.int .u64 ex)::u5::c6::c7::c8::c9::c10::c11::c12::c13::c14::c15::c16::c17::c18::c19::c20::c21::c22::c23::c24::c25::c26::c27::c28::c29::c30::c31::c32::c33::c34::c35::c36::c37::c38::c39::c40::c41::c42::c43::c44::c45::c46::c47::c48::c49::c50::c51::c52::c53::c54::c55::c56::c57::c58::c59::c60::c61::c62::c63::c64::c65::c66::c67::c68::c69::c70::c71::c72::c73::c74::c75::c76::c77::c78::c79::c80::c81::c82::c83::c84::c85::c86::c87::c88::c89::c90::c91::c92::c93::c94::c95::c96::c97::c98::c99::c100::c101::c102::c103::c104::c105::c106::c107::c108::c109::c110::c111::u112::u113::u114::u115::u116::u117::u118::u119::u120::u121::u122::u123::u124::u125::u126::u127::u128::u129::u130::u131::u132::u133::u134::u135::u136::u137::u138::u139::u140::u141::u142::u143::u144::u145::u146::u147::u148::u149::u150::u151::u152::u153::c154::c155::c156::c157::c158::c159::c160::c161::c162::c163::c164::c165::c166::c167::c168::c169::c170::c171::c172::c173::c174::c175::c176::c177::c178::c179::c180::c181::c182::c183::c184::c185::c186::c187::c188::c189::c190::c191::c192::c193::c194::c195::c196::c197::c198::c199::c200::c201::c202::c203::c204::c205::c206::c207::c208::c209::c210::c211::c212::c213::c214::c215::c216::c217::c218::c219::c220::c221::c222::c223::c224::c225::c226::c227::c228::c229::c230::c231::c232::c233::c234::c235::c236::c237::c238::c239::c240::c241::c242::c243::c244::c245::c246::c247::c248::c249::c250::c251::c252::c253::c254::c255::c256::c257::c258::c259::c260::c261::c262::c263::c264::c265::c266::c267::c268::c269::c270::c271::c272::c273::c274::c275::c276::c277::c278::c279::c280::c281::c282::c283::c284::c285::c286::c287::c288::c289::c290::c291::c292::c293::c294::c295::c296::c297::c298::c299::c300::c301::c302::c303::c304::c305::c306::c307::c308::c309::c310::c311::c312::c313::c314::c315::c316::c317::c318::c319::c320::c321::c322::c323::c324::c325::c326::c327::c328::c329::c330::c331::c332::c333::c334::c335::c336::c337::c338::c339::c340::c341::c342::c343::c344::c345::c346::c347::c348::c349::c350::c351::c352::c353::c354::c355::c356::c357::c358::c359::c360::c361::[]),[]⟩ wx)
  (hR : ∀ (u3 u5 u112 u113 u114 u115 u116 u117 u118 u119 u120 u121 u122 u123 u124 u125 u126 u127 u128 u129 u130 u131 u132 u133 u134 u135 u136 u137 u138 u139 u140 u141 u142 u143 u144 u145 u146 u147 u148 u149 u150 u151 u152 u153 : Value) (wx wy : World) (d' : Array Value) (Y' B' : List Bool) (p' : Nat),Tak x w d Y' wy d' B' p' → x.ext ≠ [] → wx = wy.setCell ⟨x.F,1048,none⟩ (.iface 175 (.pointer (some x.U))) → Q .ret ⟨List.toArray ((.pointer (some ⟨x.F,0,none⟩))::c1::c2::u3::(.int .u64 ex)::u5::c6::c7::c8::c9::c10::c11::c12::c13::c14::c15::c16::c17::c18::c19::c20::c21::c22::c23::c24::c25::c26::c27::c28::c29::c30::c31::c32::c33::c34::c35::c36::c37::c38::c39::c40::c41::c42::c43::c44::c45::c46::c47::c48::c49::c50::c51::c52::c53::c54::c55::c56::c57::c58::c59::c60::c61::c62::c63::c64::c65::c66::c67::c68::c69::c70::c71::c72::c73::c74::c75::c76::c77::c78::c79::c80::c81::c82::c83::c84::c85::c86::c87::c88::c89::c90::c91::c92::c93::c94::c95::c96::c97::c98::c99::c100::c101::c102::c103::c104::c105::c106::c107::c108::c109::c110::c111::u112::u113::u114::u115::u116::u117::u118::u119::u120::u121::u122::u123::u124::u125::u126::u127::u128::u129::u130::u131::u132::u133::u134::u135::u136::u137::u138::u139::u140::u141::u142::u143::u144::u145::u146::u147::u148::u149::u150::u151::u152::u153::c154::c155::c156::c157::c158::c159::c160::c161::c162::c163::c164::c165::c166::c167::c168::c169::c170::c171::c172::c173::c174::c175::c176::c177::c178::c179::c180::c181::c182::c183::c184::c185::c186::c187::c188::c189::c190::c191::c192::c193::c194::c195::c196::c197::c198::c199::c200::c201::c202::c203::c204::c205::c206::c207::c208::c209::c210::c211::c212::c213::c214::c215::c216::c217::c218::c219::c220::c221::c222::c223::c224::c225::c226::c227::c228::c229::c230::c231::c232::c233::c234::c235::c236::c237::c238::c239::c240::c241::c242::c243::c244::c245::c246::c247::c248::c249::c250::c251::c252::c253::c254::c255::c256::c257::c258::c259::c260::c261::c262::c263::c264::c265::c266::c267::c268::c269::c270::c271::c272::c273::c274::c275::c276::c277::c278::c279::c280::c281::c282::c283::c284::c285::c286::c287::c288::c289::c290::c291::c292::c293::c294::c295::c296::c297::c298::c299::c300::c301::c302::c303::c304::c305::c306::c307::c308::c309::c310::c311::c312::c313::c314::c315::c316::c317::c318::c319::c320::c321::c322::c323::c324::c325::c326::c327::c328::c329::c330::c331::c332::c333::c334::c335::c336::c337::c338::c339::c340::c341::c342::c343::c344::c345::c346::c347::c348::c349::c350::c351::c352::c353::c354::c355::c356::c357::c358::c359::c360::c361::[]),[]⟩ wx) :
  Code.wp Tryz.prog (if69 112) Q ⟨List.toArray ((.pointer (some ⟨x.F,0,none⟩))::c1::c2::c3::(.int .u64 ex)::(.int .i64 lb)::c6::c7::c8::c9::c10::c11::c12::c13::c14::c15::c16::c17::c18::c19::c20::c21::c22::c23::c24::c25::c26::c27::c28::c29::c30::c31::c32::c33::c34::c35::c36::c37::c38::c39::c40::c41::c42::c43::c44::c45::c46::c47::c48::c49::c50::c51::c52::c53::c54::c55::c56::c57::c58::c59::c60::c61::c62::c63::c64::c65::c66::c67::c68::c69::c70::c71::c72::c73::c74::c75::c76::c77::c78::c79::c80::c81::c82::c83::c84::c85::c86::c87::c88::c89::c90::c91::c92::c93::c94::c95::c96::c97::c98::c99::c100::c101::c102::c103::c104::c105::c106::c107::c108::c109::c110::c111::(.bool (decide (0 < ex)))::c113::c114::c115::c116::c117::c118::c119::c120::c121::c122::c123::c124::c125::c126::c127::c128::c129::c130::c131::c132::c133::c134::c135::c136::c137::c138::c139::c140::c141::c142::c143::c144::c145::c146::c147::c148::c149::c150::c151::c152::c153::c154::c155::c156::c157::c158::c159::c160::c161::c162::c163::c164::c165::c166::c167::c168::c169::c170::c171::c172::c173::c174::c175::c176::c177::c178::c179::c180::c181::c182::c183::c184::c185::c186::c187::c188::c189::c190::c191::c192::c193::c194::c195::c196::c197::c198::c199::c200::c201::c202::c203::c204::c205::c206::c207::c208::c209::c210::c211::c212::c213::c214::c215::c216::c217::c218::c219::c220::c221::c222::c223::c224::c225::c226::c227::c228::c229::c230::c231::c232::c233::c234::c235::c236::c237::c238::c239::c240::c241::c242::c243::c244::c245::c246::c247::c248::c249::c250::c251::c252::c253::c254::c255::c256::c257::c258::c259::c260::c261::c262::c263::c264::c265::c266::c267::c268::c269::c270::c271::c272::c273::c274::c275::c276::c277::c278::c279::c280::c281::c282::c283::c284::c285::c286::c287::c288::c289::c290::c291::c292::c293::c294::c295::c296::c297::c298::c299::c300::c301::c302::c303::c304::c305::c306::c307::c308::c309::c310::c311::c312::c313::c314::c315::c316::c317::c318::c319::c320::c321::c322::c323::c324::c325::c326::c327::c328::c329::c330::c331::c332::c333::c334::c335::c336::c337::c338::c339::c340::c341::c342::c343::c344::c345::c346::c347::c348::c349::c350::c351::c352::c353::c354::c355::c356::c357::c358::c359::c360::c361::[]),[]⟩ w:=by
 have H:=Lib.hid h;have HKK:=Lib.hid hK;have HRR:=Lib.hid hR
 clear h hK hR
 conv => arg 2;whnf
 rcases Nat.eq_zero_or_pos ex with h0 | h0
 ·subst h0
  have hm0 : mo = 0:=by simp at hmo;exact hmo
  go_wp2_with fail
  refine HKK.out _ _ _ _ _ _ _ _ _ _ _ _ _ _ _ _ _ _ _ _ _ _ _ _ _ _ _ _ _ _ _ _ _ _ _ _ _ _ _ _ _ _ _ _ _ d BB p H.out (.inr (Nat.le_refl _)) ?_
  rw [hm0];rfl
 ·have hei : (0 : Int) < (ex : Int):=by omega
  go_simp
  go_upto_block 2 with (fail)
  refine need69_2 x ap ex (by omega) w w d d BB _ p H.out hsz (by simp) hBB _ ?_ ?_
  ·intro u3 u113 u114 u115 u116 u117 u118 u119 u120 u121 u122 u123 u124 u125 u126 w3 d3 B3 p3 hT3 hn3 hb3
   obtain ⟨hc3,hc4⟩:=hT3.cells
   have hf1:=hT3.blk.free
   obtain ⟨vb,hvb⟩ : ∃ v,val B3 = v:=⟨_,rfl⟩
   obtain ⟨nb,hnb⟩ : ∃ v,B3.length = v:=⟨_,rfl⟩
   have hnbl : nb < 32:=by omega
   rw [hnb] at hc4 hn3
   rw [hvb] at hc3
   have hvl : vb < 4294967296:=by
    have:=val_lt B3
    rw [hvb,hnb] at this
    exact Nat.lt_of_lt_of_le this (Nat.le_trans (Nat.pow_le_pow_right (by omega) (show nb ≤ 32 by omega)) (by decide))
   have hbt:=(bits_take hT3.z (by rw [hnb];exact hn3)).1
   rw [hvb] at hbt
   have HT3:=Lib.hid hT3;have HVB:=Lib.hid hvb;have HNB:=Lib.hid hnb;have HB3:=Lib.hid hb3;have HBT:=Lib.hid hbt
   clear hT3 hvb hnb hb3 hbt
   go_wp2_with fail
   have hv8 : (vb : Int) / 2 ^ ex = ((vb / 2 ^ ex : Nat) : Int):=by simp
   have hn8 : (nb : Int) - (ex : Int) = ((nb - ex : Nat) : Int):=by omega
   have hs4 : 5 ≤ d3.size:=by have:=get_lt HT3.out.bits.nb;omega
   have hU:=HT3.out.used (w':=(w3.setCell ⟨x.F,3,none⟩ (.int .u32 ((vb / 2 ^ ex : Nat) : Int))).setCell ⟨x.F,4,none⟩ (.int .u64 ((nb - ex : Nat) : Int))) (c':=(d3.setIfInBounds 3 (.int .u32 ((vb / 2 ^ ex : Nat) : Int))).setIfInBounds 4 (.int .u64 ((nb - ex : Nat) : Int)))
    (by rw [HNB.out];exact hn3) ap ((HT3.out.blk.set 3 _).set 4 _) (((Same.refl _ d3).set (.inl rfl) _).set (.inr rfl) _) (((Ext.refl _ _).only _).only _) (by rw [set_ne _ _ (by decide),set_eq _ (by omega),HVB.out]) (by rw [set_eq _ (by simp;omega),HNB.out])
   rw [hv8,hn8]
   refine HKK.out _ _ _ _ _ _ _ _ _ _ _ _ _ _ _ _ _ _ _ _ _ _ _ _ _ _ _ _ _ _ _ _ _ _ _ _ _ _ _ _ _ _ _ _ _ _ (B3.drop ex) p3 hU.1 ?_ ?_
   ·rw [List.length_drop,HNB.out]
    have:=HB3.out
    rw [HNB.out] at this
    rcases this with h | h
    ·left;omega
    ·right;omega
   ·rw [more_arith ex lb vb mo hex hlb hvl hmo HBT.out]
  ·intro u3 u113 u114 u115 u116 u117 u118 u119 u120 u121 u122 u123 u124 u125 u126 wx wy d3 B3 p3 hT3 hx he
   have HT3:=Lib.hid hT3;have HE:=Lib.hid he
   clear hT3 he
   go_wp2_with fail
   exact HRR.out _ _ _ _ _ _ _ _ _ _ _ _ _ _ _ _ _ _ _ _ _ _ _ _ _ _ _ _ _ _ _ _ _ _ _ _ _ _ _ _ _ _ _ _ wx wy d3 _ B3 p3 HT3.out hx HE.out
theorem fixDist_code (s : Nat) (hs : s < 32) : codeBits fixDistsP s = lsb (val (msb s 5)) 5 ∧ val (msb (val (msb s 5) * 8) 8) = s ∧ val (msb s 5) < 32:=by
 have key : ∀ s : Fin 32,codeBits fixDistsP s.val = lsb (val (msb s.val 5)) 5 ∧ val (msb (val (msb s.val 5) * 8) 8) = s.val ∧ val (msb s.val 5) < 32:=by decide +kernel
 exact key ⟨s,hs⟩
set_option maxRecDepth 100000 in
set_option maxHeartbeats 8000000 in
theorem block_far_fixed (x : Pl) (ap : Apart x) (s : Nat) (w : World) (d : Array Value) (BB Z : List Bool) (p : Nat) (h : Tak x w d (codeBits fixDistsP s ++ Z) w d BB p) (hsz : d.size = 1054) (hs : s < 32) (hBB : BB.length ≤ 24) (Q : Exit → Act → World → Prop)
  (hK : ∀ (u3 u6 u158 u159 u160 u161 u162 u163 u164 u165 u166 u167 u168 u169 u170 u171 u172 u173 u174 u175 u176 u177 u178 u179 u180 u181 u182 u183 u184 u185 u186 u187 u188 u189 u190 u191 u192 u193 u194 u195 u196 u197 u198 u199 u200 u201 u202 u203 u204 u205 u206 u207 u208 u209 : Value) (wx : World) (d' : Array Value) (B' : List Bool) (p' : Nat),Tak x w d Z wx d' B' p' → (B'.length < 8 ∨ B'.length ≤ BB.length) → u6 = .int .i64 s → Q .normal ⟨List.toArray ((.pointer (some ⟨x.F,0,none⟩))::c1::c2::u3::c4::c5::u6::c7::c8::c9::c10::c11::c12::c13::c14::c15::c16::c17::c18::c19::c20::c21::c22::c23::c24::c25::c26::c27::c28::c29::c30::c31::c32::c33::c34::c35::c36::c37::c38::c39::c40::c41::c42::c43::c44::c45::c46::c47::c48::c49::c50::c51::c52::c53::c54::c55::c56::c57::c58::c59::c60::c61::c62::c63::c64::c65::c66::c67::c68::c69::c70::c71::c72::c73::c74::c75::c76::c77::c78::c79::c80::c81::c82::c83::c84::c85::c86::c87::c88::c89::c90::c91::c92::c93::c94::c95::c96::c97::c98::c99::c100::c101::c102::c103::c104::c105::c106::c107::c108::c109::c110::c111::c112::c113::c114::c115::c116::c117::c118::c119::c120::c121::c122::c123::c124::c125::c126::c127::c128::c129::c130::c131::c132::c133::c134::c135::c136::c137::c138::c139::c140::c141::c142::c143::c144::c145::c146::c147::c148::c149::c150::c151::c152::c153::c154::c155::c156::c157::u158::u159::u160::u161::u162::u163::u164::u165::u166::u167::u168::u169::u170::u171::u172::u173::u174::u175::u176::u177::u178::u179::u180::u181::u182::u183::u184::u185::u186::u187::u188::u189::u190::u191::u192::u193::u194::u195::u196::u197::u198::u199::u200::u201::u202::u203::u204::u205::u206::u207::u208::u209::c210::c211::c212::c213::c214::c215::c216::c217::c218::c219::c220::c221::c222::c223::c224::c225::c226::c227::c228::c229::c230::c231::c232::c233::c234::c235::c236::c237::c238::c239::c240::c241::c242::c243::c244::c245::c246::c247::c248::c249::c250::c251::c252::c253::c254::c255::c256::c257::c258::c259::c260::c261::c262::c263::c264::c265::c266::c267::c268::c269::c270::c271::c272::c273::c274::c275::c276::c277::c278::c279::c280::c281::c282::c283::c284::c285::c286::c287::c288::c289::c290::c291::c292::c293::c294::c295::c296::c297::c298::c299::c300::c301::c302::c303::c304::c305::c306::c307::c308::c309::c310::c311::c312::c313::c314::c315::c316::c317::c318::c319::c320::c321::c322::c323::c324::c325::c326::c327::c328::c329::c330::c331::c332::c333::c334::c335::c336::c337::c338::c339::c340::c341::c342::c343::c344::c345::c346::c347::c348::c349::c350::c351::c352::c353::c354::c355::c356::c357::c358::c359::c360::c361::[]),[]⟩ wx)
  (hR : ∀ (u3 u6 u158 u159 u160 u161 u162 u163 u164 u165 u166 u167 u168 u169 u170 u171 u172 u173 u174 u175 u176 u177 u178 u179 u180 u181 u182 u183 u184 u185 u186 u187 u188 u189 u190 u191 u192 u193 u194 u195 u196 u197 u198 u199 u200 u201 u202 u203 u204 u205 u206 u207 u208 u209 : Value) (wx wy : World) (d' : Array Value) (Y' B' : List Bool) (p' : Nat),Tak x w d Y' wy d' B' p' → x.ext ≠ [] → wx = wy.setCell ⟨x.F,1048,none⟩ (.iface 175 (.pointer (some x.U))) → Q .ret ⟨List.toArray ((.pointer (some ⟨x.F,0,none⟩))::c1::c2::u3::c4::c5::u6::c7::c8::c9::c10::c11::c12::c13::c14::c15::c16::c17::c18::c19::c20::c21::c22::c23::c24::c25::c26::c27::c28::c29::c30::c31::c32::c33::c34::c35::c36::c37::c38::c39::c40::c41::c42::c43::c44::c45::c46::c47::c48::c49::c50::c51::c52::c53::c54::c55::c56::c57::c58::c59::c60::c61::c62::c63::c64::c65::c66::c67::c68::c69::c70::c71::c72::c73::c74::c75::c76::c77::c78::c79::c80::c81::c82::c83::c84::c85::c86::c87::c88::c89::c90::c91::c92::c93::c94::c95::c96::c97::c98::c99::c100::c101::c102::c103::c104::c105::c106::c107::c108::c109::c110::c111::c112::c113::c114::c115::c116::c117::c118::c119::c120::c121::c122::c123::c124::c125::c126::c127::c128::c129::c130::c131::c132::c133::c134::c135::c136::c137::c138::c139::c140::c141::c142::c143::c144::c145::c146::c147::c148::c149::c150::c151::c152::c153::c154::c155::c156::c157::u158::u159::u160::u161::u162::u163::u164::u165::u166::u167::u168::u169::u170::u171::u172::u173::u174::u175::u176::u177::u178::u179::u180::u181::u182::u183::u184::u185::u186::u187::u188::u189::u190::u191::u192::u193::u194::u195::u196::u197::u198::u199::u200::u201::u202::u203::u204::u205::u206::u207::u208::u209::c210::c211::c212::c213::c214::c215::c216::c217::c218::c219::c220::c221::c222::c223::c224::c225::c226::c227::c228::c229::c230::c231::c232::c233::c234::c235::c236::c237::c238::c239::c240::c241::c242::c243::c244::c245::c246::c247::c248::c249::c250::c251::c252::c253::c254::c255::c256::c257::c258::c259::c260::c261::c262::c263::c264::c265::c266::c267::c268::c269::c270::c271::c272::c273::c274::c275::c276::c277::c278::c279::c280::c281::c282::c283::c284::c285::c286::c287::c288::c289::c290::c291::c292::c293::c294::c295::c296::c297::c298::c299::c300::c301::c302::c303::c304::c305::c306::c307::c308::c309::c310::c311::c312::c313::c314::c315::c316::c317::c318::c319::c320::c321::c322::c323::c324::c325::c326::c327::c328::c329::c330::c331::c332::c333::c334::c335::c336::c337::c338::c339::c340::c341::c342::c343::c344::c345::c346::c347::c348::c349::c350::c351::c352::c353::c354::c355::c356::c357::c358::c359::c360::c361::[]),[]⟩ wx) :
  Code.wp Tryz.prog (if69 158) Q ⟨List.toArray ((.pointer (some ⟨x.F,0,none⟩))::c1::c2::c3::c4::c5::c6::c7::c8::c9::c10::c11::c12::c13::c14::c15::c16::c17::c18::c19::c20::c21::c22::c23::c24::c25::c26::c27::c28::c29::c30::c31::c32::c33::c34::c35::c36::c37::c38::c39::c40::c41::c42::c43::c44::c45::c46::c47::c48::c49::c50::c51::c52::c53::c54::c55::c56::c57::c58::c59::c60::c61::c62::c63::c64::c65::c66::c67::c68::c69::c70::c71::c72::c73::c74::c75::c76::c77::c78::c79::c80::c81::c82::c83::c84::c85::c86::c87::c88::c89::c90::c91::c92::c93::c94::c95::c96::c97::c98::c99::c100::c101::c102::c103::c104::c105::c106::c107::c108::c109::c110::c111::c112::c113::c114::c115::c116::c117::c118::c119::c120::c121::c122::c123::c124::c125::c126::c127::c128::c129::c130::c131::c132::c133::c134::c135::c136::c137::c138::c139::c140::c141::c142::c143::c144::c145::c146::c147::c148::c149::c150::c151::c152::c153::c154::c155::c156::c157::(.bool true)::c159::c160::c161::c162::c163::c164::c165::c166::c167::c168::c169::c170::c171::c172::c173::c174::c175::c176::c177::c178::c179::c180::c181::c182::c183::c184::c185::c186::c187::c188::c189::c190::c191::c192::c193::c194::c195::c196::c197::c198::c199::c200::c201::c202::c203::c204::c205::c206::c207::c208::c209::c210::c211::c212::c213::c214::c215::c216::c217::c218::c219::c220::c221::c222::c223::c224::c225::c226::c227::c228::c229::c230::c231::c232::c233::c234::c235::c236::c237::c238::c239::c240::c241::c242::c243::c244::c245::c246::c247::c248::c249::c250::c251::c252::c253::c254::c255::c256::c257::c258::c259::c260::c261::c262::c263::c264::c265::c266::c267::c268::c269::c270::c271::c272::c273::c274::c275::c276::c277::c278::c279::c280::c281::c282::c283::c284::c285::c286::c287::c288::c289::c290::c291::c292::c293::c294::c295::c296::c297::c298::c299::c300::c301::c302::c303::c304::c305::c306::c307::c308::c309::c310::c311::c312::c313::c314::c315::c316::c317::c318::c319::c320::c321::c322::c323::c324::c325::c326::c327::c328::c329::c330::c331::c332::c333::c334::c335::c336::c337::c338::c339::c340::c341::c342::c343::c344::c345::c346::c347::c348::c349::c350::c351::c352::c353::c354::c355::c356::c357::c358::c359::c360::c361::[]),[]⟩ w:=by
 obtain ⟨f1,f2,f3⟩:=fixDist_code s hs
 rw [f1] at h
 obtain ⟨y,hy⟩ : ∃ y,val (msb s 5) = y:=⟨_,rfl⟩
 rw [hy] at h f2 f3
 have H:=Lib.hid h;have HKK:=Lib.hid hK;have HRR:=Lib.hid hR;have HF2:=Lib.hid f2
 clear h hK hR f1 f2 hy
 conv => arg 2;whnf
 go_upto_block 4 with (fail)
 refine need69_4 x ap w w d d BB _ p H.out hsz (by simp) hBB _ ?_ ?_
 ·intro u3 u159 u160 u161 u162 u163 u164 u165 u166 u167 u168 u169 u170 u171 w3 d3 B3 p3 hT3 hn3 hb3
  obtain ⟨hc3,hc4⟩:=hT3.cells
  have hf1:=hT3.blk.free
  obtain ⟨vb,hvb⟩ : ∃ v,val B3 = v:=⟨_,rfl⟩
  obtain ⟨nb,hnb⟩ : ∃ v,B3.length = v:=⟨_,rfl⟩
  have hnbl : nb < 32:=by omega
  rw [hnb] at hc4 hn3
  rw [hvb] at hc3
  have hvl : vb < 4294967296:=by
   have:=val_lt B3
   rw [hvb,hnb] at this
   exact Nat.lt_of_lt_of_le this (Nat.le_trans (Nat.pow_le_pow_right (by omega) (show nb ≤ 32 by omega)) (by decide))
  have hbt:=(bits_take hT3.z (by rw [hnb];exact hn3)).1
  rw [hvb] at hbt
  have hand : bits BinOp.and IntKind.u32 (vb : Int) 31 = (y : Int):=by
   have:=u32_low vb 5 hvl (by omega)
   rw [show vb % 2 ^ 5 = y by omega] at this
   exact this
  have hn5 : (5 : Int) ≤ (nb : Int):=by omega
  have hRv:=reverse8_any (y * 8) (by omega)
  rw [HF2.out] at hRv
  have hy8 : ((y * 8 : Nat) : Int) = (y : Int) * 8:=by omega
  rw [hy8] at hRv
  have HRV:=Lib.hid hRv
  have HT3:=Lib.hid hT3;have HVB:=Lib.hid hvb;have HNB:=Lib.hid hnb;have HB3:=Lib.hid hb3
  have hyi : (y : Int) < 32:=by omega
  clear hT3 hvb hnb hb3 hbt hRv hy8
  go_wp2_with fail
  refine (HRV.out _).mono ?_
  rintro e w4 ⟨rfl,he4⟩
  have hT4:=(HT3.out.quiet he4)
  obtain ⟨hc3',hc4'⟩:=hT4.cells
  rw [HVB.out] at hc3'
  rw [HNB.out] at hc4'
  have hf4:=hT4.blk.free
  have HT4:=Lib.hid hT4
  clear hT4 hc3 hc4 hf1 he4 hand
  go_wp2_with fail
  have hv8 : (vb : Int) / 32 = ((vb / 2 ^ 5 : Nat) : Int):=by omega
  have hn8 : (nb : Int) - 5 = ((nb - 5 : Nat) : Int):=by omega
  have hs4 : 5 ≤ d3.size:=by have:=get_lt HT3.out.bits.nb;omega
  have hU:=HT4.out.used (w':=(w4.setCell ⟨x.F,3,none⟩ (.int .u32 ((vb / 2 ^ 5 : Nat) : Int))).setCell ⟨x.F,4,none⟩ (.int .u64 ((nb - 5 : Nat) : Int))) (c':=(d3.setIfInBounds 3 (.int .u32 ((vb / 2 ^ 5 : Nat) : Int))).setIfInBounds 4 (.int .u64 ((nb - 5 : Nat) : Int)))
   (by rw [HNB.out];exact hn3) ap ((HT4.out.blk.set 3 _).set 4 _) (((Same.refl _ d3).set (.inl rfl) _).set (.inr rfl) _) (((Ext.refl _ _).only _).only _) (by rw [set_ne _ _ (by decide),set_eq _ (by omega),HVB.out]) (by rw [set_eq _ (by simp;omega),HNB.out])
  rw [hv8,hn8]
  refine HKK.out _ _ _ _ _ _ _ _ _ _ _ _ _ _ _ _ _ _ _ _ _ _ _ _ _ _ _ _ _ _ _ _ _ _ _ _ _ _ _ _ _ _ _ _ _ _ _ _ _ _ _ _ _ _ _ _ (B3.drop 5) p3 hU.1 ?_ rfl
  rw [List.length_drop,HNB.out]
  have:=HB3.out
  rw [HNB.out] at this
  rcases this with h | h
  ·left;omega
  ·right;omega
 ·intro u3 u159 u160 u161 u162 u163 u164 u165 u166 u167 u168 u169 u170 u171 wx wy d3 B3 p3 hT3 hx he
  have HT3:=Lib.hid hT3;have HE:=Lib.hid he
  clear hT3 he
  go_wp2_with fail
  exact HRR.out _ _ _ _ _ _ _ _ _ _ _ _ _ _ _ _ _ _ _ _ _ _ _ _ _ _ _ _ _ _ _ _ _ _ _ _ _ _ _ _ _ _ _ _ _ _ _ _ _ _ _ _ _ _ wx wy d3 _ B3 p3 HT3.out hx HE.out
end Go.Proofs.YthpapbilhjobnaaGreatDoor
