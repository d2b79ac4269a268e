/-
  Parts of the proofs over the reader and the encoder of streams, joined: Ib. Conditions: each theorem names its own.
-/
import Derived.Test.YthpapbilhjobnaaGreatDoorM09
set_option linter.unusedVariables false
set_option linter.unusedSimpArgs false
namespace Go.Proofs.YthpapbilhjobnaaGreatDoor
open Go.RowKit Pu
def InitPost (w : World) (N : Nat → Prop) (F hb ho : Nat) (t : TypeId) (c : Array Value) (lens : List Nat) (e : Ending) (w' : World) : Prop :=
 e = .returned (.bool true) ∧ ∃ c',Blk w' hb c' t ∧ Same (fun k => ho ≤ k ∧ k < ho + 515) c c' ∧ HD c' ho ∧ HT w' F N hb ho lens (mnOf lens) ∧ Ext (fun k => k = hb) w w'
theorem HT.none {w : World} {F : Nat} {N : Nat → Prop} {hb ho : Nat} {t : TypeId} {c : Array Value} {lens : List Nat} (hB : Blk w hb c t) (hD : HD c ho) (h0 : c[ho]? = some (.int .i64 0)) (hz : ∀ s,len lens s = 0) (hN : ¬ N hb) (hF : hb = F → 5 ≤ ho ∧ ho ≤ 520) : HT w F N hb ho lens 0:=by
 obtain ⟨f,hf⟩:=hD.ch
 refine ⟨hN,hF,by rw [hB.cell];exact h0,f,fun _ _ => 0,0,0,0,0,fun _ => 0,Tab.empty hz _ _ _ _,fun x hx => by rw [hB.cell];exact hf x hx,?_⟩
 rintro ⟨s,hs⟩
 rw [hz s] at hs;omega
theorem HT.made {w : World} {F : Nat} {N : Nat → Prop} {hb ho b11 : Nat} {t : TypeId} {c0 c : Array Value} {lens : List Nat} {ch : Nat → Nat} {lk : Nat → Nat → Nat} {Lb : Nat} {g : Nat → Nat} (h : TB w hb ho t b11 c0 c lens (512 - linkOf lens) ch lk Lb g)
  (ht : TabTo lens ch lk (linkOf lens) (2 ^ (mxOf lens - 9)) lens.length) (hg : Pu.Good lens) (hN : ¬ N hb) (hNb : ∀ k,b11 < k → ¬ N k ∧ k ≠ F) (hF : hb = F → 5 ≤ ho ∧ ho ≤ 520) : HT w F N hb ho lens (mnOf lens):=by
 have h15:=mxOf_le lens 15 hg.mem
 refine ⟨hN,hF,by rw [h.blk.cell];exact h.min,ch,lk,512 - linkOf lens,2 ^ (mxOf lens - 9),Lb,512 - linkOf lens,g,?_,fun x hx => by rw [h.blk.cell];exact h.chh x hx,?_⟩
 ·refine ht.done hg (fun ⟨s,hs⟩ => ?_)
  have hl : 9 < mxOf lens:=by
   have hsl:=lt_of_len (lens:=lens) (s:=s) (by omega)
   have:=mxOf_ge lens _ (List.getElem_mem hsl)
   rw [← len_eq hsl] at this;omega
  have hlk:=linkOf_le hg hl
  have:=(h.long hl).1
  rw [show linkOf lens + (512 - linkOf lens) = 512 by omega] at this
  exact this
 ·rintro ⟨s,hs⟩
  have hl : 9 < mxOf lens:=by
   have hsl:=lt_of_len (lens:=lens) (s:=s) (by omega)
   have:=mxOf_ge lens _ (List.getElem_mem hsl)
   rw [← len_eq hsl] at this;omega
  obtain ⟨hl1,hl2,hl3,hl4,⟨L,hl5,hl6,hl7⟩,hl8⟩:=h.long hl
  refine ⟨⟨by omega,mxOf lens - 9,by omega,rfl⟩,(hNb _ hl4).1,(hNb _ hl4).2,by rw [h.blk.cell];exact hl2,by rw [h.blk.cell];exact hl3,fun v hv => ?_⟩
  obtain ⟨a,b,d⟩:=hl8 v hv
  refine ⟨(hNb _ (Nat.lt_trans hl4 a)).1,(hNb _ (Nat.lt_trans hl4 a)).2,by rw [hl5.cell];exact hl7 v hv,fun y hy => by rw [d.cell];exact arw_get _ _ _ hy⟩
theorem TB.hd {w : World} {hb ho b11 : Nat} {t : TypeId} {c0 c : Array Value} {lens : List Nat} {k : Nat} {ch : Nat → Nat} {lk : Nat → Nat → Nat} {Lb : Nat} {g : Nat → Nat} (h : TB w hb ho t b11 c0 c lens k ch lk Lb g) : HD c ho :=
 ⟨⟨_,h.min⟩,⟨_,h.chh⟩,h.lkc,h.mkc⟩
set_option maxRecDepth 100000 in
set_option maxHeartbeats 8000000 in
theorem init_any (N : Nat → Prop) (F hb ho lb lo lcap : Nat) (t : TypeId) (c : Array Value) (lens : List Nat) (w : World) (hB : Blk w hb c t) (hD : HD c ho) (hL : ∀ j x,(lens.map IV)[j]? = some x → w.cell? ⟨lb,lo + j,none⟩ = some x) (hlb : lb ≠ hb) (hlbs : lb < w.heap.size)
  (hlen : lens.length ≤ 320) (h15 : ∀ n ∈ lens,n ≤ 15) (hg : Pu.Good lens ∨ ∀ s,len lens s = 0) (hN : ¬ N hb) (hNn : ∀ k,N k → k < w.heap.size) (hFn : F < w.heap.size) (hF : hb = F → 5 ≤ ho ∧ ho ≤ 520) :
  Calls Tryz.prog 75 #[.pointer (some ⟨hb,ho,none⟩),.slice (some ⟨lb,lo,none⟩) lens.length lcap] w (InitPost w N F hb ho t c lens):=by
 have HB:=Lib.hid hB;have HDD:=Lib.hid hD;have HL:=Lib.hid hL;have HG:=Lib.hid hg;have HNN:=Lib.hid hNn;have H15:=Lib.hid h15
 obtain ⟨m0,hm0⟩:=hD.min
 have hm : w.cell? ⟨hb,ho,none⟩ = some (.int .i64 m0):=by rw [hB.cell];exact hm0
 obtain ⟨n,hn⟩ : ∃ n,lens.length = n:=⟨_,rfl⟩
 have HNL:=Lib.hid hn
 rw [hn] at hlen ⊢
 clear hB hD hL hg hNn h15 hm0 hn
 go_enter Tryz.func75,Tryz.ntmps75
 go_upto_if 38 with (fail)
 go_cut [] (fun wx => ∃ c1,Blk wx hb c1 t ∧ Same (fun k => ho ≤ k ∧ k < ho + 515) c c1 ∧ HD c1 ho ∧ c1[ho]? = some (.int .i64 0) ∧ Ext (fun k => k = hb) w wx)
 case first =>
  as_aux_lemma =>
   have hf:=HB.out.free
   rcases Nat.eq_zero_or_pos m0 with h0 | h0
   ·subst h0
    go_wp2_with fail
    go_meet
    case rel => exact ⟨c,HB.out,Same.refl _ _,HDD.out,by rw [← HB.out.cell];exact hm,Ext.refl _ _⟩
   ·have hq : ((m0 : Int) == 0) = false:=by simp;omega
    have HZ:=Lib.hid built139
    have hsz : ho + 515 ≤ c.size:=by
     obtain ⟨k,hk⟩:=HDD.out.msk
     have:=get_lt hk;omega
    have hth:=HB.out.there ho 515 hsz
    go_simp
    go_wp2_with (first
     | (with_reducible refine wpList_build_at rfl 139 _ rfl z139 HZ.out ?_)
     | (with_reducible refine wpList_store_mid rfl 139 _ _ rfl hb ho z139 rfl rfl (by rw [z139_size];exact hth) size139 z139_one ?_))
    go_meet
    case rel =>
     obtain ⟨c1,h1,h2,h3⟩:=HB.out.setCells z139l ho w c (by rw [z139_len];exact hsz)
     rw [z139_len] at h2
     exact ⟨c1,h1,h2,(HD.zero h3).1,(HD.zero h3).2,Ext.setCells (M:=fun k => k = hb) (fun _ => rfl) _ _ _ (Ext.refl _ _)⟩
 obtain ⟨w1,rfl⟩ : ∃ x : World,x = wc:=⟨_,rfl⟩
 obtain ⟨c1,hb1,hs1,hd1,hz1,he1⟩:=hcut
 have HB1:=Lib.hid hb1;have HS1:=Lib.hid hs1;have HD1:=Lib.hid hd1;have HZ1:=Lib.hid hz1;have HE1:=Lib.hid he1
 have hsz1:=he1.size
 have hbs1:=hb1.lt
 clear hb1 hs1 hd1 hz1 he1 hm
 obtain ⟨b5,hb5⟩ : ∃ x,w1.heap.size = x:=⟨_,rfl⟩
 have HB5:=Lib.hid hb5
 rw [hb5] at hsz1 hbs1
 go_upto_block 0 with (fail)
 clear hb5
 refine init_count b5 lb lo lcap n lens _ HNL.out hlen H15.out (fun j x hx => ((Ext.refl (fun _ => False) w1).alloc _).cellSome (fun e => e) (HE1.out.cellSome hlb (HL.out j x hx))) (by rw [← HB5.out];exact Blk.new w1 _ 172) (by omega) _ ?_
 intro u6 u7 u9 u44 u45 u46 u47 u48 u49 u50 u51 u52 u53 u54 u55 u56 u57 u58 u59 u60 u61 u62 u63 u64 u65 u66 u67 w2 h6 h7 hb2 he2
 as_aux_lemma =>
  subst h6 h7
  have he2' : Ext (fun k => k = b5) w1 w2:=((Ext.refl _ w1).alloc _).trans he2
  have HB2:=Lib.hid hb2;have HE2:=Lib.hid he2'
  clear hb2 he2 he2'
  have hb52 : b5 < w2.heap.size:=HB2.out.lt
  rcases Nat.eq_zero_or_pos (mxOf lens) with hmx0 | hmx0
  ·have HM:=Lib.hid hmx0
   have hq : ((mxOf lens : Int) == 0) = true:=by simp;omega
   clear hmx0
   go_wp2_with fail
   go_ret
   have hbk : Blk w2 hb c1 t:=HB1.out.ext HE2.out (by omega)
   have hmn : mnOf lens = 0:=by have:=(mnOf_le_mx lens).1;have:=HM.out;omega
   have hE:=HE1.out.trans' HE2.out (fun i hi e => by omega)
   refine ⟨rfl,c1,hbk,HS1.out,HD1.out,?_,hE⟩
   rw [hmn]
   exact HT.none hbk HD1.out HZ1.out (fun s => mx_zero HM.out s) hN hF
  have HGG : Hid (Pu.Good lens):=Lib.hid (by
   rcases HG.out with h | h
   ·exact h
   ·exfalso
    rcases mxOf_mem lens with h1 | h1
    ·omega
    ·obtain ⟨s,hs,he⟩:=List.getElem_of_mem h1
     have:=h s
     rw [len_eq hs] at this
     omega)
  have hmx15:=mxOf_le lens 15 H15.out
  obtain ⟨mx,hmx⟩ : ∃ x,mxOf lens = x:=⟨_,rfl⟩
  obtain ⟨mn,hmnx⟩ : ∃ x,mnOf lens = x:=⟨_,rfl⟩
  have HMX:=Lib.hid hmx;have HMN:=Lib.hid hmnx
  rw [hmx] at hmx0 hmx15 ⊢
  rw [hmnx]
  clear hmx hmnx
  have hmq : ((mx : Int) == 0) = false:=by simp;omega
  obtain ⟨b11,hb11⟩ : ∃ x,w2.heap.size = x:=⟨_,rfl⟩
  have HB11:=Lib.hid hb11
  rw [hb11] at hb52
  go_upto_block 2 with (fail)
  clear hb11
  refine init_first b5 b11 mx mn lens _ HGG.out HMX.out HMN.out (HB2.out.alloc _) (by rw [← HB11.out];exact Blk.new w2 _ 172) (by omega) _ ?_
  intro u10 u12 u71 u72 u73 u74 u75 u76 u77 u78 u79 u80 u81 u82 u83 u84 u85 w3 h10 hb3 he3
  as_aux_lemma =>
   subst h10
   have he3' : Ext (fun k => k = b11) w2 w3:=((Ext.refl _ w2).alloc _).trans he3
   have HB3:=Lib.hid hb3;have HE3:=Lib.hid he3'
   clear hb3 he3 he3'
   have hend:=HGG.out.end_
   rw [HMX.out] at hend
   obtain ⟨cd,hcd⟩ : ∃ x,first lens mx + cnt lens mx = x:=⟨_,rfl⟩
   have HCD:=Lib.hid hcd
   rw [hcd] at hend ⊢
   clear hcd
   have hq4:=hend.2
   clear hend
   go_upto_region 25 with (fail)
   go_cut [7,10,99] (fun s7 s10 s99 wx => s7 = .int .i64 mx ∧ s99 = .bool false ∧ w3 = wx)
   case first =>
    as_aux_lemma =>
     rcases hq4 with h | ⟨h1,h2⟩
     ·have hwp:=wrap_two_pow mx (by omega)
      rw [← h] at hwp
      clear h
      go_wp2_with fail
      go_meet
      case rel => exact ⟨rfl,rfl,rfl⟩
     ·subst h1 h2
      go_wp2_with fail
      go_meet
      case rel => exact ⟨rfl,rfl,rfl⟩
   obtain ⟨rfl,rfl,rfl⟩:=hcut
   clear hq4
   have hsz2:=HE2.out.size
   have hbk3 : Blk w3 hb c1 t:=(HB1.out.ext HE2.out (by omega)).ext HE3.out (by omega)
   have hcz : w3.cell? ⟨hb,ho,none⟩ = some (.int .i64 0):=by rw [hbk3.cell];exact HZ1.out
   have hfz:=hbk3.free
   have HB33:=Lib.hid hbk3
   clear hbk3
   go_upto_if 105 with (fail)
   obtain ⟨w4,hw4⟩ : ∃ x,w3.setCell ⟨hb,ho,none⟩ (.int .i64 (mn : Int)) = x:=⟨_,rfl⟩
   obtain ⟨f0,hf0⟩:=HD1.out.ch
   have HC4 : Hid (Blk w4 hb (c1.setIfInBounds ho (.int .i64 mn)) t):=Lib.hid (by rw [← hw4];exact HB33.out.set ho _)
   have HE4 : Hid (Ext (fun k => k = hb) w w4):=Lib.hid (by
    rw [← hw4]
    refine Ext.only ?_ _
    exact (HE1.out.trans' HE2.out (fun i hi e => by omega)).trans' HE3.out (fun i hi e => by omega))
   have HN4 : Hid (Blk w4 b11 (arr 16 (nxt lens 0)) 172):=Lib.hid (by
    rw [← hw4]
    exact HB3.out.setOther _ _ (by simp;omega))
   have HC0 : Hid (CH (c1.setIfInBounds ho (.int .i64 mn)) ho f0):=Lib.hid (hf0.setOther _ (by omega))
   have HM4 : Hid ((c1.setIfInBounds ho (.int .i64 mn))[ho]? = some (.int .i64 (mnOf lens))):=Lib.hid (by rw [set_eq _ (get_lt HZ1.out),HMN.out])
   rw [hw4]
   clear hw4 hf0 hcz hfz
   go_cut [] (fun wx => ∃ c3 ch Lb g,TB wx hb ho t b11 c c3 lens (512 - linkOf lens) ch (fun _ _ => 0) Lb g ∧ Blk wx b11 (arr 16 (nxt lens 0)) 172 ∧ Ext (fun k => k = hb) w wx)
   case first =>
    as_aux_lemma =>
     rcases Nat.lt_or_ge 9 mx with h9 | h9
     ·have hcm : ∃ k : Int,w4.cell? ⟨hb,ho + 514,none⟩ = some (.int .u32 k):=by
       obtain ⟨k,hk⟩:=HD1.out.msk
       exact ⟨k,by rw [HC4.out.cell,set_ne _ _ (by omega)];exact hk⟩
      obtain ⟨k514,hk514⟩:=hcm
      have hcl : ∃ a n k,w4.cell? ⟨hb,ho + 513,none⟩ = some (.slice a n k):=by
       obtain ⟨a,n,k,hk⟩:=HD1.out.lk
       exact ⟨a,n,k,by rw [HC4.out.cell,set_ne _ _ (by omega)];exact hk⟩
      obtain ⟨a513,n513,k513,hk513⟩:=hcl
      have hf4:=HC4.out.free
      have h9i : (9 : Int) < (mx : Int):=by omega
      have hwk:=wrap_two_pow (mx - 9) (by omega)
      obtain ⟨nk,hnk⟩ : ∃ x,2 ^ (mx - 9) = x:=⟨_,rfl⟩
      have hnk1 : 1 ≤ nk:=by rw [← hnk];exact Nat.two_pow_pos _
      have hnk2 : nk ≤ 64:=by rw [← hnk];exact Nat.le_trans (Nat.pow_le_pow_right (by omega) (show mx - 9 ≤ 6 by omega)) (by decide)
      rw [hnk] at hwk
      have hlk1:=linkOf_le HGG.out (by rw [HMX.out];exact h9)
      have hnx:=nxt_link (lens:=lens) (by rw [HMX.out];exact h9)
      obtain ⟨L0,hL0⟩ : ∃ x,linkOf lens = x:=⟨_,rfl⟩
      obtain ⟨x10,hx10⟩ : ∃ x,nxt lens 0 10 = x:=⟨_,rfl⟩
      have hx10l : x10 ≤ 65536:=by rw [← hx10];exact nxt_le HGG.out 0 10
      have hc10 : w4.cell? ⟨b11,10,none⟩ = some (.int .i64 x10):=by rw [HN4.out.cell,arr_get 16 _ 10 (by omega),hx10]
      rw [hx10,hL0] at hnx
      rw [hL0] at hlk1
      have hxd : (x10 : Int) / 2 = (L0 : Int):=by omega
      obtain ⟨nl,hnl⟩ : ∃ x,512 - L0 = x:=⟨_,rfl⟩
      have hnl2 : (512 : Int) - (L0 : Int) = (nl : Int):=by omega
      have hnl3 : 1 ≤ nl ∧ nl ≤ 512:=by omega
      have hne11 : ¬ b11 = hb:=by omega
      have hbl4 : hb < w4.heap.size:=HC4.out.lt
      have hbl5 : ¬ hb = w4.heap.size:=by omega
      have hmk:=run_make_row' (P:=Tryz.prog) 137 174 (.slice none 0 0) 24 Tryz.underlying137 Tryz.info174 rfl .i64 .i64 nl (by omega) (by omega)
      have HNK:=Lib.hid hnk;have HL0:=Lib.hid hL0;have HNL2:=Lib.hid hnl
      clear hnk hnx hL0 hx10 hnl
      obtain ⟨Lb,hLb⟩ : ∃ x,w4.heap.size = x:=⟨_,rfl⟩
      have HLB:=Lib.hid hLb
      have hlb11 : b11 < Lb:=by rw [← hLb];exact HN4.out.lt
      clear hLb
      go_simp
      go_upto_block 4 with (fail)
      rw [hwk,HLB.out]
      have hTB : TB (((w4.setCell ⟨hb,ho + 514,none⟩ (.int .u32 ((nk : Int) - 1))).setCell ⟨hb,ho + 513,none⟩ (.slice (some ⟨Lb,0,none⟩) nl nl)).alloc (.cells (madeCells #[Value.slice none 0 0] nl) 174)) hb ho t b11 c
        (((c1.setIfInBounds ho (.int .i64 mn)).setIfInBounds (ho + 514) (.int .u32 ((nk : Int) - 1))).setIfInBounds (ho + 513) (.slice (some ⟨Lb,0,none⟩) nl nl)) lens 0 f0 (fun _ _ => 0) Lb (fun _ => 0):=by
       obtain ⟨a,b,d,e513⟩:=HD1.out.lk
       obtain ⟨k5,e514⟩:=HD1.out.msk
       refine ⟨((HC4.out.set _ _).set _ _).alloc _,((HS1.out.set (by omega) _).set (by omega) _).set (by omega) _,?_,?_,?_,?_,fun _ => ⟨fun p h1 h2 => by omega,?_,?_,hlb11,⟨madeCells #[Value.slice none 0 0] nl,?_,?_,fun v hv => by omega⟩,fun v hv => by omega⟩⟩
       ·rw [set_ne _ _ (by omega),set_ne _ _ (by omega)];exact HM4.out
       ·exact (HC0.out.setOther _ (by omega)).setOther _ (by omega)
       ·exact ⟨_,_,_,set_eq _ (by simp;exact get_lt e513)⟩
       ·exact ⟨_,by rw [set_ne _ _ (by omega)];exact set_eq _ (by simp;exact get_lt e514)⟩
       ·rw [set_eq _ (by simp;exact get_lt e513),HL0.out,HNL2.out]
       ·rw [set_ne _ _ (by omega),set_eq _ (by simp;exact get_lt e514),HMX.out,HNK.out]
        congr 2;omega
       ·have:=Blk.new ((w4.setCell ⟨hb,ho + 514,none⟩ (.int .u32 ((nk : Int) - 1))).setCell ⟨hb,ho + 513,none⟩ (.slice (some ⟨Lb,0,none⟩) nl nl)) (madeCells #[Value.slice none 0 0] nl) 174
        have hz : ((w4.setCell ⟨hb,ho + 514,none⟩ (.int .u32 ((nk : Int) - 1))).setCell ⟨hb,ho + 513,none⟩ (.slice (some ⟨Lb,0,none⟩) nl nl)).heap.size = Lb:=by simp [World.setCell];exact HLB.out
        rw [hz] at this
        exact this
       ·rw [size_madeCells,HL0.out];exact HNL2.out.symm
      refine init_links hb ho nk L0 t b11 c _ lens f0 Lb (fun _ => 0) _ hTB HL0.out HGG.out (by rw [HMX.out];exact h9) (by rw [HMX.out];exact HNK.out) (by omega) _ ?_
      intro u15 u16 u17 u127 u128 u129 u130 u131 u132 u133 u134 u135 u136 u137 u138 u139 u140 u141 u142 u143 u144 u145 u146 u147 u148 u149 u150 u151 u152 u153 u154 u155 u156 u157 u158 u159 u160 u161 u162 u163 u164 u165 u166 u167 w5 h5 he5
      as_aux_lemma =>
       obtain ⟨c5,ch5,g5,ht5⟩:=h5
       have HT5:=Lib.hid ht5;have HE5:=Lib.hid he5
       clear ht5 he5
       go_wp2_with fail
       go_meet
       case rel =>
        have hE5 : Ext (fun k => k = hb ∨ k = Lb) w4 w5:=((((Ext.refl (fun k => k = hb ∨ k = Lb) w4).setCell (p:=⟨hb,ho + 514,none⟩) (fun _ => .inl rfl) _).setCell (p:=⟨hb,ho + 513,none⟩) (fun _ => .inl rfl) _).alloc _).trans HE5.out
        refine ⟨c5,ch5,Lb,g5,HT5.out,HN4.out.ext hE5 (by omega),HE4.out.trans' hE5 (fun i hi e => ?_)⟩
        have:=HE1.out.size
        omega
     ·go_wp2_with fail
      go_meet
      case rel =>
       obtain ⟨a,b,d,e513⟩:=HD1.out.lk
       obtain ⟨k5,e514⟩:=HD1.out.msk
       refine ⟨_,f0,0,fun _ => 0,⟨HC4.out,HS1.out.set (by omega) _,HM4.out,HC0.out,⟨a,b,d,by rw [set_ne _ _ (by omega)];exact e513⟩,⟨k5,by rw [set_ne _ _ (by omega)];exact e514⟩,fun h => ?_⟩,HN4.out,HE4.out⟩
       rw [HMX.out] at h;omega
   as_aux_lemma =>
    obtain ⟨w6,rfl⟩ : ∃ x : World,x = wc:=⟨_,rfl⟩
    obtain ⟨c6,ch6,Lb,g6,ht6,hn6,he6⟩:=hcut
    have HT6:=Lib.hid ht6;have HN6:=Lib.hid hn6;have HE6:=Lib.hid he6
    clear ht6 hn6 he6
    go_upto_block 6 with (fail)
    refine init_codes hb ho lb lo lcap n t b11 c c6 lens ch6 Lb g6 _ HT6.out HN6.out HNL.out hlen HGG.out (fun j x hx => HE6.out.cellSome hlb (HL.out j x hx)) (by omega) hlb (by omega) _ ?_
    intro u18 u19 u20 u21 u22 u23 u24 u25 u26 u27 u170 u171 u172 u173 u174 u175 u176 u177 u178 u179 u180 u181 u182 u183 u184 u185 u186 u187 u188 u189 u190 u191 u192 u193 u194 u195 u196 u197 u198 u199 u200 u201 u202 u203 u204 u205 u206 u207 u208 u209 u210 u211 u212 u213 u214 u215 u216 u217 u218 u219 u220 u221 u222 u223 u224 u225 u226 u227 u228 u229 u230 u231 u232 u233 u234 u235 u236 u237 u238 u239 u240 u241 u242 u243 u244 u245 u246 u247 u248 u249 u250 u251 u252 u253 u254 u255 u256 u257 u258 u259 u260 u261 u262 u263 u264 u265 u266 u267 u268 u269 u270 u271 u272 u273 u274 u275 u276 u277 w7 h7 he7
    obtain ⟨c7,ch7,lk7,ht7,hto7⟩:=h7
    have HT7:=Lib.hid ht7;have HTO7:=Lib.hid hto7;have HE7:=Lib.hid he7
    clear ht7 hto7 he7
    go_wp2_with fail
    go_ret
    refine ⟨rfl,c7,HT7.out.blk,HT7.out.same,HT7.out.hd,?_,HE6.out.trans' HE7.out (fun i hi e => ?_)⟩
    ·exact HT.made HT7.out (by rw [HNL.out];exact HTO7.out) HGG.out hN (fun k hk => ⟨fun h => by have:=HNN.out k h;omega,by omega⟩) hF
    ·rcases e with e | e
     ·exact e
     ·omega
end Go.Proofs.YthpapbilhjobnaaGreatDoor
