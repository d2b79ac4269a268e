/-
  Parts of the proofs over the reader and the encoder of streams, joined: Df Zl En Lw. Conditions: each theorem names its own.
-/
import Derived.Test.YthpapbilhjobnaaGreatDoorM15
import Derived.Test.YthpapbilhjobnaaGreatDoorM21
import Derived.Deep.LoopGhost
import Derived.Deep.DeepCutAuto
set_option linter.unusedVariables false
set_option linter.unusedSimpArgs false
namespace Go.Proofs.YthpapbilhjobnaaGreatDoor
open Go.RowKit Pu
theorem length_headBits_le {lit dist lens : List Nat} {nc : Nat} {rs : List Run} (h : HeadOf lit dist lens nc rs) : (headBits lit dist lens nc rs).length ≤ 7100:=by
 have h1:=length_runsBits_le lens (fun n hn => by have:=h.le n hn;omega) rs (fun r hr => by
  obtain ⟨q,hq⟩:=runsFit_mem h.fit r hr;exact (Run.fits_le hq).2.2.2.1)
 have h2:=runsFit_le h.fit
 have h3:=h.hnl;have h4:=h.hnd;have h5:=h.hnc
 have h6:=length_ordBits lens (ord.take nc)
 rw [List.length_take] at h6
 unfold headBits
 simp only [List.length_append,length_lsb]
 omega
theorem one_U8 (l : List UInt8) : ∀ u ∈ l.map U8,u.oneCell' = true:=by intro u hu;obtain ⟨y,_,rfl⟩:=List.mem_map.1 hu;rfl
set_option maxHeartbeats 8000000 in
set_option maxRecDepth 100000 in
theorem deflate_any (dv fv wv : Value) (data full : List UInt8) (zs : List Int) (w : World) (hd : Rd w dv (data.map U8)) (hf : Rd w fv (full.map U8)) (hw : Rd w wv (zs.map (.int .i64))) (hz : zs.length ≤ 1099511627776)
  (hsz : data.length + full.length ≤ 2097152) (hwb : ∀ b,wv.ownBlock = some b → b < w.heap.size) :
  Calls Tryz.prog 21 #[dv,fv,wv] w (DeflPost w (full.drop (full.length - 32768)) data):=by
 obtain ⟨i0,hi0,hz0,hz1,hz2⟩:=info_parts Tryz.info5
 have HD:=Lib.hid hd;have HF:=Lib.hid hf;have HW:=Lib.hid hw
 obtain ⟨da,dcap,rfl⟩:=hd.len
 obtain ⟨fa,fcap,rfl⟩:=hf.len
 obtain ⟨wa,wcap,rfl⟩:=hw.len
 have HWB:=Lib.hid hwb
 clear hwb
 obtain ⟨nw,hnw⟩ : ∃ n,(zs.map (Value.int .i64)).length = n:=⟨_,rfl⟩
 rw [hnw] at HW HWB ⊢
 clear hnw
 clear hd hf hw
 have hlm : (data.map U8).length = data.length:=by simp
 have hlm2 : (full.map U8).length = full.length:=by simp
 rw [hlm] at HD ⊢
 rw [hlm2] at HF ⊢
 clear hlm hlm2
 obtain ⟨nd,hnd⟩ : ∃ n,data.length = n:=⟨_,rfl⟩
 obtain ⟨nf,hnf⟩ : ∃ n,full.length = n:=⟨_,rfl⟩
 obtain ⟨dict,hdict⟩ : ∃ d,full.drop (nf - 32768) = d:=⟨_,rfl⟩
 have hdl0 : dict.length = nf - (nf - 32768):=by rw [← hdict,List.length_drop,hnf]
 rw [hnd] at hsz HD ⊢
 rw [hnf] at hsz HF ⊢
 rw [hdict]
 obtain ⟨ni,hni⟩ : ∃ n,dict.length = n:=⟨_,rfl⟩
 rw [hni] at hdl0
 have hdl : ni ≤ 32768:=by omega
 have hsz2 : nd + ni ≤ 2097152:=by omega
 have HND:=Lib.hid hnd;have HNI:=Lib.hid hni;have HNF:=Lib.hid hnf;have HDI:=Lib.hid hdict
 have HDL:=Lib.hid hdl0
 have HSZ2:=Lib.hid hsz2
 have HNFB : Hid (nf ≤ 2097152):=Lib.hid (by omega)
 clear hnd hni hnf hdict hdl0 hsz2 hsz
 go_enter Tryz.func21,Tryz.ntmps21
 go_upto_if 19 with (fail)
 go_cut [1] (fun x wx => w = wx ∧ ∃ ia icap,x = .slice ia ni icap ∧ Hid (Rd w (.slice ia ni icap) (dict.map U8)))
 case first =>
  rcases Nat.lt_or_ge 32768 nf with h | h
  ·have hb1 : decide ((32768 : Int) < (nf : Int)) = true:=by simp;omega
   have hbig : (32768 : Int) < (nf : Int):=by omega
   have hrd:=HF.out
   obtain ⟨cap,hc1,hc2,hrd⟩:=hrd
   rcases hrd with ⟨h1,_⟩ | ⟨b,o,h1,hcl⟩
   ·simp only [Value.slice.injEq] at h1;omega
   ·rw [List.length_map,HNF.out] at h1 hc1
    simp only [Value.slice.injEq,true_and] at h1
    obtain ⟨rfl,rfl⟩:=h1
    obtain ⟨k,hk⟩ : ∃ k,nf - 32768 = k:=⟨_,rfl⟩
    have hne : ¬ fcap = k:=by omega
    have hk1 : (nf : Int) - 32768 = (k : Int):=by omega
    have hk2 : (k : Int) ≤ (nf : Int):=by omega
    have hk3 : k ≤ nf:=by omega
    have hk4 : k ≤ fcap:=by omega
    have HRD : Hid (Rd w (.slice (some ⟨b,o + k,none⟩) ni (fcap - k)) (dict.map U8)):=Lib.hid (by
     refine ⟨fcap - k,by rw [List.length_map,HNI.out];have:=HDL.out;omega,by omega,.inr ⟨b,o + k,by rw [List.length_map,HNI.out],fun j x hx => ?_⟩⟩
     have:=hcl (k + j) x (by rw [← HDI.out,List.map_drop,List.getElem?_drop,hk] at hx;exact hx)
     rw [← Nat.add_assoc] at this
     exact this)
    have hni : ni = nf - k:=by have:=HDL.out;omega
    have HNI2:=Lib.hid hni
    have HH:=Lib.hid h
    have hnb:=HNFB.out
    clear hcl hni hk h hbig
    go_simp
    go_wp2_with fail
    go_meet
    case rel => exact ⟨rfl,_,_,by rw [HNI2.out],HRD.out⟩
  ·have hb1 : decide ((32768 : Int) < (nf : Int)) = false:=by simp;omega
   have hni : nf = ni:=by have:=HDL.out;omega
   have HNI2:=Lib.hid hni
   have HH:=Lib.hid h
   clear hni h
   go_simp
   go_wp2_with fail
   go_meet
   case rel =>
    refine ⟨rfl,fa,fcap,by rw [HNI2.out],Lib.hid ?_⟩
    have:=HF.out
    rw [HNI2.out] at this
    rw [← HDI.out,show nf - 32768 = 0 by have:=HH.out;omega,List.drop_zero]
    exact this
 obtain ⟨rfl,ia,icap,rfl,HI⟩:=hcut
 have hsz:=HSZ2.out
 go_upto_region 5 with (fail)
 obtain ⟨C0,hC0⟩ : ∃ n,w.heap.size = n:=⟨_,rfl⟩
 obtain ⟨W,hW⟩ : ∃ n,w.heap.size + 1 = n:=⟨_,rfl⟩
 obtain ⟨w1,hw1⟩ : ∃ w1 : World,(w.alloc (Obj.cells #[Value.slice wa nw wcap,Value.int IntKind.i64 0] 64)).alloc (Obj.cells #[Value.slice none 0 0,Value.int IntKind.i64 0] 67) = w1:=⟨_,rfl⟩
 have hbC : Blk w1 C0 #[Value.slice wa nw wcap,Value.int IntKind.i64 0] 64:=by rw [← hw1,← hC0];exact (Blk.new w _ _).alloc _
 have hbW : Blk w1 W #[Value.slice none 0 0,Value.int IntKind.i64 0] 67:=by rw [← hw1,← hW];exact Blk.new1 w _ _ _
 have he1 : Ext (fun _ => False) w w1:=by rw [← hw1];exact ((Ext.refl _ w).alloc _).alloc _
 have hs1 : w1.heap.size = w.heap.size + 2:=by rw [← hw1];simp
 rw [hw1,hW,hC0]
 have HBC:=Lib.hid hbC;have HBW:=Lib.hid hbW;have HE1:=Lib.hid he1;have HS1:=Lib.hid hs1;have HC0:=Lib.hid hC0;have HWW:=Lib.hid hW
 clear hbC hbW he1 hs1 hC0 hW hw1
 have HI1:=Lib.hid ((HI.out.ext HE1.out (fun _ _ h => h)).ext ((Ext.refl (fun _ => False) w1).alloc (.cells #[] 5)) (fun _ _ h => h))
 go_wp2_with (first
  | (refine wpList_append_rd _ rfl (.tmp 30) (.tmp 31) 22 rfl w1.heap.size 5 i0 (.int .u8 0) 1 Tryz.underlying22 hi0 hz0 hz1 hz2 rfl _ [] rfl ?a1 _ (dict.map U8) rfl HI1.out ?a2 ?a3 ?a4 ?a5 ?_
     case a1 => exact owns_empty w1 5
     case a2 => exact one_U8 _
     case a3 => (unfold maxLen;simp [HNI.out];omega)
     case a4 => (simp [HNI.out];omega)
     case a5 => simp
     intro v2 w2 hap
     have HD2:=Lib.hid ((HD.out.ext HE1.out (fun _ _ h => h)).ext (((Ext.refl (fun _ => False) w1).alloc (.cells #[] 5)).trans' hap.grown (fun i hi e => by have e' : some w1.heap.size = some i:=e;simp only [Option.some.injEq] at e';omega)) (fun _ _ h => h))
     obtain ⟨g2,c2,hv2,hc2,_⟩:=hap.slice (by intro h;cases h)
     have hl2 : (([] : List Value) ++ dict.map U8).length = ni:=by simp [HNI.out]
     have ho2:=hap.own
     rw [hl2] at hv2 hc2 ho2
     subst hv2
     have HO2:=Lib.hid ho2
     have HE2:=Lib.hid (((Ext.refl (fun _ => False) w1).alloc (.cells #[] 5)).trans' hap.grown (fun i hi e => by have e' : some w1.heap.size = some i:=e;simp only [Option.some.injEq] at e';omega))
     clear hap hl2 ho2)
  | (refine wpList_append_rd _ rfl (.tmp 32) (.tmp 33) 22 rfl w1.heap.size 5 i0 (.int .u8 0) 1 Tryz.underlying22 hi0 hz0 hz1 hz2 rfl (.slice (some ⟨g2,0,none⟩) ni c2) (dict.map U8) rfl ?b1 _ (data.map U8) rfl HD2.out ?b2 ?b3 ?b4 ?b5 ?_
     case b1 => (rw [List.length_map,HNI.out];exact HO2.out)
     case b2 => exact one_U8 _
     case b3 => (unfold maxLen;simp [HNI.out,HND.out];omega)
     case b4 => (simp [HNI.out,HND.out];omega)
     case b5 => exact HE2.out.size
     intro v3 w3 hap
     obtain ⟨g3,c3,hv3,hc3,hcell3⟩:=hap.slice (by intro h;cases h)
     have hl3 : (dict.map U8 ++ data.map U8).length = ni + nd:=by simp [HNI.out,HND.out]
     rw [hl3] at hv3 hc3
     have hge:=hap.ge
     have HCAP3 : Hid (c3 ≤ maxLen):=Lib.hid (by
      have ho:=hap.own
      rw [hv3] at ho
      rcases ho.2 with ⟨h,_⟩ | ⟨g,cap,cur,h,_,_,_,hc,_⟩
      ·cases h
      ·simp only [Value.slice.injEq] at h
       rw [h.2.2];exact hc)
     subst hv3
     have HG3:=Lib.hid (hge g3 rfl)
     have HC3:=Lib.hid hcell3
     have HE3:=Lib.hid (HE2.out.trans' hap.grown (fun i hi e => by have e' : some g2 = some i:=e;simp only [Option.some.injEq] at e';have:=(HO2.out.lt g2 rfl).1;omega))
     clear hap hl3 hcell3 hge))
 obtain ⟨A,hA⟩ : ∃ A,dict ++ data = A:=⟨_,rfl⟩
 obtain ⟨N,hN⟩ : ∃ N,ni + nd = N:=⟨_,rfl⟩
 have hAl : A.length = N:=by rw [← hA,List.length_append,HNI.out,HND.out];exact hN
 have hAc : ∀ j x,(A.map U8)[j]? = some x → w3.cell? ⟨g3,j,none⟩ = some x:=by rw [← hA,List.map_append];exact HC3.out
 have hNl : N ≤ 2097152:=by omega
 have hiN : ni ≤ N:=by omega
 rw [hN] at hc3 ⊢
 have HA:=Lib.hid hA;have HN:=Lib.hid hN;have HAL:=Lib.hid hAl;have HAC:=Lib.hid hAc
 clear hA hN hAl hAc HC3 HE2 HO2 HD2 HI1 hsz
 have HST : Hid (DF w A ni g3 W ni C0 (.slice wa nw wcap) 0 [] (.slice none 0 0) (mu N ni 0 false) w3):=Lib.hid (by
  have hs:=HS1.out
  have hc:=HC0.out
  have hw':=HWW.out
  have hg:=HG3.out
  have hm:=mu_le (N:=N) (i:=ni) (at_:=0) (f:=false) (by omega)
  have he:=HE1.out.trans HE3.out
  have hbC:=HBC.out.ext HE3.out (fun h => h)
  refine ⟨Nat.le_refl _,by rw [HAL.out];omega,.none,⟨HBW.out.ext HE3.out (fun h => h),⟨[],World.ownsRow_nil _ _ _ _,⟨by simp,by simp,by simp [bitsOf]⟩⟩,fun e => by cases e⟩,(fun b e => by cases e),
   ⟨hbC,⟨zs,hz,HW.out.ext he (fun _ _ h => h)⟩,fun e => by have:=HWB.out _ e;omega⟩,⟨by omega,by omega,by omega⟩,HWB.out,HAC.out,hg.2,⟨by omega,by omega,(fun e => by cases e),?_⟩,he,by omega,by rw [HAL.out];simp only [List.length_nil];omega,.inr (by rw [HAL.out])⟩
  rintro (e | e)
  ·omega
  ·cases e)
 obtain ⟨m0,hm0⟩ : ∃ m,mu N ni 0 false = m:=⟨_,rfl⟩
 rw [hm0] at HST
 clear hm0
 go_loopg [7,10] m0 (fun k s7 s10 wr => ∃ C lv at_ i L v,s7 = .pointer (some ⟨C,0,none⟩) ∧ s10 = .int .i64 (i : Nat) ∧ DF w A ni g3 W i C lv at_ L v k wr)
 case atStart => exact ⟨C0,_,0,ni,[],_,rfl,rfl,HST.out⟩
 case round =>
  obtain ⟨C,lv,at0,i,L,v,rfl,rfl,hdf⟩:=hrel
  obtain ⟨wo,rfl⟩ : ∃ wo : World,wo = wr:=⟨_,rfl⟩
  have HDF:=Lib.hid hdf
  have hi1:=hdf.lo
  have hi2:=hdf.hi
  rw [HAL.out] at hi2
  have hat:=hdf.small
  clear hdf HST
  have hg1 : (0 : Int) ≤ (N : Int) - (i : Int):=by omega
  go_upto_region 7 with (fail)
  go_cut [11] (fun x wx => wo = wx ∧ ∃ n : Nat,x = .int .i64 n ∧ n ≤ N - i ∧ n ≤ 65535 ∧ (n < 65535 → n = N - i))
  case first =>
   rcases Nat.lt_or_ge 65535 (N - i) with h | h
   ·have h1 : (65535 : Int) < (N : Int) - (i : Int):=by omega
    have h2 : ¬ ((N : Int) - (i : Int) ≤ 65535):=by omega
    have h3 : ¬ ((N : Int) - (i : Int) < 65535):=by omega
    go_wp2_with fail
    go_meet
    case rel => exact ⟨rfl,65535,by go_num,by omega,by omega,by omega⟩
   ·have h2 : ((N : Int) - (i : Int) ≤ 65535):=by omega
    go_wp2_with fail
    go_meet
    case rel => exact ⟨rfl,N - i,by go_num,by omega,by omega,by omega⟩
  obtain ⟨rfl,n0,rfl,hn1,hn2,hn3⟩:=hcut
  go_wp2_with fail
  refine (next_at _ 3 rfl C lv at0 wo HDF.out.cho (by omega) (by omega) (by omega)).mono ?_
  rintro e w4 ⟨r1,hr1,rfl,hch4,hx4,hem4⟩
  have HC4:=Lib.hid hch4;have HX4:=Lib.hid hx4;have HM4:=Lib.hid hem4
  clear hch4 hx4 hem4
  go_upto_if 44 with (fail)
  go_cut [11] (fun x wx => ∃ n at4 : Nat,x = .int .i64 n ∧ n ≤ N - i ∧ n ≤ 65535 ∧ (r1 = 0 → n = n0) ∧ at0 + 1 ≤ at4 ∧ at4 ≤ at0 + 2 ∧ (r1 = 0 → at4 = at0 + 1) ∧ Cho wx C lv at4 ∧ Ext (CM C) wo wx)
  case first =>
   rcases Nat.lt_or_ge 0 r1 with h | h
   rotate_left
   ·have hb : decide ((0 : Int) < (r1 : Int)) = false:=by simp;omega
    have hb' : ¬ (0 < r1):=by omega
    have hb'' : ¬ ((0 : Int) < (r1 : Int)):=by omega
    go_simp
    go_wp2_with fail
    go_meet
    case rel => exact ⟨n0,at0 + 1,rfl,hn1,hn2,fun _ => rfl,by omega,by omega,fun _ => rfl,HC4.out,HX4.out⟩
   ·have hb : decide (0 < r1) = true:=by simp;omega
    have hb' : decide ((0 : Int) < (r1 : Int)) = true:=by simp;omega
    go_simp
    go_wp2_with fail
    refine (next_at _ 200 rfl C lv (at0 + 1) w4 HC4.out (by omega) (by omega) (by omega)).mono ?_
    rintro e w5 ⟨r2,hr2,rfl,hch5,hx5,hem5⟩
    have HC5:=Lib.hid hch5;have HX5:=Lib.hid hx5
    clear hch5 hx5 hem5
    rcases Nat.lt_or_ge r2 n0 with hm | hm
    ·have m1 : (r2 : Int) < (n0 : Int):=by omega
     have m2 : ¬ ((n0 : Int) ≤ (r2 : Int)):=by omega
     have m3 : ¬ ((n0 : Int) < (r2 : Int)):=by omega
     go_wp2_with fail
     go_meet
     case rel => exact ⟨r2,at0 + 2,rfl,by omega,by omega,by omega,by omega,by omega,by omega,HC5.out,HX4.out.trans HX5.out⟩
    ·have m1 : (n0 : Int) ≤ (r2 : Int):=by omega
     go_wp2_with fail
     go_meet
     case rel => exact ⟨n0,at0 + 2,rfl,by omega,by omega,by omega,by omega,by omega,by omega,HC5.out,HX4.out.trans HX5.out⟩
  obtain ⟨n,at4,rfl,hn4,hn5,hn6,ha4,ha4',ha4'',hch,hx⟩:=hcut
  obtain ⟨w5,rfl⟩ : ∃ w5 : World,w5 = wc:=⟨_,rfl⟩
  have HC5:=Lib.hid hch;have HX5:=Lib.hid hx
  have HR1 : Hid (r1 = 0 → n = n0 ∧ at4 = at0 + 1):=Lib.hid fun h => ⟨hn6 h,ha4'' h⟩
  clear hch hx hn6 ha4'' HC4 HX4
  go_upto_region 11 with (fail)
  go_cut [59] (fun b wx => ∃ (bb : Bool) (at5 : Nat),b = .bool bb ∧ (bb = true → i + n = N) ∧ (r1 = 0 → at4 = 1 → i + n = N → lv = .slice none 0 0 → bb = true) ∧ at4 ≤ at5 ∧ at5 ≤ at4 + 1 ∧ Cho wx C lv at5 ∧ Ext (CM C) wo wx)
  case first =>
   rcases Nat.lt_or_ge (i + n) N with h | h
   ·have hb : ((i : Int) + (n : Int) == (N : Int)) = false:=by simp;omega
    go_wp2_with fail
    go_meet
    case rel => exact ⟨false,at4,rfl,by simp,by omega,by omega,by omega,HC5.out,HX5.out⟩
   ·have hb : ((i : Int) + (n : Int) == (N : Int)) = true:=by simp;omega
    go_wp2_with fail
    refine (next_at _ 4 rfl C lv at4 w5 HC5.out (by omega) (by omega) (by omega)).mono ?_
    rintro e w6 ⟨r3,hr3,rfl,hch6,hx6,hem6⟩
    have HC6:=Lib.hid hch6;have HX6:=Lib.hid hx6;have HM6:=Lib.hid hem6
    clear hch6 hx6 hem6
    go_wp2_with fail
    go_meet
    case rel =>
     refine ⟨decide (0 < r3),at4 + 1,by simp,fun _ => by omega,fun _ h1 _ h3 => ?_,by omega,by omega,HC6.out,HX5.out.trans HX6.out⟩
     have:=HM6.out ⟨none,0,h3⟩
     rw [h1] at this
     simp [this]
  obtain ⟨bb,at5,rfl,hbb,hfr,ha5,ha5',hch,hx⟩:=hcut
  obtain ⟨w6,rfl⟩ : ∃ w6 : World,w6 = wc:=⟨_,rfl⟩
  have HC6:=Lib.hid hch;have HX6:=Lib.hid hx;have HBB:=Lib.hid hbb;have HFR:=Lib.hid hfr
  clear hch hx hbb hfr HC5 HX5
  go_upto_if 59 with (fail)
  go_cut [12] (fun x wx => w6 = wx ∧ x = .int .i64 (if bb then 1 else 0 : Nat))
  case first =>
   cases bb
   all_goals
    go_wp2_with fail
    go_meet
    case rel => exact ⟨rfl,rfl⟩
  obtain ⟨rfl,rfl⟩:=hcut
  have HBASE : Hid (BB wo W C lv v):=Lib.hid ⟨HDF.out.wmC,HDF.out.wmL,HDF.out.cho.blk.lt⟩
  have HK6 : Hid (BK wo W C lv v at5 L v w6):=Lib.hid ((BK.start HDF.out.wrt HDF.out.cho).choose HBASE.out HC6.out HX6.out)
  have hLl:=HDF.out.bits
  rw [HAL.out] at hLl
  have HLL:=Lib.hid hLl
  have hL0 : L.length ≤ 10000000000:=by omega
  clear HC6 HX6 hLl
  obtain ⟨lst,hlst⟩ : ∃ l : Nat,(if bb then 1 else 0) = l:=⟨_,rfl⟩
  have hlst1 : lst ≤ 1:=by rw [← hlst];split <;> omega
  have HLB : Hid ((lst % 2 == 1) = bb):=Lib.hid (by rw [← hlst];cases bb <;> rfl)
  have HLS : Hid (lst = 1 ↔ bb = true):=Lib.hid (by rw [← hlst];cases bb <;> simp)
  rw [hlst]
  clear hlst
  go_wp2_with fail
  refine (bit_any W L v lst w6 HK6.out.wr (by omega) (by omega)).mono ?_
  rintro e w7 ⟨rfl,hwr⟩
  rw [HLB.out] at hwr
  obtain ⟨v7,hk⟩:=HK6.out.write HBASE.out hwr
  have HK7:=Lib.hid hk
  clear hwr hk HK6
  go_wp2_with fail
  refine (next_at _ 3 rfl C lv at5 w7 HK7.out.cho (by omega) (by omega) (by omega)).mono ?_
  rintro e w8 ⟨kd,hkd,rfl,hch,hx,_⟩
  have HK8:=Lib.hid (HK7.out.choose HBASE.out hch hx)
  clear hch hx HK7
  go_wp2_with fail
  refine (bits_any W _ v7 kd 2 w8 HK8.out.wr (by simp only [List.length_append,List.length_singleton];omega) (by omega) (by omega)).mono ?_
  rintro e w9 ⟨rfl,hwr⟩
  obtain ⟨v9,hk⟩:=HK8.out.write HBASE.out hwr
  have HK9:=Lib.hid hk
  clear hwr hk HK8
  have htl : (A.take (i + n)).length = i + n:=by rw [List.length_take,HAL.out];omega
  have hWCab : ¬ WC W C v g3:=by
   have h:=HDF.out.ne
   rintro (e | e)
   ·exact h.2.2.2 e
   ·exact h.1 e
  have hcl9 : ∀ j x,(A.map U8)[j]? = some x → w9.cell? ⟨g3,j,none⟩ = some x:=fun j x hx => HK9.out.keep hWCab (HDF.out.cells j x hx)
  have htk:=tokens_val g3 0 c3 C i (at5 + 1) lv (A.take (i + n)) w9 (by rw [htl];omega) (by rw [htl];omega) (fun j x hx => by
   rw [Nat.zero_add]
   refine hcl9 j x ?_
   rw [List.map_take,List.getElem?_take] at hx
   split at hx
   ·exact hx
   ·simp at hx) HDF.out.ne.1 HK9.out.cho (by omega) (fun b hb => (HK9.out.wm HBASE.out).2 b hb |>.1) g3 (by have:=HDF.out.lt;have:=HK9.out.ext.size;omega)
  rw [htl] at htk
  have HTK:=Lib.hid htk
  have HTL:=Lib.hid htl
  have HAB:=Lib.hid hWCab
  have HCL9:=Lib.hid hcl9
  clear htk htl hWCab hcl9
  have hcap3 : i + n ≤ c3:=by omega
  have hcap4 : (i : Int) + (n : Int) ≤ (c3 : Int):=by omega
  go_wp2_with fail
  refine HTK.out.mono ?_
  rintro e w10 ⟨ta,tb,tcap,toks,at6,rfl,hto,hx,ha6,ha6',hch,hta,htc,htb,htb2⟩
  rw [HTL.out] at hto ha6'
  have HK10:=Lib.hid (HK9.out.choose HBASE.out hch hx)
  have hfit:=toksFit_take hto
  have HTA:=Lib.hid hta;have HTC:=Lib.hid htc;have HFIT:=Lib.hid hfit
  have HTO : Hid (∀ t ∈ toks,Tok.ok t):=Lib.hid (toksFit_okT hto)
  have hnt : toks.length ≤ n:=by have:=toksFit_le hfit;omega
  have HTB : Hid (¬ WM W v9 tb ∧ tb ≠ C ∧ tb < w10.heap.size):=Lib.hid (by
   have hC:=HDF.out.cho.blk.lt
   have hs9:=HK9.out.ext.size
   refine ⟨?_,?_,htb2⟩
   ·rcases htb with h | h
    ·rw [h];exact HK9.out.off HAB.out HDF.out.lt
    ·intro e;have:=HK9.out.wr.own_lt e;omega
   ·rcases htb with h | h
    ·rw [h];exact HDF.out.ne.1
    ·omega)
  clear hx hch hta htc hto hfit htb htb2 HK9 HTK
  obtain ⟨nt,hnt'⟩ : ∃ n,toks.length = n:=⟨_,rfl⟩
  have HNT:=Lib.hid hnt'
  rw [hnt'] at hnt ⊢
  clear hnt'
  have hat6 : at6 ≤ 300000:=by omega
  have hLl2 : (L ++ [bb] ++ lsb kd 2).length = L.length + 3:=by simp [length_lsb]
  have HLl2:=Lib.hid hLl2
  clear hLl2
  go_upto_block 2 with (fail)
  go_cut [] (fun wx => ∃ B v' at7,IsBlock A (L.length + 1) i (i + n) B ∧ at6 ≤ at7 ∧ at7 ≤ 400000 ∧ BK wo W C lv v at7 (L ++ bb::B) v' wx ∧ B.length ≤ 8200 + 72 * n)
  case first =>
   rcases (show kd ≤ 0 ∨ (1 ≤ kd ∧ kd ≤ 1) ∨ 2 ≤ kd by omega) with h | ⟨h,h'⟩ | h
   ·have hb1 : ((kd : Int) == 0) = true:=by simp;omega
    have HKD : Hid (kd = 0):=Lib.hid (by omega)
    go_wp2_with fail
    refine (align_any W _ v9 w10 HK10.out.wr (by rw [HLl2.out];omega)).mono ?_
    rintro e w11 ⟨rfl,k,hk8,hmod,hwr⟩
    obtain ⟨v11,hk⟩:=HK10.out.write HBASE.out hwr
    have HK11:=Lib.hid hk
    have HMOD:=Lib.hid hmod
    clear hwr hk hmod
    go_wp2_with fail
    refine (bits_any W _ v11 n 16 w11 HK11.out.wr (by rw [List.length_append,HLl2.out,List.length_replicate];omega) (by omega) (by omega)).mono ?_
    rintro e w12 ⟨rfl,hwr⟩
    obtain ⟨v12,hk⟩:=HK11.out.write HBASE.out hwr
    have HK12:=Lib.hid hk
    clear hwr hk HK11
    go_wp2_with fail
    rw [xor_all n hn5]
    refine (bits_any W _ v12 (65535 - n) 16 w12 HK12.out.wr (by rw [List.length_append,List.length_append,HLl2.out,List.length_replicate,length_lsb];omega) (by omega) (by omega)).mono ?_
    rintro e w13 ⟨rfl,hwr⟩
    obtain ⟨v13,hk⟩:=HK12.out.write HBASE.out hwr
    have HK13:=Lib.hid hk
    clear hwr hk HK12
    obtain ⟨L13,hL13⟩ : ∃ X,L ++ [bb] ++ lsb kd 2 ++ List.replicate k false ++ lsb n 16 ++ lsb (65535 - n) 16 = X:=⟨_,rfl⟩
    have hlen13 : L13.length = L.length + 35 + k:=by rw [← hL13];simp only [List.length_append,length_lsb,List.length_replicate,List.length_singleton];omega
    have h8 : L13.length % 8 = 0:=by have:=HMOD.out;rw [HLl2.out] at this;omega
    rw [hL13] at HK13
    obtain ⟨bs,ho13,hp13⟩:=HK13.out.wr.row
    have hbl:=hp13.1
    obtain ⟨m13,hm13⟩ : ∃ m,bs.length = m:=⟨_,rfl⟩
    rw [hm13] at ho13 hbl
    obtain ⟨g13,c13,rfl,hc13⟩:=owns_slice ho13 (by omega)
    have hcW : w13.cell? ⟨W,0,none⟩ = some (.slice (some ⟨g13,0,none⟩) m13 c13):=by rw [HK13.out.wr.blk.cell];rfl
    have hfW:=HK13.out.wr.blk.free
    have hWlt:=HK13.out.wr.blk.lt
    have hgW : g13 ≠ W:=fun e => HK13.out.wr.ne (by rw [← e];rfl)
    obtain ⟨ys,hys⟩ : ∃ ys,(A.take (i + n)).drop i = ys:=⟨_,rfl⟩
    have hyl : ys.length = n:=by rw [← hys,List.length_drop,HTL.out];omega
    have hcy : ∀ j x,(ys.map U8)[j]? = some x → w13.cell? ⟨g3,i + j,none⟩ = some x:=by
     intro j x hx
     refine HK13.out.keep HAB.out (HDF.out.cells (i + j) x ?_)
     rw [← hys,List.map_drop,List.map_take,List.getElem?_drop,List.getElem?_take] at hx
     split at hx
     ·exact hx
     ·simp at hx
    have HL13:=Lib.hid hL13;have HLEN13:=Lib.hid hlen13;have H8:=Lib.hid h8;have HO13:=Lib.hid ho13;have HP13:=Lib.hid hp13;have HM13:=Lib.hid hm13;have HYS:=Lib.hid hys;have HYL:=Lib.hid hyl;have HCY:=Lib.hid hcy
    have hm13b : m13 ≤ 10000000000:=by omega
    have HR15 : Hid (∀ v14 w14 wx sv,Appended w13.drew 0 5 (.slice (some ⟨g13,0,none⟩) m13 c13) sv (bs.map U8) (ys.map U8) v14 w14 → Ext (fun k => k = W) w14 wx → Blk wx W #[v14,.int .i64 ((8 * (m13 + n) : Nat) : Int)] 67 →
      ∃ B v' at7,IsBlock A (L.length + 1) i (i + n) B ∧ at6 ≤ at7 ∧ at7 ≤ 400000 ∧ BK wo W C lv v at7 (L ++ bb::B) v' wx ∧ B.length ≤ 8200 + 72 * n):=Lib.hid (by
     intro v14 w14 wx sv hap he hbk
     have hst:=HK13.out.stored HBASE.out H8.out HP13.out ((Ext.refl _ _).drew) hap he (by rw [HM13.out,HYL.out];exact hbk)
     refine ⟨_,v14,at6,.stored k hk8 (by have:=HMOD.out;rw [HLl2.out] at this;omega) (by omega) (by rw [HAL.out];omega) (by omega),by omega,by omega,?_,?_⟩
     ·rw [← HL13.out,HKD.out,← HYS.out] at hst
      rw [show i + n - i = n by omega]
      simpa [List.append_assoc] using hst
     ·rw [show i + n - i = n by omega,HYS.out]
      simp only [List.length_append,length_lsb,List.length_replicate,length_bitsOf]
      omega)
    clear hL13 hlen13 h8 ho13 hp13 hm13 hys hyl hcy hbl
    have hmx : c3 - i ≤ maxLen:=by have:=HCAP3.out;unfold maxLen at *;omega
    obtain ⟨sa,hsa,HRD⟩ : ∃ sa : Addr,(if c3 = i then some (⟨g3,0,none⟩ : Addr) else some ⟨g3,i,none⟩) = some sa ∧ Hid (Rd w13.drew (.slice (some sa) n (c3 - i)) (ys.map U8)):=by
     by_cases hc : c3 = i
     ·refine ⟨⟨g3,0,none⟩,if_pos hc,Lib.hid ⟨c3 - i,by rw [List.length_map,HYL.out];omega,hmx,.inr ⟨g3,0,by rw [List.length_map,HYL.out],?_⟩⟩⟩
      intro j x hx
      rw [List.getElem?_eq_none (by rw [List.length_map,HYL.out];omega)] at hx;cases hx
     ·exact ⟨⟨g3,i,none⟩,if_neg hc,Lib.hid ⟨c3 - i,by rw [List.length_map,HYL.out];omega,hmx,.inr ⟨g3,i,by rw [List.length_map,HYL.out],HCY.out⟩⟩⟩
    go_wp2_with fail
    have hs1 : IntKind.i64.wrap ((i : Int) + (n : Int)) = (i : Int) + (n : Int):=IntWalk.i64_in _ (by omega)
    have hs2 : (0 : Int) ≤ (i : Int) + (n : Int):=by omega
    have hs3 : ((i : Int) + (n : Int)).toNat = i + n:=by omega
    go_region_law (refine step_append_rd _ rfl (.tmp 96) (.tmp 102) 22 rfl 0 5 i0 (.int .u8 0) 1 Tryz.underlying22 hi0 hz0 hz1 hz2 rfl (.slice (some ⟨g13,0,none⟩) m13 c13) (bs.map U8) rfl ?q1 (.slice (some sa) n (c3 - i)) (ys.map U8) rfl HRD.out (one_U8 _) ?q3 ?q4 (Nat.zero_le _) ?_
                   case q1 => (rw [List.length_map,HM13.out];exact HO13.out)
                   case q3 => (rw [List.length_map,List.length_map,HM13.out,HYL.out];unfold maxLen;omega)
                   case q4 => (rw [List.length_map,List.length_map,HM13.out,HYL.out];omega)
                   intro v14 w14 hap
                   have HAP:=Lib.hid hap
                   obtain ⟨g14,c14,hv14,hc14,_⟩:=hap.slice (by intro h;cases h)
                   rw [List.length_append,List.length_map,List.length_map,HM13.out,HYL.out] at hv14 hc14
                   have hc0 : w14.cell? ⟨W,0,none⟩ = some (.slice (some ⟨g13,0,none⟩) m13 c13):=hap.grown.cellSome (fun e => hgW (by have e' : some g13 = some W:=e;exact Option.some.inj e')) hcW
                   have hc1 : w14.cell? ⟨W,1,none⟩ = some (.int .i64 L13.length):=hap.grown.cellSome (fun e => hgW (by have e' : some g13 = some W:=e;exact Option.some.inj e')) (by rw [World.cell?_drew,HK13.out.wr.blk.cell];rfl)
                   have hf0 : ∀ o,w14.frozen? ⟨W,o,none⟩ = false:=fun o => by rw [hap.grown.frozen hWlt (fun e => hgW (by have e' : some g13 = some W:=e;exact Option.some.inj e'))];exact hfW o
                   subst hv14
                   clear hap)
    clear hs1 hs2 hs3 hsa
    have hbk14 : Blk w14 W #[.slice (some ⟨g13,0,none⟩) m13 c13,.int .i64 L13.length] 67:=(HK13.out.wr.blk.drew).ext HAP.out.grown (fun e => hgW (by have e' : some g13 = some W:=e;exact Option.some.inj e'))
    have HBK:=Lib.hid hbk14
    clear hbk14
    go_wp2_with fail
    go_meet
    case rel =>
     refine HR15.out _ _ _ _ HAP.out (((Ext.refl (fun k => k = W) w14).setCell (p:=⟨W,0,none⟩) (fun _ => rfl) _).setCell (p:=⟨W,1,none⟩) (fun _ => rfl) _) ?_
     have:=(HBK.out.set 0 (.slice (some ⟨g14,0,none⟩) (m13 + n) c14)).set 1 (.int .i64 (8 * ((m13 : Int) + (n : Int))))
     simpa using this
   ·have hb0 : ((kd : Int) == 0) = false:=by simp;omega
    have hb1 : ((kd : Int) == 1) = true:=by simp;omega
    have HKD : Hid (kd = 1):=Lib.hid (by omega)
    go_wp2_with fail
    refine (fixed_any w10).mono ?_
    rintro e w11 ⟨v1,v2,rfl,ho1,ho2,hx⟩
    obtain ⟨lb,lcap,rfl,_⟩:=owns_slice ho1 (by omega)
    obtain ⟨db,dcap,rfl,_⟩:=owns_slice ho2 (by omega)
    have hl1:=(ho1.lt lb rfl).1
    have hl2:=(ho2.lt db rfl).1
    have HLo:=Lib.hid hl1;have HDo:=Lib.hid hl2
    have HL1:=Lib.hid (Lst.of_owns ho1)
    have HL2:=Lib.hid (Lst.of_owns ho2)
    have HX:=Lib.hid hx
    have HK11:=Lib.hid (HK10.out.more hx)
    clear ho1 ho2 hx hl1 hl2
    go_wp2_with fail
    have hlf : fixLits.length = 288:=by simp [fixLits]
    have hdf : fixDists.length = 32:=by simp [fixDists]
    have hbd:=body_some W tb tcap lb 0 lcap db 0 dcap ta (L ++ [bb] ++ lsb kd 2) v9 fixLits fixDists toks w11 HK11.out.wr (by rw [hlf];omega) (by rw [hlf];omega) (by rw [hdf];omega) (by rw [hdf];omega)
     fixLits_full.1 fixDists_full.1 (by rw [HNT.out];omega) (by rw [HLl2.out,HNT.out];omega) HTO.out (fun j x hx => HX.out.cellSome (fun h => h) (HTC.out j x hx))
     (fun j x hx => by rw [Nat.zero_add];exact HL1.out j x hx) (fun j x hx => by rw [Nat.zero_add];exact HL2.out j x hx) HTA.out HTB.out.1
     (fun e => by have:=HK10.out.wr.own_lt e;have:=HLo.out;omega) (fun e => by have:=HK10.out.wr.own_lt e;have:=HDo.out;omega)
    rw [HNT.out,hlf,hdf] at hbd
    clear hlf hdf
    refine hbd.mono ?_
    clear hbd
    rintro e w12 ⟨rfl,hwr⟩
    obtain ⟨v12,hk⟩:=HK11.out.write HBASE.out hwr
    have HK12:=Lib.hid hk
    clear hwr hk
    go_wp2_with fail
    go_meet
    case rel =>
     refine ⟨lsb 1 2 ++ toksBits fixLitsP fixDistsP toks ++ codeBits fixLitsP 256,v12,at6,.fixed toks HFIT.out,by omega,by omega,?_,?_⟩
     ·have:=HK12.out
      rw [HKD.out] at this
      simpa [List.append_assoc,fix_same.1,fix_same.2] using this
     ·have h1:=length_toksBits_le fixLits fixDists fixLits_full.1 fixDists_full.1 toks HTO.out
      rw [fix_same.1,fix_same.2,HNT.out] at h1
      have h2:=len_le fixLits_full.1 256
      rw [fix_same.1] at h2
      simp only [List.length_append,length_lsb,length_codeBits]
      omega
   ·have hb0 : ((kd : Int) == 0) = false:=by simp;omega
    have hb1 : ((kd : Int) == 1) = false:=by simp;omega
    have HKD : Hid (kd = 2):=Lib.hid (by omega)
    go_wp2_with fail
    have hdy:=dynamic_some W tb tcap C at6 ta lv (L ++ [bb] ++ lsb kd 2) v9 toks w10 HK10.out.wr HK10.out.cho (by omega) (HK10.out.wm HBASE.out).2 (HK10.out.wm HBASE.out).1 (by rw [HNT.out];omega) (by rw [HLl2.out,HNT.out];omega)
     HTO.out HTC.out HTA.out HTB.out.1 HTB.out.2.1 HTB.out.2.2
    rw [HNT.out] at hdy
    refine hdy.mono ?_
    clear hdy
    rintro e w11 ⟨rfl,lit,dist,lens,nc,rs,at7,hhd,hcd,ha1,ha2,hch,hwr⟩
    obtain ⟨v11,hk⟩:=HK10.out.both hwr hch
    have HK11:=Lib.hid hk
    have HHD:=Lib.hid hhd;have HCD:=Lib.hid hcd
    clear hwr hk hch hhd hcd
    go_wp2_with fail
    go_meet
    case rel =>
     refine ⟨lsb 2 2 ++ headBits lit dist lens nc rs ++ toksBits lit dist toks ++ codeBits lit 256,v11,at7,.own toks lit dist lens nc rs HFIT.out HHD.out HCD.out,by omega,by omega,?_,?_⟩
     ·have:=HK11.out
      rw [HKD.out] at this
      simpa [List.append_assoc] using this
     ·have h1:=length_toksBits_le lit dist HHD.out.glit.mem (by
       rcases HHD.out.gdist with h | h
       ·exact h.mem
       ·intro x hx
        obtain ⟨j,hj,rfl⟩:=List.mem_iff_getElem.1 hx
        have:=h j
        rw [len_eq hj] at this
        omega) toks HTO.out
      rw [HNT.out] at h1
      have h2:=len_le HHD.out.glit.mem 256
      have h3:=length_headBits_le HHD.out
      simp only [List.length_append,length_lsb,length_codeBits]
      omega
  obtain ⟨B,v11,at7,hblk,ha7,ha7',hbk,hbl⟩:=hcut
  obtain ⟨w11,rfl⟩ : ∃ w11 : World,w11 = wc:=⟨_,rfl⟩
  have HBLK:=Lib.hid hblk;have HK11:=Lib.hid hbk
  clear hblk hbk HK10
  have hcW : w11.cell? ⟨W,0,none⟩ = some v11:=by rw [HK11.out.wr.blk.cell];rfl
  have hcC : w11.cell? ⟨C,1,none⟩ = some (.int .i64 at7):=by rw [HK11.out.cho.blk.cell];rfl
  rcases Nat.lt_or_ge lst 1 with hl | hl
  ·have hb : ((lst : Int) == 1) = false:=by simp;omega
   have hbf : bb = false:=by
    have:=HLS.out
    cases bb
    ·rfl
    ·have:=this.2 rfl;omega
   have hmu:=mu_next (N:=N) (i:=i) (n:=n) (at0:=at0) (at7:=at7) (k:=gk) (by omega) (by omega) (by omega) (by
    have hleft:=HDF.out.left
    rw [HAL.out] at hleft
    rcases hleft with ⟨h1,h2,h3⟩ | h1
    ·refine .inl ⟨h1,?_⟩
     have hr0 : r1 = 0:=by have:=HM4.out ⟨none,0,h2⟩;rw [h3] at this;exact this
     obtain ⟨e1,e2⟩:=HR1.out hr0
     have hne : i + n ≠ N:=by
      intro e
      have:=HFR.out hr0 (by omega) e h2
      rw [hbf] at this;cases this
     omega
    ·exact .inr h1)
   have HMU:=Lib.hid hmu;have HBF:=Lib.hid hbf
   clear hmu hbf
   rcases Nat.lt_or_ge 20000 at7 with h7 | h7
   ·have hb2 : decide ((20000 : Int) < (at7 : Int)) = true:=by simp;omega
    go_wp2_with fail
    go_roundg (mu N (i + n) 0 true)
    case measure => exact HMU.out.2
    case rel =>
     have hk:=HK11.out
     rw [HBF.out] at hk
     have:=HDF.out.again hk HBLK.out (by rw [HAL.out];omega) hbl (by rw [HAL.out];exact HMU.out.2)
     rw [HAL.out] at this
     exact ⟨_,_,0,i + n,_,v11,rfl,by go_num,this⟩
   ·have hb2 : decide ((20000 : Int) < (at7 : Int)) = false:=by simp;omega
    go_wp2_with fail
    go_roundg (mu N (i + n) at7 false)
    case measure => exact HMU.out.1 h7
    case rel =>
     have hk:=HK11.out
     rw [HBF.out] at hk
     have:=HDF.out.next hk HBLK.out (by rw [HAL.out];omega) hbl h7 (by rw [HAL.out];exact HMU.out.1 h7)
     rw [HAL.out] at this
     exact ⟨C,lv,at7,i + n,_,v11,rfl,by go_num,this⟩
  ·have hb : ((lst : Int) == 1) = true:=by simp;omega
   have hbt : bb = true:=HLS.out.1 (by omega)
   have hin : i + n = N:=HBB.out hbt
   have HIN:=Lib.hid hin;have HBT:=Lib.hid hbt
   clear hin hbt
   go_wp2_with fail
   go_ret
   obtain ⟨p1,_,_,_,_,p6⟩:=HDF.out.nextParts HK11.out
   obtain ⟨bs,ho,hp⟩:=HK11.out.wr.row
   refine ⟨v11,_,bs,rfl,?_,hp,owns_base ho p1,p6,by
    have h1:=hp.1
    have h2:=HLL.out
    simp only [List.length_append,List.length_cons] at h1
    omega⟩
   rw [HA.out,HNI.out]
   have hb2:=HBLK.out
   rw [HIN.out,← HAL.out] at hb2
   rw [HBT.out]
   exact ⟨L,B,i,HDF.out.before,hb2,rfl⟩
end Go.Proofs.YthpapbilhjobnaaGreatDoor
namespace Go.Proofs.YthpapbilhjobnaaGreatDoor
open Go.RowKit Pu
structure Head2 (a b : Nat) (has : Bool) : Prop where
 hdr : hdrB a b = true
 la : a < 256
 lb : b < 256
 ask : b / 32 % 2 = if has then 1 else 0
 low : a % 16 = 8
 win : a / 16 ≤ 7
def streamOf (a b : Nat) (has : Bool) (dict data bs : List UInt8) : List UInt8 :=
 [UInt8.ofNat a,UInt8.ofNat b] ++ ((if has then fourB (adler dict) else []) ++ (bs ++ fourB (adler data)))
def dictOf (has : Bool) (dict : List UInt8) : List UInt8:=if has then dict.drop (dict.length - 32768) else []
def ZlibPost (w : World) (has : Bool) (dict data : List UInt8) (e : Ending) (w' : World) : Prop :=
 ∃ v a b X bs,e = .returned v ∧ Head2 a b has ∧ Whole (dictOf has dict ++ data) (dictOf has dict).length X ∧ Packed bs X ∧
  w'.ownsRow w.heap.size 5 1 v (streamOf a b has dict data bs).length ((streamOf a b has dict data bs).map U8) ∧ Ext (fun _ => False) w w' ∧ bs.length ≤ 68719476736
theorem or_32 (b : Nat) (h : b = 0 ∨ b = 64 ∨ b = 128 ∨ b = 192) : bits BinOp.or IntKind.u8 (b : Int) 32 = ((b + 32 : Nat) : Int):=by
 rcases h with rfl | rfl | rfl | rfl <;> decide
theorem hdr_next {a b : Nat} (la : a % 16 = 8) (wa : a / 16 ≤ 7) : hdrB a b = ((a * 256 + b) % 31 == 0):=by
 unfold hdrB
 simp [la,wa]
theorem win_byte (win : Int) : ∃ a : Nat,wrap64 (8 + wrap64 (16 * (wrap64 (win.tmod 8 + 8)).tmod 8)) % 256 = (a : Int) ∧ a < 256 ∧ a % 16 = 8 ∧ a / 16 ≤ 7:=by
 obtain ⟨h0,h1⟩:=tmod_in win 8 (by omega) (by omega)
 generalize (wrap64 (win.tmod 8 + 8)).tmod 8 = q at *
 obtain ⟨k,rfl⟩:=Int.eq_ofNat_of_zero_le h0
 have e1 : wrap64 (16 * (k : Int)) = 16 * (k : Int):=IntWalk.wrap64_in _ ⟨by omega,by omega⟩
 have e2 : wrap64 (8 + 16 * (k : Int)) = 8 + 16 * (k : Int):=IntWalk.wrap64_in _ ⟨by omega,by omega⟩
 rw [e1,e2]
 exact ⟨8 + 16 * k,by omega,by omega,by omega,by omega⟩
theorem lvl_byte (lvl : Int) : ∃ b : Nat,wrap64 ((wrap64 (lvl.tmod 4 + 4)).tmod 4 * 64) % 256 = (b : Int) ∧ (b = 0 ∨ b = 64 ∨ b = 128 ∨ b = 192):=by
 obtain ⟨h0,h1⟩:=tmod_in lvl 4 (by omega) (by omega)
 generalize (wrap64 (lvl.tmod 4 + 4)).tmod 4 = q at *
 obtain ⟨k,rfl⟩:=Int.eq_ofNat_of_zero_le h0
 have e1 : wrap64 ((k : Int) * 64) = (k : Int) * 64:=IntWalk.wrap64_in _ ⟨by omega,by omega⟩
 rw [e1]
 exact ⟨k * 64,by omega,by omega⟩
theorem Appended.bytes {w0 w w' : World} {v sv v' : Value} {xs ys : List UInt8} (h : Appended w w0.heap.size 5 v sv (xs.map U8) (ys.map U8) v' w') (hv : v ≠ .slice none 0 0) (he : Ext (fun _ => False) w0 w) (ho : ∀ b,v.ownBlock = some b → w0.heap.size ≤ b) :
  ∃ g c,v' = .slice (some ⟨g,0,none⟩) (xs ++ ys).length c ∧ w'.ownsRow w0.heap.size 5 1 v' (xs ++ ys).length ((xs ++ ys).map U8) ∧ Ext (fun _ => False) w0 w' ∧ ∀ b,v'.ownBlock = some b → w0.heap.size ≤ b:=by
 obtain ⟨g,c,hv',_,_⟩:=h.slice hv
 have ho':=h.own
 rw [← List.map_append,List.length_map] at hv' ho'
 exact ⟨g,c,hv',ho',he.trans' h.grown (fun i hi e => by have:=ho i e;omega),fun b hb => (h.ge b hb).1⟩
theorem two_bytes (w : World) (a b : Nat) (ha : a < 256) (hb : b < 256) : (w.alloc (.cells #[.int .u8 (a : Int),.int .u8 (b : Int)] 5)).ownsRow w.heap.size 5 1 (.slice (some ⟨w.heap.size,0,none⟩) 2 2) 2 ([UInt8.ofNat a,UInt8.ofNat b].map U8):=by
 refine ⟨rfl,.inr ⟨w.heap.size,2,_,rfl,Nat.le_refl _,Blk.new w _ 5,Nat.le_refl _,by simp [maxLen],rfl,?_⟩⟩
 simp [U8,UInt8.toNat_ofNat',Nat.mod_eq_of_lt ha,Nat.mod_eq_of_lt hb]
def Begun (w : World) (a b : Nat) (has : Bool) (full : List UInt8) (x y : Value) (wx : World) : Prop :=
 ∃ (S D : List UInt8) (g c : Nat) (xa : Option Addr) (xcap : Nat),x = .slice (some ⟨g,0,none⟩) S.length c ∧ wx.ownsRow w.heap.size 5 1 (.slice (some ⟨g,0,none⟩) S.length c) S.length (S.map U8) ∧ y = .slice xa D.length xcap ∧
  Rd wx (.slice xa D.length xcap) (D.map U8) ∧ Ext (fun _ => False) w wx ∧ S = [UInt8.ofNat a,UInt8.ofNat b] ++ (if has then fourB (adler full) else []) ∧ D = (if has then full else []) ∧ w.heap.size ≤ g
set_option maxHeartbeats 4000000 in
theorem zlib_any (dv fv wv : Value) (has : Bool) (win lvl : Int) (data full : List UInt8) (zs : List Int) (w : World) (hd : Rd w dv (data.map U8)) (hf : Rd w fv (full.map U8)) (hw : Rd w wv (zs.map (.int .i64))) (hz : zs.length ≤ 1099511627776)
  (hsz : data.length + full.length ≤ 2097152) (hwb : ∀ b,wv.ownBlock = some b → b < w.heap.size) :
  Calls Tryz.prog 12 #[dv,fv,.bool has,.int .i64 win,.int .i64 lvl,wv] w (ZlibPost w has full data):=by
 obtain ⟨i0,hi0,hz0,hz1,hz2⟩:=info_parts Tryz.info5
 have HD:=Lib.hid hd;have HF:=Lib.hid hf;have HW:=Lib.hid hw
 obtain ⟨da,dcap,rfl⟩:=hd.len
 obtain ⟨fa,fcap,rfl⟩:=hf.len
 obtain ⟨wa,wcap,rfl⟩:=hw.len
 have HWB:=Lib.hid hwb
 clear hwb
 obtain ⟨nw,hnw⟩ : ∃ n,(zs.map (Value.int .i64)).length = n:=⟨_,rfl⟩
 rw [hnw] at HW HWB ⊢
 clear hnw
 clear hd hf hw
 obtain ⟨nd,hnd⟩ : ∃ n,(data.map U8).length = n:=⟨_,rfl⟩
 obtain ⟨nf,hnf⟩ : ∃ n,(full.map U8).length = n:=⟨_,rfl⟩
 rw [hnd] at HD ⊢
 rw [hnf] at HF ⊢
 have HNF : Hid (full.length = nf):=Lib.hid (by simpa using hnf)
 have HND : Hid (data.length = nd):=Lib.hid (by simpa using hnd)
 clear hnd hnf
 have HSZ:=Lib.hid hsz
 clear hsz
 go_enter Tryz.func12,Tryz.ntmps12
 go_upto_region 1 with (fail)
 go_cut [13] (fun x wx => w = wx ∧ ∃ a : Nat,x = .int .u8 a ∧ a < 256 ∧ a % 16 = 8 ∧ a / 16 ≤ 7)
 case first =>
  obtain ⟨a,h1,h2,h3,h4⟩:=win_byte win
  have H1:=Lib.hid h1
  clear h1
  go_wp2_with fail
  go_meet
  case rel => exact ⟨rfl,a,by rw [H1.out],h2,h3,h4⟩
 obtain ⟨rfl,a,rfl,ha,ha16,ha7⟩:=hcut
 go_upto_region 2 with (fail)
 go_cut [14] (fun x wx => w = wx ∧ ∃ b : Nat,x = .int .u8 b ∧ (b = 0 ∨ b = 64 ∨ b = 128 ∨ b = 192))
 case first =>
  obtain ⟨b,h1,h2⟩:=lvl_byte lvl
  have H1:=Lib.hid h1;have H2:=Lib.hid h2
  clear h1 h2
  go_wp2_with fail
  go_meet
  case rel => exact ⟨rfl,b,by rw [H1.out],H2.out⟩
 obtain ⟨rfl,b0,rfl,hb0⟩:=hcut
 have HB0:=Lib.hid hb0
 clear hb0
 go_upto_if 29 with (fail)
 go_cut [14] (fun x wx => w = wx ∧ ∃ b : Nat,x = .int .u8 b ∧ b ≤ 224 ∧ b % 32 = 0 ∧ b / 32 % 2 = if has then 1 else 0)
 case first =>
  have ho:=or_32 b0 HB0.out
  have HO:=Lib.hid ho
  clear ho
  cases has
  ·go_wp2_with fail
   go_meet
   case rel => exact ⟨rfl,b0,rfl,by have:=HB0.out;omega,by have:=HB0.out;omega,by have:=HB0.out;simp;omega⟩
  ·go_wp2_with fail
   go_meet
   case rel => exact ⟨rfl,b0 + 32,by rw [HO.out],by have:=HB0.out;omega,by have:=HB0.out;omega,by have:=HB0.out;simp;omega⟩
 obtain ⟨rfl,b1,rfl,hb1,hb2,hb3⟩:=hcut
 have HB3:=Lib.hid hb3
 clear hb3 HB0
 go_upto_block 0 with (fail)
 go_cut [14] (fun x wx => w = wx ∧ ∃ b : Nat,x = .int .u8 b ∧ Head2 a b has)
 case first =>
  go_wp2_with fail
  go_loop [14] (fun x => ∃ b : Nat,x = .int .u8 b ∧ b1 ≤ b ∧ b ≤ b1 + (31 - (a * 256 + b1) % 31) % 31) (fun x => 300 - (intOf x).toNat)
  case atStart => exact ⟨b1,rfl,Nat.le_refl _,by omega⟩
  case round =>
   obtain ⟨b,rfl,hd,hd'⟩:=hrel
   have hb254 : b ≤ 254:=by omega
   have hih:=isHeader_any a b w (by omega) (by omega)
   have hdn:=hdr_next (b:=b) ha16 ha7
   obtain ⟨q,hq⟩ : ∃ q,hdrB a b = q:=⟨_,rfl⟩
   rw [hq] at hih hdn
   have HIH:=Lib.hid hih;have HQ:=Lib.hid hq;have HDN:=Lib.hid hdn;have HD':=Lib.hid hd'
   clear hih hq hdn hd'
   cases q
   ·go_wp2_with fail
    refine HIH.out.mono ?_
    rintro e w' ⟨rfl,rfl⟩
    go_wp2_with fail
    go_round
    case rel =>
     refine ⟨b + 1,by go_num,by omega,?_⟩
     have h1:=HD'.out
     have h2 : ¬ (a * 256 + b) % 31 = 0:=by have:=HDN.out;simpa using this.symm
     omega
    case measure => simp [intOf];omega
   ·go_wp2_with fail
    refine HIH.out.mono ?_
    rintro e w' ⟨rfl,rfl⟩
    go_wp2_with fail
    go_meet
    case rel => exact ⟨rfl,b,rfl,HQ.out,ha,by omega,by have:=HB3.out;have:=HD'.out;omega,ha16,ha7⟩
 obtain ⟨rfl,b,rfl,hh2⟩:=hcut
 have HH:=Lib.hid hh2
 have hb256:=hh2.lb
 clear hh2 HB3
 go_upto_if 41 with (fail)
 have ho0:=two_bytes w a b ha hb256
 obtain ⟨g0,hg0⟩ : ∃ n,w.heap.size = n:=⟨_,rfl⟩
 obtain ⟨w1,hw1⟩ : ∃ w1 : World,w.alloc (Obj.cells #[.int .u8 (a : Int),.int .u8 (b : Int)] 5) = w1:=⟨_,rfl⟩
 have hx1 : Ext (fun _ => False) w w1:=by rw [← hw1];exact (Ext.refl _ _).alloc _
 rw [hg0,hw1] at ho0
 rw [hg0,hw1]
 have HO0:=Lib.hid ho0;have HX1:=Lib.hid hx1;have HG0:=Lib.hid hg0
 clear ho0 hx1 hw1 hg0
 go_cut [15,1] (fun x y wx => Begun w a b has full x y wx)
 case first =>
  cases has
  ·go_wp2_with fail
   go_meet
   case rel => exact ⟨_,[],g0,2,none,0,rfl,by have:=HO0.out;rw [← HG0.out] at this ⊢;exact this,rfl,Rd.nil _,HX1.out,by simp,rfl,by have:=HG0.out;omega⟩
  ·go_wp2_with fail
   refine (adler_any _ full w1 (by have:=HSZ.out;omega) (HF.out.ext HX1.out (fun _ _ h => h))).mono ?_
   rintro e w' ⟨rfl,rfl⟩
   obtain ⟨ad,had⟩ : ∃ x,adler full = x:=⟨_,rfl⟩
   have had2:=adler_lt full
   rw [had] at had2 ⊢
   have HAD:=Lib.hid had
   clear had
   go_wp2_with fail
   refine (four_any ad w1 had2).mono ?_
   rintro e w2 ⟨v4,rfl,hfr⟩
   have HR4:=Lib.hid (Rd.of_owns hfr.1)
   have HX2:=Lib.hid (HX1.out.trans hfr.2)
   have HO2:=Lib.hid (owns_ext HO0.out hfr.2 (fun _ _ h => h))
   clear hfr
   go_wp2_with (refine wpList_append_rd _ rfl (.tmp 42) (.tmp 45) 22 rfl w.heap.size 5 i0 (.int .u8 0) 1 Tryz.underlying22 hi0 hz0 hz1 hz2 rfl (.slice (some ⟨g0,0,none⟩) 2 2) ([UInt8.ofNat a,UInt8.ofNat b].map U8) rfl ?a1 v4 ((fourB ad).map U8) rfl HR4.out (one_U8 _) ?a3 ?a4 ?a5 ?_
                case a1 => (have:=HO2.out;rw [← HG0.out] at this;rw [← HG0.out];exact this)
                case a3 => simp [fourB,maxLen]
                case a4 => simp [fourB]
                case a5 => exact HX2.out.size
                intro v5 w3 hap
                obtain ⟨g5,c5,rfl,ho5,hx5,hb5⟩:=Appended.bytes (w0:=w) hap (by intro h;cases h) HX2.out (fun b hb => by have e : some g0 = some b:=hb;simp only [Option.some.injEq] at e;have:=HG0.out;omega)
                have HO5:=Lib.hid ho5;have HX5:=Lib.hid hx5;have HB5:=Lib.hid (hb5 g5 rfl)
                have HXX:=Lib.hid (hap.grown)
                clear hap ho5 hx5 hb5)
   go_meet
   case rel =>
    refine ⟨_,full,g5,c5,fa,fcap,rfl,HO5.out,by rw [HNF.out],?_,HX5.out,by rw [← HAD.out];rfl,rfl,HB5.out⟩
    rw [HNF.out]
    exact HF.out.ext HX5.out (fun _ _ h => h)
 obtain ⟨S,D,g1,c1,xa,xcap,rfl,ho,rfl,hrd,hx,hS,hDD,hg1⟩:=hcut
 obtain ⟨w2,rfl⟩ : ∃ w2 : World,w2 = wc:=⟨_,rfl⟩
 have HO1:=Lib.hid ho;have HRD:=Lib.hid hrd;have HX2:=Lib.hid hx;have HS:=Lib.hid hS;have HDD:=Lib.hid hDD
 have hsl : S.length ≤ 6:=by rw [hS];cases has <;> simp [fourB]
 have hdl : D.length ≤ full.length:=by rw [hDD];cases has <;> simp
 clear ho hrd hx hS hDD HO0 HX1
 obtain ⟨ns,hns⟩ : ∃ n,S.length = n:=⟨_,rfl⟩
 obtain ⟨ndd,hndd⟩ : ∃ n,D.length = n:=⟨_,rfl⟩
 have HNS:=Lib.hid hns;have HNDD:=Lib.hid hndd
 rw [hns] at HO1 hsl ⊢
 rw [hndd] at HRD hdl ⊢
 clear hns hndd
 go_wp2_with fail
 refine (deflate_any _ _ _ data D zs w2 (HD.out.ext HX2.out (fun _ _ h => h)) HRD.out (HW.out.ext HX2.out (fun _ _ h => h)) hz (by have:=HSZ.out;have:=HNDD.out;omega) (fun b hb => by have:=HWB.out b hb;have:=HX2.out.size;omega)).mono ?_
 rintro e w3 ⟨v6,X,bs,rfl,hwh,hpk,ho6,hx6,hbl⟩
 have HWH:=Lib.hid hwh;have HPK:=Lib.hid hpk
 have HR6:=Lib.hid (Rd.of_owns ho6)
 have HX3:=Lib.hid (HX2.out.trans hx6)
 have HO3:=Lib.hid (owns_ext HO1.out hx6 (fun _ _ h => h))
 have HBL:=Lib.hid hbl
 clear hwh hpk ho6 hx6 hbl
 go_wp2_with (refine wpList_append_rd _ rfl (.tmp 47) (.tmp 51) 22 rfl w.heap.size 5 i0 (.int .u8 0) 1 Tryz.underlying22 hi0 hz0 hz1 hz2 rfl (.slice (some ⟨g1,0,none⟩) ns c1) (S.map U8) rfl ?b1 v6 (bs.map U8) rfl HR6.out (one_U8 _) ?b3 ?b4 ?b5 ?_
              case b1 => (rw [List.length_map,HNS.out];exact HO3.out)
              case b3 => (rw [List.length_map,List.length_map,HNS.out];have:=HBL.out;unfold maxLen;omega)
              case b4 => (rw [List.length_map,List.length_map,HNS.out];have:=HBL.out;omega)
              case b5 => exact HX3.out.size
              intro v7 w4 hap
              obtain ⟨g7,c7,rfl,ho7,hx7,hb7⟩:=Appended.bytes (w0:=w) hap (by intro h;cases h) HX3.out (fun b hb => by have e : some g1 = some b:=hb;simp only [Option.some.injEq] at e;omega)
              obtain ⟨S7,hS7⟩ : ∃ X,S ++ bs = X:=⟨_,rfl⟩
              rw [hS7] at ho7 ⊢
              have HS7:=Lib.hid hS7
              have hs7 : S7.length ≤ 1099511627782:=by rw [← hS7,List.length_append,HNS.out];have:=HBL.out;omega
              obtain ⟨n7,hn7⟩ : ∃ n,S7.length = n:=⟨_,rfl⟩
              rw [hn7] at ho7 hs7 ⊢
              have HN7:=Lib.hid hn7;have HO7:=Lib.hid ho7;have HX7:=Lib.hid hx7;have HB7:=Lib.hid (hb7 g7 rfl)
              clear hap ho7 hx7 hb7 hS7 hn7)
 refine (adler_any _ data w4 (by have:=HSZ.out;omega) (HD.out.ext HX7.out (fun _ _ h => h))).mono ?_
 rintro e w' ⟨rfl,rfl⟩
 obtain ⟨ad,had⟩ : ∃ x,adler data = x:=⟨_,rfl⟩
 have had2:=adler_lt data
 rw [had] at had2 ⊢
 have HAD:=Lib.hid had
 clear had
 go_wp2_with fail
 refine (four_any ad w4 had2).mono ?_
 rintro e w5 ⟨v8,rfl,hfr⟩
 have HR8:=Lib.hid (Rd.of_owns hfr.1)
 have HX8:=Lib.hid (HX7.out.trans hfr.2)
 have HO8:=Lib.hid (owns_ext HO7.out hfr.2 (fun _ _ h => h))
 clear hfr
 go_wp2_with (refine wpList_append_rd _ rfl (.tmp 53) (.tmp 56) 22 rfl w.heap.size 5 i0 (.int .u8 0) 1 Tryz.underlying22 hi0 hz0 hz1 hz2 rfl (.slice (some ⟨g7,0,none⟩) n7 c7) (S7.map U8) rfl ?d1 v8 ((fourB ad).map U8) rfl HR8.out (one_U8 _) ?d3 ?d4 ?d5 ?_
              case d1 => (rw [List.length_map,HN7.out];exact HO8.out)
              case d3 => (rw [List.length_map,List.length_map,HN7.out];simp only [fourB,List.length_cons,List.length_nil];unfold maxLen;omega)
              case d4 => (rw [List.length_map,List.length_map,HN7.out];simp only [fourB,List.length_cons,List.length_nil];omega)
              case d5 => exact HX8.out.size
              intro v9 w6 hap
              obtain ⟨g9,c9,rfl,ho9,hx9,hb9⟩:=Appended.bytes (w0:=w) hap (by intro h;cases h) HX8.out (fun b hb => by have e : some g7 = some b:=hb;simp only [Option.some.injEq] at e;have:=HB7.out;omega)
              have HO9:=Lib.hid ho9;have HX9:=Lib.hid hx9
              clear hap ho9 hx9 hb9)
 go_ret
 have hfin : S7 ++ fourB ad = streamOf a b has full data bs:=by
  rw [← HS7.out,HS.out,← HAD.out];unfold streamOf;simp only [List.append_assoc]
 have h9:=HO9.out
 rw [hfin] at h9
 have hlen : S7.length + (fourB ad).length = (streamOf a b has full data bs).length:=by rw [← hfin,List.length_append]
 have hdict : D.drop (D.length - 32768) = dictOf has full:=by
  rw [HDD.out];cases has <;> simp [dictOf]
 have hwh:=HWH.out
 rw [hdict] at hwh
 refine ⟨.slice (some ⟨g9,0,none⟩) (streamOf a b has full data bs).length c9,a,b,X,bs,?_,HH.out,hwh,HPK.out,h9,HX9.out,HBL.out⟩
 show Ending.returned (.slice (some ⟨g9,0,none⟩) (S7.length + (fourB ad).length) c9) = _
 rw [hlen]
end Go.Proofs.YthpapbilhjobnaaGreatDoor
namespace Go.Proofs.YthpapbilhjobnaaGreatDoor
open Go.RowKit Pu
def heldOf (has : Bool) (D0 : List UInt8) : List UInt8:=lastOf (if has then D0 else [])
theorem dictOf_last (has : Bool) (dict : List UInt8) : dictOf has dict = heldOf has dict:=by
 cases has
 ·simp [dictOf,heldOf,lastOf]
 ·simp only [dictOf,heldOf,lastOf,if_true]
def gOf (has : Bool) (dict data D0 : List UInt8) (pk : Nat) (tl : List UInt8) : Blkc :=
 { all:=dictOf has dict ++ data,ok:=heldOf has D0 = dictOf has dict,Z:=List.replicate pk false ++ bitsOf tl,lit:=[],dist:=[],fin:=false,pos:=0,j:=0,Y:=[],e:=(dictOf has dict).length,d:=(heldOf has D0).length }
theorem num4_four (n : Nat) (h : n < 4294967296) : num4 (UInt8.ofNat (n / 16777216)) (UInt8.ofNat (n / 65536)) (UInt8.ofNat (n / 256)) (UInt8.ofNat n) = n:=by
 unfold num4
 have e : ∀ x,(UInt8.ofNat x).toNat = x % 256:=fun x => by simp
 rw [e,e,e,e]
 omega
theorem head_good {a b : Nat} {has : Bool} (h : Head2 a b has) : zgood (UInt8.ofNat a) (UInt8.ofNat b) ∧ (fdict (UInt8.ofNat b) ↔ has = true):=by
 have ea : (UInt8.ofNat a).toNat = a:=by have:=h.la;simp;omega
 have eb : (UInt8.ofNat b).toNat = b:=by have:=h.lb;simp;omega
 have hd:=h.hdr
 unfold hdrB at hd
 simp only [Bool.and_eq_true,beq_iff_eq,decide_eq_true_eq] at hd
 have hk:=h.ask
 refine ⟨?_,?_⟩
 ·unfold zgood
  rw [ea,eb]
  obtain ⟨⟨h1,h2⟩,h3⟩:=hd
  exact ⟨h1,h2,by rw [Nat.mul_comm];exact h3⟩
 ·unfold fdict
  rw [eb,hk]
  cases has <;> simp
structure Enc (has : Bool) (dict data : List UInt8) (a b : Nat) (X : List Bool) (bs : List UInt8) : Prop where
 head : Head2 a b has
 whole : Whole (dictOf has dict ++ data) (dictOf has dict).length X
 packed : Packed bs X
theorem stream_false (a b : Nat) (dict data bs : List UInt8) : streamOf a b false dict data bs = UInt8.ofNat a::UInt8.ofNat b::(bs ++ fourB (adler data)):=rfl
theorem stream_true (a b : Nat) (dict data bs : List UInt8) : streamOf a b true dict data bs = UInt8.ofNat a::UInt8.ofNat b::UInt8.ofNat (adler dict / 16777216)::UInt8.ofNat (adler dict / 65536)::UInt8.ofNat (adler dict / 256)::UInt8.ofNat (adler dict)::(bs ++ fourB (adler data)):=rfl
def pkOf (bs : List UInt8) (X : List Bool) : Nat:=8 * bs.length - X.length
section
variable {has : Bool} {dict data : List UInt8} {a b : Nat} {X : List Bool} {bs : List UInt8}
theorem Enc.str (h : Enc has dict data a b X bs) (src ext tl D0 : List UInt8) (hs : src ++ ext = (streamOf a b has dict [] bs).take ((if has then 6 else 2) + bs.length) ++ tl) (ht : 4 ≤ tl.length) (p : Nat) (D' : List UInt8) (hz : ZOk src D0 p D') :
  D' = (if has then D0 else []) ∧ Str src ext p D' (gOf has dict data D0 (pkOf bs X) tl) (pkOf bs X) (dictOf has dict).length tl ∧ (has = true → adler D0 = adler dict):=by
 obtain ⟨hg,hf⟩:=head_good h.head
 have hbits : ∀ s : List UInt8,s ++ ext = bs ++ tl → bitsOf (s ++ ext) = X ++ (List.replicate (pkOf bs X) false ++ bitsOf tl):=fun s e => by
  rw [e,bitsOf_append,h.packed.2.2,List.append_assoc];rfl
 have hpk : pkOf bs X < 8:=by
  have h1:=h.packed.1
  have h2:=h.packed.2.1
  unfold pkOf
  omega
 have key : ∀ s,src.drop p = s → s ++ ext = bs ++ tl → D' = (if has then D0 else []) → Str src ext p D' (gOf has dict data D0 (pkOf bs X) tl) (pkOf bs X) (dictOf has dict).length tl:=by
  intro s hs1 hs2 hD
  subst hD
  refine ⟨rfl,hpk,ht,⟨X,by rw [hs1];exact hbits s hs2,h.whole.ahead⟩,fun o => ?_,?_⟩
  ·have o' : heldOf has D0 = dictOf has dict:=o
   show heldOf has D0 = (dictOf has dict ++ data).take _
   rw [List.take_left' rfl];exact o'
  ·simp only [gOf,heldOf]
   exact Nat.add_comm _ _
 cases has with
 | false =>
  have e1 : (streamOf a b false dict [] bs).take ((if false = true then 6 else 2) + bs.length) = UInt8.ofNat a::UInt8.ofNat b::bs:=by
   rw [stream_false]
   simp only [Bool.false_eq_true,if_false]
   rw [show 2 + bs.length = bs.length + 1 + 1 by omega,List.take_succ_cons,List.take_succ_cons,List.take_left' rfl]
  rw [e1] at hs
  cases hz with
  | bare x y s hx hgx hfx =>
   subst hx
   simp only [List.cons_append,List.cons.injEq] at hs
   refine ⟨rfl,key s rfl hs.2.2 rfl,fun e => by cases e⟩
  | dict x y c0 c1 c2 c3 s hx hgx hfx hn =>
   subst hx
   simp only [List.cons_append,List.cons.injEq] at hs
   rw [hs.2.1] at hfx
   have:=hf.1 hfx
   cases this
 | true =>
  have e1 : (streamOf a b true dict [] bs).take ((if true = true then 6 else 2) + bs.length) = UInt8.ofNat a::UInt8.ofNat b::UInt8.ofNat (adler dict / 16777216)::UInt8.ofNat (adler dict / 65536)::UInt8.ofNat (adler dict / 256)::UInt8.ofNat (adler dict)::bs:=by
   rw [stream_true]
   simp only [if_true]
   rw [show 6 + bs.length = bs.length + 1 + 1 + 1 + 1 + 1 + 1 by omega,List.take_succ_cons,List.take_succ_cons,List.take_succ_cons,List.take_succ_cons,List.take_succ_cons,List.take_succ_cons,List.take_left' rfl]
  rw [e1] at hs
  cases hz with
  | bare x y s hx hgx hfx =>
   subst hx
   simp only [List.cons_append,List.cons.injEq] at hs
   rw [hs.2.1] at hfx
   exact absurd (hf.2 rfl) hfx
  | dict x y c0 c1 c2 c3 s hx hgx hfx hn =>
   subst hx
   simp only [List.cons_append,List.cons.injEq] at hs
   obtain ⟨_,_,r0,r1,r2,r3,r4⟩:=hs
   refine ⟨rfl,key s rfl r4 rfl,fun _ => ?_⟩
   rw [← hn,r0,r1,r2,r3]
   exact num4_four _ (adler_lt dict)
theorem stream_split (a b : Nat) (has : Bool) (dict data bs : List UInt8) : streamOf a b has dict data bs = (streamOf a b has dict [] bs).take ((if has then 6 else 2) + bs.length) ++ fourB (adler data):=by
 cases has with
 | false =>
  rw [stream_false,stream_false]
  simp only [Bool.false_eq_true,if_false]
  rw [show 2 + bs.length = bs.length + 1 + 1 by omega,List.take_succ_cons,List.take_succ_cons,List.take_left' rfl]
  rfl
 | true =>
  rw [stream_true,stream_true]
  simp only [if_true]
  rw [show 6 + bs.length = bs.length + 1 + 1 + 1 + 1 + 1 + 1 by omega,List.take_succ_cons,List.take_succ_cons,List.take_succ_cons,List.take_succ_cons,List.take_succ_cons,List.take_succ_cons,List.take_left' rfl]
  rfl
theorem Enc.go (h : Enc has dict data a b X bs) (src tl D0 : List UInt8) (hs : src = (streamOf a b has dict [] bs).take ((if has then 6 else 2) + bs.length) ++ tl) (hD : has = true → adler D0 = adler dict) {hA dA U er : Addr} (hz : ZWhy src D0 hA dA U er) : False:=by
 obtain ⟨hg,hf⟩:=head_good h.head
 cases has with
 | false =>
  have e1 : (streamOf a b false dict [] bs).take ((if false = true then 6 else 2) + bs.length) = UInt8.ofNat a::UInt8.ofNat b::bs:=by
   rw [stream_false]
   simp only [Bool.false_eq_true,if_false]
   rw [show 2 + bs.length = bs.length + 1 + 1 by omega,List.take_succ_cons,List.take_succ_cons,List.take_left' rfl]
  rw [e1] at hs
  cases hz with
  | short hl => rw [hs] at hl;simp at hl;omega
  | header x y s hx hgx =>
   rw [hx] at hs
   simp only [List.cons_append,List.cons.injEq] at hs
   rw [hs.1,hs.2.1] at hgx
   exact hgx hg
  | shortDict x y s hx hgx hfx hl =>
   rw [hx] at hs
   simp only [List.cons_append,List.cons.injEq] at hs
   rw [hs.2.1] at hfx
   have:=hf.1 hfx
   cases this
  | dict x y c0 c1 c2 c3 s hx hgx hfx hn =>
   rw [hx] at hs
   simp only [List.cons_append,List.cons.injEq] at hs
   rw [hs.2.1] at hfx
   have:=hf.1 hfx
   cases this
 | true =>
  have e1 : (streamOf a b true dict [] bs).take ((if true = true then 6 else 2) + bs.length) = UInt8.ofNat a::UInt8.ofNat b::UInt8.ofNat (adler dict / 16777216)::UInt8.ofNat (adler dict / 65536)::UInt8.ofNat (adler dict / 256)::UInt8.ofNat (adler dict)::bs:=by
   rw [stream_true]
   simp only [if_true]
   rw [show 6 + bs.length = bs.length + 1 + 1 + 1 + 1 + 1 + 1 by omega,List.take_succ_cons,List.take_succ_cons,List.take_succ_cons,List.take_succ_cons,List.take_succ_cons,List.take_succ_cons,List.take_left' rfl]
  rw [e1] at hs
  cases hz with
  | short hl => rw [hs] at hl;simp at hl;omega
  | header x y s hx hgx =>
   rw [hx] at hs
   simp only [List.cons_append,List.cons.injEq] at hs
   rw [hs.1,hs.2.1] at hgx
   exact hgx hg
  | shortDict x y s hx hgx hfx hl =>
   rw [hx] at hs
   simp only [List.cons_append,List.cons.injEq] at hs
   rw [hs.2.2] at hl
   simp at hl
   omega
  | dict x y c0 c1 c2 c3 s hx hgx hfx hn =>
   rw [hx] at hs
   simp only [List.cons_append,List.cons.injEq] at hs
   obtain ⟨_,_,r0,r1,r2,r3,r4⟩:=hs
   refine hn ?_
   rw [hD rfl,r0,r1,r2,r3]
   exact num4_four _ (adler_lt dict)
end
end Go.Proofs.YthpapbilhjobnaaGreatDoor
namespace Go.Proofs.YthpapbilhjobnaaGreatDoor
open Go.RowKit Pu
structure Given (w : World) (A hA dA kA U : Addr) : Prop where
 glo : Glo w A hA dA kA U
 low : ∀ k,GM A hA dA kA U k → k < w.heap.size
structure Arg (w : World) (v : Value) (l : List UInt8) : Prop where
 rd : Rd w v (l.map U8)
 low : ∀ b,v.ownBlock = some b → b < w.heap.size
structure Num (w : World) (v : Value) (zs : List Int) : Prop where
 rd : Rd w v (zs.map (.int .i64))
 low : ∀ b,v.ownBlock = some b → b < w.heap.size
 len : zs.length ≤ 1099511627776
section
variable {w w' : World} {A hA dA kA U : Addr} {v : Value} {l : List UInt8} {zs : List Int}
theorem Given.ext (h : Given w A hA dA kA U) (he : Ext (fun _ => False) w w') : Given w' A hA dA kA U:=⟨h.glo.ext he (fun _ _ e => e),fun k hk => Nat.lt_of_lt_of_le (h.low k hk) he.size⟩
theorem Arg.ext (h : Arg w v l) (he : Ext (fun _ => False) w w') : Arg w' v l:=⟨h.rd.ext he (fun _ _ e => e),fun b hb => Nat.lt_of_lt_of_le (h.low b hb) he.size⟩
theorem Num.ext (h : Num w v zs) (he : Ext (fun _ => False) w w') : Num w' v zs:=⟨h.rd.ext he (fun _ _ e => e),fun b hb => Nat.lt_of_lt_of_le (h.low b hb) he.size,h.len⟩
theorem Arg.nil (w : World) : Arg w (.slice none 0 0) []:=⟨Rd.nil w,fun b hb => by cases hb⟩
theorem Num.nil (w : World) : Num w (.slice none 0 0) []:=⟨Rd.nil w,(fun b hb => by cases hb),by simp⟩
end
structure Held (w : World) (sb so cap : Nat) (src : List UInt8) : Prop where
 cells : ∀ j y,(src.map U8)[j]? = some y → w.cell? ⟨sb,so + j,none⟩ = some y
 small : src.length ≤ 1099511627776
 room : src.length ≤ cap
 lt : sb < w.heap.size
theorem Held.ext {w w' : World} {sb so cap : Nat} {src : List UInt8} {M : Nat → Prop} (h : Held w sb so cap src) (he : Ext M w w') (hm : ¬ M sb) : Held w' sb so cap src :=
 ⟨fun j y hy => he.cellSome hm (h.cells j y hy),h.small,h.room,Nat.lt_of_lt_of_le h.lt he.size⟩
theorem stream_len (a b : Nat) (has : Bool) (dict data bs : List UInt8) : (streamOf a b has dict data bs).length = (if has then 10 else 6) + bs.length:=by
 cases has <;> simp [streamOf,fourB] <;> omega
structure Made (w : World) (has : Bool) (dict data : List UInt8) (a b : Nat) (X : List Bool) (bs : List UInt8) (g cap : Nat) (w' : World) : Prop where
 enc : Enc has dict data a b X bs
 own : w'.ownsRow w.heap.size 5 1 (.slice (some ⟨g,0,none⟩) (streamOf a b has dict data bs).length cap) (streamOf a b has dict data bs).length ((streamOf a b has dict data bs).map U8)
 ext : Ext (fun _ => False) w w'
 small : bs.length ≤ 68719476736
theorem ZlibPost.made {w w' : World} {has : Bool} {dict data : List UInt8} {e : Ending} (h : ZlibPost w has dict data e w') : ∃ a b X bs g cap,e = .returned (.slice (some ⟨g,0,none⟩) (streamOf a b has dict data bs).length cap) ∧ Made w has dict data a b X bs g cap w':=by
 obtain ⟨v,a,b,X,bs,he,h1,h2,h3,h4,h5,h6⟩:=h
 have h4':=h4
 rcases h4.2 with ⟨_,h0⟩ | ⟨g,cap,cur,rfl,_⟩
 ·rw [stream_len] at h0
  split at h0 <;> omega
 ·exact ⟨a,b,X,bs,g,cap,he,⟨h1,h2,h3⟩,h4',h5,h6⟩
theorem Made.held {w w' : World} {has : Bool} {dict data : List UInt8} {a b : Nat} {X : List Bool} {bs : List UInt8} {g cap : Nat} (h : Made w has dict data a b X bs g cap w') : Held w' g 0 cap (streamOf a b has dict data bs) ∧ w.heap.size ≤ g:=by
 obtain ⟨h1,h2⟩:=h.own.lt g rfl
 have hs:=h.small
 refine ⟨⟨fun j y hy => ?_,by rw [stream_len];split <;> omega,?_,h2⟩,h1⟩
 ·have:=h.own.cells (g:=g) rfl j y hy
  by_cases hj : j = 0
  ·subst hj;simpa [Addr.add] using this
  ·simpa [Addr.add,hj] using this
 ·rcases h.own.2 with ⟨h0,_⟩ | ⟨g',cap',cur,he,_,_,hn,_⟩
  ·cases h0
  ·injection he with _ _ he
   rw [he];exact hn
theorem held_def (has : Bool) (D0 : List UInt8) : heldOf has D0 = lastOf (if has then D0 else []):=by unfold heldOf;rfl
theorem Enc.read {has : Bool} {dict data : List UInt8} {a b : Nat} {X : List Bool} {bs : List UInt8} (h : Enc has dict data a b X bs) (src rest tl D0 : List UInt8) (t0 t1 t2 t3 : UInt8) (htl : tl = t0::t1::t2::t3::rest) (hs : src = (streamOf a b has dict [] bs).take ((if has then 6 else 2) + bs.length) ++ tl) (hD : has = true → D0 = dict)
  {hA dA kA U : Addr} {w w' : World} {e : Ending} (hU : UPost src [] D0 hA dA kA U (gOf has dict data D0 (pkOf bs X) tl) tl w e w') :
  ∃ vo,Rd w' vo (data.map U8) ∧ Ext (fun _ => False) w w' ∧ ((num4 t0 t1 t2 t3 = adler data ∧ e = .returned (.tuple #[vo,.int .i64 0,.int .i64 (rest.length : Nat)])) ∨ (num4 t0 t1 t2 t3 ≠ adler data ∧ ∃ z : Nat,e = .returned (.tuple #[vo,.int .i64 3,.int .i64 z]))):=by
 obtain ⟨vo,fault,rs,he,hx,hU⟩:=hU
 rcases hU with ⟨er,hw,_⟩ | ⟨p,D',L,hz,hr,hok,hle,hend⟩
 ·exact (h.go src tl D0 hs (fun o => by rw [hD o]) hw).elim
 ·obtain ⟨hDD,hst,_⟩:=h.str src [] tl D0 (by rw [List.append_nil];exact hs) (by rw [htl];simp) p D' hz
  have hheld : heldOf has D0 = dictOf has dict:=by
   rw [dictOf_last]
   cases has
   ·simp [heldOf]
   ·rw [hD rfl]
  have hL0 : L = data.take L.length:=by
   have:=hok hheld rfl
   rw [show lastOf D' = heldOf has D0 by rw [hDD,held_def],hheld] at this
   have e2 : (gOf has dict data D0 (pkOf bs X) tl).all = dictOf has dict ++ data:=by simp only [gOf]
   rw [e2,List.drop_left' rfl] at this
   exact this
  have hq : (lastOf D').length + L.length + (gOf has dict data D0 (pkOf bs X) tl).e = (gOf has dict data D0 (pkOf bs X) tl).all.length + (gOf has dict data D0 (pkOf bs X) tl).d → L = data:=fun hq => by
   have e1 : (gOf has dict data D0 (pkOf bs X) tl).e = (dictOf has dict).length:=by simp only [gOf]
   have e2 : (gOf has dict data D0 (pkOf bs X) tl).all.length = (dictOf has dict).length + data.length:=by simp only [gOf,List.length_append]
   have e3 : (gOf has dict data D0 (pkOf bs X) tl).d = (heldOf has D0).length:=by simp only [gOf]
   have e4 : lastOf D' = heldOf has D0:=by rw [hDD,held_def]
   rw [e1,e2,e3,e4] at hq
   rw [hL0,List.take_of_length_le (by omega)]
  cases hend with
  | data rest' hn => exact (hn hheld).elim
  | cut rest' hn => exact (hn rfl).elim
  | sum rest' s0 s1 s2 s3 r hh hqq hn p' hp =>
   rw [htl] at hh
   simp only [List.cons.injEq] at hh
   obtain ⟨rfl,rfl,rfl,rfl,rfl⟩:=hh
   obtain rfl:=hq hqq
   exact ⟨vo,hr,hx,.inr ⟨hn,rs,he⟩⟩
  | eof s0 s1 s2 s3 r hh hqq hn p' hp =>
   rw [htl] at hh
   simp only [List.cons.injEq] at hh
   obtain ⟨rfl,rfl,rfl,rfl,rfl⟩:=hh
   obtain rfl:=hq hqq
   refine ⟨vo,hr,hx,.inl ⟨hn,?_⟩⟩
   rw [he]
   have : src.length - p' = rest.length:=by
    have:=congrArg List.length hp
    rw [List.append_nil,List.length_drop] at this
    exact this
   rw [this];rfl
theorem gOf_small (has : Bool) (dict data D0 D' : List UInt8) (pk : Nat) (tl : List UInt8) (hD : D' = (if has then D0 else [])) (hd : data.length ≤ 2097152) : (gOf has dict data D0 pk tl).all.length + (gOf has dict data D0 pk tl).d ≤ (lastOf D').length + 1073741824:=by
 have e2 : (gOf has dict data D0 pk tl).all.length = (dictOf has dict).length + data.length:=by simp only [gOf,List.length_append]
 have e3 : (gOf has dict data D0 pk tl).d = (heldOf has D0).length:=by simp only [gOf]
 have e4 : lastOf D' = heldOf has D0:=by rw [hD,held_def]
 have e5 : (dictOf has dict).length ≤ 32768:=by
  unfold dictOf
  cases has
  ·simp
  ·simp only [if_true,List.length_drop];omega
 rw [e2,e3,e4]
 omega
theorem unpack_enc {has : Bool} {dict data : List UInt8} {a b : Nat} {X : List Bool} {bs : List UInt8} (h : Enc has dict data a b X bs) (src ext tl : List UInt8) (htl : 4 ≤ tl.length) (hs : src ++ ext = (streamOf a b has dict [] bs).take ((if has then 6 else 2) + bs.length) ++ tl) (sb so cap : Nat) (w : World) (hh : Held w sb so cap src)
  (A hA dA kA U : Addr) (hG : Given w A hA dA kA U) (dv : Value) (D : List UInt8) (hasU : Bool) (hv : Arg w dv D) (hD : D.length ≤ 1099511627776) (sv : Value) (szs : List Nat) (hsz : ∀ s ∈ szs,1 ≤ s ∧ s ≤ 1000) (hsl : szs.length ≤ 1099511627776) (hsv : Rd w sv (szs.map IV)) (hso : ∀ b,sv.ownBlock = some b → b < w.heap.size) (hd : data.length ≤ 2097152) :
  Calls Tryz.prog 16 #[.slice (some ⟨sb,so,none⟩) src.length cap,dv,.bool hasU,sv] w (UPost src ext (if hasU then D else []) hA dA kA U (gOf has dict data (if hasU then D else []) (pkOf bs X) tl) tl w) :=
 unpack_any sb so cap src ext A hA dA kA U dv D hasU sv szs _ (pkOf bs X) (dictOf has dict).length tl w hh.cells hh.small hh.room hh.lt hG.glo hG.low hv.rd hD hv.low hsz hsl hsv hso (fun p D' hz => by
  obtain ⟨h1,h2,_⟩:=h.str src ext tl _ hs htl p D' hz
  exact ⟨h2,gOf_small has dict data _ D' _ tl h1 hd⟩)
theorem unpack_all {has : Bool} {dict data : List UInt8} {a b : Nat} {X : List Bool} {bs : List UInt8} (h : Enc has dict data a b X bs) (src rest : List UInt8) (hs : src = streamOf a b has dict data bs ++ rest) (sb so cap : Nat) (w : World) (hh : Held w sb so cap src)
  (A hA dA kA U : Addr) (hG : Given w A hA dA kA U) (dv : Value) (D : List UInt8) (hasU : Bool) (hv : Arg w dv D) (hD : D.length ≤ 1099511627776) (hDd : has = true → hasU = true ∧ D = dict) (sv : Value) (szs : List Nat) (hsz : ∀ s ∈ szs,1 ≤ s ∧ s ≤ 1000) (hsl : szs.length ≤ 1099511627776) (hsv : Rd w sv (szs.map IV)) (hso : ∀ b,sv.ownBlock = some b → b < w.heap.size) (hd : data.length ≤ 2097152) :
  Calls Tryz.prog 16 #[.slice (some ⟨sb,so,none⟩) src.length cap,dv,.bool hasU,sv] w fun e w' => ∃ vo,e = .returned (.tuple #[vo,.int .i64 0,.int .i64 (rest.length : Nat)]) ∧ Rd w' vo (data.map U8) ∧ Ext (fun _ => False) w w':=by
 have hs' : src = (streamOf a b has dict [] bs).take ((if has then 6 else 2) + bs.length) ++ (fourB (adler data) ++ rest):=by
  rw [hs,stream_split,List.append_assoc]
 refine (unpack_enc h src [] (fourB (adler data) ++ rest) (by simp [fourB]) (by rw [List.append_nil];exact hs') sb so cap w hh A hA dA kA U hG dv D hasU hv hD sv szs hsz hsl hsv hso hd).mono ?_
 intro e w' hU
 obtain ⟨vo,h1,h2,h3⟩:=h.read src rest _ _ _ _ _ _ rfl hs' (fun o => by rw [(hDd o).1,(hDd o).2];rfl) hU
 rcases h3 with ⟨_,h3⟩ | ⟨h3,_⟩
 ·exact ⟨vo,h3,h1,h2⟩
 ·exact absurd (num4_four _ (adler_lt data)) h3
end Go.Proofs.YthpapbilhjobnaaGreatDoor
