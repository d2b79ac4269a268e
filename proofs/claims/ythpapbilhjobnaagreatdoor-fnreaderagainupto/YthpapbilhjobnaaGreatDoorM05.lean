/-
  Parts of the proofs over the reader and the encoder of streams, joined: De5 Ds Cd Ie Hb1 Hb2. Conditions: each theorem names its own.
-/
import Derived.Test.YthpapbilhjobnaaGreatDoorM01
import Derived.Test.YthpapbilhjobnaaGreatDoorM02
import Derived.Test.YthpapbilhjobnaaGreatDoorM04
import Derived.Deep.RegionLaw
import Derived.Deep.LoopGhost
import Derived.Deep.CutBlock
import Derived.Scope
set_option linter.unusedVariables false
set_option linter.unusedSimpArgs false
namespace Go.Proofs.YthpapbilhjobnaaGreatDoor
open Go.RowKit Pu
structure CP (hs hd : List UInt8) (src dist d0 d e : Nat) : Prop where
 len : hd.length = hs.length
 per : ∀ t,src + t < d → hd[src + t]? = hs[src + t % dist]?
 off : ∀ i,i < d0 ∨ d ≤ i → hd[i]? = hs[i]?
 mul : (d - src) % dist = 0 ∨ d = e
theorem CP.start (hs : List UInt8) (src dist d0 e : Nat) (h : d0 - src = dist) : CP hs hs src dist d0 d0 e :=
 ⟨rfl,fun t ht => by rw [Nat.mod_eq_of_lt (by omega)],fun _ _ => rfl,.inl (by rw [h,Nat.mod_self])⟩
theorem CP.step {hs hd : List UInt8} {src dist d0 d e n : Nat} (h : CP hs hd src dist d0 d e) (hlt : d < e) (he : e ≤ hs.length) (hsd : src ≤ d) (hd0 : d0 ≤ d) (hn : n = Nat.min (d - src) (e - d)) :
  CP hs (lay hd d ((hd.drop src).take n)) src dist d0 (d + n) e ∧ ((hd.drop src).take n).length = n ∧ d + n ≤ e:=by
 have hle : n ≤ e - d:=by rw [hn];exact Nat.min_le_right _ _
 have hle2 : n ≤ d - src:=by rw [hn];exact Nat.min_le_left _ _
 have hl : ((hd.drop src).take n).length = n:=by rw [List.length_take,List.length_drop,h.len];omega
 have hg:=lay_get hd d ((hd.drop src).take n) (by rw [hl,h.len];omega)
 have hm : (d - src) % dist = 0:=by
  rcases h.mul with h1 | h1
  ·exact h1
  ·omega
 refine ⟨⟨by rw [length_lay];exact h.len,fun t ht => ?_,fun i hi => ?_,?_⟩,hl,by omega⟩
 ·rw [hg,hl]
  split
  ·rename_i h1
   rw [List.getElem?_take,if_pos (by omega),List.getElem?_drop,h.per _ (by omega)]
   congr 2
   have : t = (d - src) + (src + t - d):=by omega
   conv => rhs;rw [this]
   rw [Nat.add_mod,hm,Nat.zero_add,Nat.mod_mod]
  ·exact h.per t (by omega)
 ·rw [hg,hl,if_neg (by omega)]
  exact h.off i (by omega)
 ·rcases Nat.lt_or_ge (d - src) (e - d) with h1 | h1
  ·left
   have : n = d - src:=by rw [hn];exact Nat.min_eq_left (by omega)
   rw [this,show d + (d - src) - src = (d - src) + (d - src) by omega,Nat.add_mod,hm]
   simp
  ·right
   have : n = e - d:=by rw [hn];exact Nat.min_eq_right (by omega)
   omega
theorem CP.win {hs hd : List UInt8} {src dist wr e : Nat} {full : Bool} {H : List UInt8} (h : CP hs hd src dist wr e e) (hw : Win hs wr full H) (h1 : 1 ≤ dist) (h2 : dist ≤ hsize wr full) (hsrc : src + dist = wr) (he : wr ≤ e) (he2 : e ≤ 32768) :
  Win hd e full (grow H dist (e - wr)):=by
 have hp:=period h1 h.per
 have:=hw.copy (hs':=hd) dist (e - wr) h1 h2 (by omega) h.len (fun j hj => by rw [if_pos (by omega)];exact hp (wr + j) (by omega) (by omega)) (fun i hi => h.off i (by omega))
 rw [show wr + (e - wr) = e by omega] at this
 exact this
def Copied (w : World) (F hb : Nat) (c : Array Value) (wr rd n : Nat) (full : Bool) (H : List UInt8) (e : Ending) (w' : World) : Prop :=
 e = .returned (.int .i64 n) ∧ ∃ c' hs',DD w' F hb c' hs' (wr + n) rd full ∧ Win hs' (wr + n) full H ∧ Same (fun k => k = 1038) c c' ∧ Ext (fun k => k = F ∨ k = hb) w w'
set_option maxRecDepth 100000 in
set_option maxHeartbeats 4000000 in
theorem tryWriteCopy_no (F hb : Nat) (c : Array Value) (hs : List UInt8) (wr rd dist n : Nat) (full : Bool) (w : World) (h : DD w F hb c hs wr rd full) (hd : dist ≤ 32768) (hn : n ≤ 100000) (hno : wr < dist ∨ 32768 < wr + n) :
  Calls Tryz.prog 81 #[.pointer (some ⟨F,1037,none⟩),.int .i64 dist,.int .i64 n] w fun e w' => e = .returned (.int .i64 0) ∧ w = w':=by
 obtain ⟨h1,h2,h3,h4⟩:=h.cells
 have hw:=h.wrle
 clear h
 rcases Nat.lt_or_ge wr dist with hlt | hge
 ·have hb1 : (wr : Int) < (dist : Int):=by omega
  go_enter Tryz.func81,Tryz.ntmps81
  go_wp2
  go_ret
  exact ⟨rfl,rfl⟩
 ·have hb1 : ¬ ((wr : Int) < (dist : Int)):=by omega
  have hb1' : decide (wr < dist) = false:=by simp;omega
  have hb2 : (32768 : Int) < (wr : Int) + (n : Int):=by omega
  go_enter Tryz.func81,Tryz.ntmps81
  go_wp2
  go_ret
  exact ⟨rfl,rfl⟩
set_option maxRecDepth 100000 in
set_option maxHeartbeats 4000000 in
theorem tryWriteCopy_yes (F hb : Nat) (c : Array Value) (hs H : List UInt8) (pw rd dist n : Nat) (full : Bool) (w : World) (h : DD w F hb c hs pw rd full) (hwin : Win hs pw full H) (hd1 : 1 ≤ dist) (hd : dist ≤ pw) (hn : pw + n ≤ 32768) :
  Calls Tryz.prog 81 #[.pointer (some ⟨F,1037,none⟩),.int .i64 dist,.int .i64 n] w (Copied w F hb c pw rd n full (grow H dist n)):=by
 obtain ⟨h1,h2,h3,h4⟩:=h.cells
 have hw:=h.wrle
 have HH:=Lib.hid h;have HW:=Lib.hid hwin
 clear h hwin
 have hb1 : ¬ ((pw : Int) < (dist : Int)):=by omega
 have hb1' : decide (pw < dist) = false:=by simp;omega
 have hb2 : ¬ ((32768 : Int) < (pw : Int) + (n : Int)):=by omega
 have hb3 : decide ((32768 : Int) < (pw : Int) + (n : Int)) = false:=by simp;omega
 obtain ⟨e,he⟩ : ∃ e,pw + n = e:=⟨_,rfl⟩
 obtain ⟨src,hsrc⟩ : ∃ x,pw - dist = x:=⟨_,rfl⟩
 have hE : (pw : Int) + (n : Int) = (e : Int):=by omega
 have hS : (pw : Int) - (dist : Int) = (src : Int):=by omega
 have hel : e ≤ 32768:=by omega
 have hwe : pw ≤ e:=by omega
 have hsw : src ≤ pw:=by omega
 have hsd : src + dist ≤ pw:=by omega
 have hsd2 : pw ≤ src + dist:=by omega
 have HEE:=Lib.hid he;have HSS:=Lib.hid hsrc
 have hb2 : ¬ ((32768 : Int) < (e : Int)):=by omega
 have hb3 : decide ((32768 : Int) < (e : Int)) = false:=by simp;omega
 clear he hsrc hn hd
 have hu:=Tryz.underlying22
 go_enter Tryz.func81,Tryz.ntmps81
 go_wp2_with fail
 clear hE hS h1 h2 h3 h4 hb2 hb3 hb1 hb1'
 obtain ⟨w0,rfl⟩ : ∃ w0 : World,w0 = w:=⟨_,rfl⟩
 obtain ⟨k0,hk0⟩ : ∃ k,e - pw = k:=⟨_,rfl⟩
 have HK0:=Lib.hid hk0
 clear hk0
 go_loopg [7] k0 (fun k s7 wx => ∃ (d : Nat) (hdl : List UInt8),s7 = .int .i64 d ∧ pw ≤ d ∧ d ≤ e ∧ DD wx F hb c hdl pw rd full ∧ CP hs hdl src dist pw d e ∧ Ext (fun k => k = hb) w0 wx ∧ k = e - d)
 case atStart => exact ⟨pw,hs,rfl,Nat.le_refl _,hwe,HH.out,CP.start hs src dist pw e (by omega),Ext.refl _ _,HK0.out.symm⟩
 case round =>
  obtain ⟨d,hdl,rfl,hd1',hd2',hdd,hcp,hex,hk⟩:=hrel
  obtain ⟨wo,rfl⟩ : ∃ wo : World,wo = wr:=⟨_,rfl⟩
  obtain ⟨h1,h2,h3,h4⟩:=hdd.cells
  have HDD:=Lib.hid hdd;have HCP:=Lib.hid hcp;have HEX:=Lib.hid hex;have HK:=Lib.hid hk
  clear hdd hcp hex hk
  rcases Nat.lt_or_ge d e with hlt | hge
  ·obtain ⟨n1,hn1⟩ : ∃ x,Nat.min (d - src) (e - d) = x:=⟨_,rfl⟩
   have hl32 : hdl.length = 32768:=HDD.out.size
   obtain ⟨hcp2,hcl,hle⟩:=HCP.out.step hlt (by rw [← HCP.out.len,hl32];exact hel) (by omega) hd1' hn1.symm
   have hn1p : 0 < n1:=by
    rw [← hn1]
    exact Nat.lt_min.2 ⟨by omega,by omega⟩
   obtain ⟨cs,hcs⟩ : ∃ l,(hdl.drop src).take n1 = l:=⟨_,rfl⟩
   rw [hcs] at hcp2 hcl
   have hsrcc : ∀ j x,(cs.map U8)[j]? = some x → wo.drew.cell? ⟨hb,src + j,none⟩ = some x:=by
    intro j x hx
    have:=(HDD.out.hblk.cell (src + j))
    show wo.cell? ⟨hb,src + j,none⟩ = some x
    rw [this]
    rw [← hcs,List.map_take,List.map_drop,List.getElem?_take] at hx
    split at hx
    ·rw [List.getElem?_drop] at hx;simpa using hx
    ·simp at hx
   have HSRC:=Lib.hid hsrcc;have HCP2:=Lib.hid hcp2;have HCL:=Lib.hid hcl;have HN1:=Lib.hid hn1;have HL32:=Lib.hid hl32
   clear hsrcc hcp2 hcl hn1 hcs hl32
   have hs1 : IntKind.i64.wrap ((d : Int) + (n1 : Int)) = (d : Int) + (n1 : Int):=IntWalk.i64_in _ (by omega)
   have hf1 : ¬ 32768 = d:=by omega
   have hf2 : ¬ 32768 = src:=by omega
   have hf3 : (d : Int) ≤ (e : Int):=by omega
   have hf4 : (src : Int) ≤ (d : Int):=by omega
   have hf5 : (e : Int) ≤ 32768:=by omega
   have hf6 : (d : Int) ≤ 32768:=by omega
   have hf7 : src ≤ d:=by omega
   go_wp2_with fail
   go_region_law (refine step_copy_bytes rfl (.tmp 44) (.tmp 51) 22 22 rfl 5 hu Tryz.size5 (some ⟨hb,d,none⟩) (some ⟨hb,src,none⟩) (e - d) (32768 - d) (d - src) (32768 - src) rfl rfl hb d hdl 5 HDD.out.hblk.drew cs (HCL.out.trans HN1.out.symm) (fun _ => ⟨rfl,hb,src,rfl,HSRC.out⟩) (by rw [HCL.out,HL32.out];omega) ?_
                  intro w2 hb2 he2
                  rw [HCL.out]
                  have HB2:=Lib.hid hb2;have HE2:=Lib.hid he2
                  clear hb2 he2)
   all_goals
    clear hs1
    go_wp2_with fail
    go_roundg (e - (d + n1))
    case measure => have:=HK.out;omega
    case rel =>
     have h:=HDD.out
     have he2 : Ext (fun k => k = hb) wo w2:=((Ext.refl _ wo).drew).trans HE2.out
     refine ⟨d + n1,lay hdl d cs,by go_num,by omega,by omega,⟨h.blk.ext he2 (fun e => h.ne e.symm),h.hist,h.wrc,h.rdc,h.fullc,HB2.out,h.ne,by rw [length_lay];exact h.size,h.wrle,h.rdle⟩,HCP2.out,HEX.out.trans he2,rfl⟩
  ·have hfr:=HDD.out.blk.free
   have hq : ¬ (d < e):=by omega
   have hpe : (d : Int) - (pw : Int) = (n : Int):=by have:=HEE.out;omega
   have HPE:=Lib.hid hpe
   clear hpe
   go_wp2_with fail
   go_ret
   have h:=HDD.out
   have hde : d = e:=by omega
   have hwin:=HCP.out
   rw [hde] at hwin
   have hpn : e - pw = n:=by have:=HEE.out;omega
   have hwn:=hwin.win HW.out hd1 (by have:=HW.out.hsize_le;omega) (by omega) hwe hel
   rw [hpn] at hwn
   refine ⟨ret_i64d HPE.out,c.setIfInBounds 1038 (.int .i64 (d : Int)),hdl,⟨h.blk.set 1038 _,?_,?_,?_,?_,h.hblk.setOther _ _ h.ne,h.ne,h.size,by omega,by have:=h.rdle;omega⟩,by rw [HEE.out];exact hwn,(Same.refl (fun k => k = 1038) c).set rfl _,?_⟩
   ·rw [set_ne c _ (by decide)];exact h.hist
   ·rw [set_eq _ (get_lt h.wrc),hde,← HEE.out]
   ·rw [set_ne c _ (by decide)];exact h.rdc
   ·rw [set_ne c _ (by decide)];exact h.fullc
   ·exact (HEX.out.mono (fun _ _ e => .inr e)).trans (Ext.mono (M:=fun k => k = F) ((Ext.refl _ wo).only _) (fun _ _ e => .inl e))
theorem CP.start2 (hs : List UInt8) (src dist d0 e : Nat) (h : d0 - src ≤ dist) (h2 : d0 - src = dist ∨ d0 = e) : CP hs hs src dist d0 d0 e :=
 ⟨rfl,fun t ht => by rw [Nat.mod_eq_of_lt (by omega)],fun _ _ => rfl,by
  rcases h2 with h2 | h2
  ·exact .inl (by rw [h2,Nat.mod_self])
  ·exact .inr h2⟩
theorem Pu.Win.around {hs : List UInt8} {pw dist c1 : Nat} {full : Bool} {H : List UInt8} (h : Win hs pw full H) (hd1 : 1 ≤ dist) (hd2 : dist ≤ hsize pw full) (hlt : pw < dist) (hc : c1 ≤ dist - pw) (he : pw + c1 ≤ 32768) :
  Win (Pu.lay hs pw ((hs.drop (pw + 32768 - dist)).take c1)) (pw + c1) full (grow H dist c1):=by
 have hle:=h.hsize_le
 have hl : ((hs.drop (pw + 32768 - dist)).take c1).length = c1:=by rw [List.length_take,List.length_drop,h.size];omega
 have hg:=lay_get hs pw ((hs.drop (pw + 32768 - dist)).take c1) (by rw [hl,h.size];omega)
 refine h.copy dist c1 hd1 hd2 he (by rw [length_lay]) (fun j hj => ?_) (fun i hi => ?_)
 ·rw [if_neg (by omega),hg,hl,if_pos (by omega),List.getElem?_take,if_pos (by omega),List.getElem?_drop]
  congr 1;omega
 ·rw [hg,hl,if_neg (by omega)]
set_option maxRecDepth 100000 in
set_option maxHeartbeats 8000000 in
theorem writeCopy_any (F hb : Nat) (c : Array Value) (hs H : List UInt8) (pw rd dist n e : Nat) (full : Bool) (w : World) (h : DD w F hb c hs pw rd full) (hwin : Win hs pw full H) (hd1 : 1 ≤ dist) (hd : dist ≤ hsize pw full) (hn : n ≤ 100000) (he : e = Nat.min (pw + n) 32768) :
  Calls Tryz.prog 82 #[.pointer (some ⟨F,1037,none⟩),.int .i64 dist,.int .i64 n] w (Copied w F hb c pw rd (e - pw) full (grow H dist (e - pw))):=by
 obtain ⟨h1,h2,h3,h4⟩:=h.cells
 have hw:=h.wrle
 have hle:=hwin.hsize_le
 have HH:=Lib.hid h;have HW:=Lib.hid hwin;have HD2:=Lib.hid hd
 have hd32 : dist ≤ 32768:=by omega
 have hel : e ≤ 32768:=by rw [he];exact Nat.min_le_right _ _
 have hwe : pw ≤ e:=by rw [he];exact Nat.le_min.2 ⟨by omega,by omega⟩
 have hen : e = pw + n ∨ (e = 32768 ∧ 32768 ≤ pw + n):=by
  rcases Nat.lt_or_ge (pw + n) 32768 with h5 | h5
  ·left;rw [he];exact Nat.min_eq_left (by omega)
  ·right;exact ⟨by rw [he];exact Nat.min_eq_right h5,h5⟩
 have HEN:=Lib.hid hen
 clear h hwin hd he hen hle
 have hu:=Tryz.underlying22
 go_enter Tryz.func82,Tryz.ntmps82
 go_upto_region 4 with (fail)
 go_cut [10] (fun x wx => w = wx ∧ x = .int .i64 e)
 case first =>
  rcases Nat.lt_or_ge 32768 (pw + n) with h5 | h5
  ·have m1 : (32768 : Int) < (pw : Int) + (n : Int):=by omega
   have m2 : ¬ ((pw : Int) + (n : Int) ≤ 32768):=by omega
   go_wp2_with fail
   go_meet
   case rel => exact ⟨rfl,by have:=HEN.out;rw [show e = 32768 by omega];rfl⟩
  ·have m2 : (pw : Int) + (n : Int) ≤ 32768:=by omega
   go_wp2_with fail
   go_meet
   case rel => exact ⟨rfl,by have:=HEN.out;rw [show e = pw + n by omega];go_num⟩
 obtain ⟨rfl,rfl⟩:=hcut
 go_upto_if 29 with (fail)
 go_cut [8,9] (fun x y wx => ∃ (d1 src : Nat) (hs1 : List UInt8),x = .int .i64 d1 ∧ y = .int .i64 src ∧ pw ≤ d1 ∧ d1 ≤ e ∧ src < d1 + 1 ∧ (d1 < e → src < d1) ∧ DD wx F hb c hs1 pw rd full ∧ CP hs1 hs1 src dist d1 d1 e ∧
  (∀ hd,CP hs1 hd src dist d1 e e → Win hd e full (grow H dist (e - pw))) ∧ Ext (fun k => k = hb) w wx)
 case first =>
  rcases Nat.lt_or_ge pw dist with hlt | hge
  ·have hb1 : (pw : Int) - (dist : Int) < 0:=by omega
   obtain ⟨s0,hs0⟩ : ∃ x,pw + 32768 - dist = x:=⟨_,rfl⟩
   have hS : (pw : Int) - (dist : Int) + 32768 = (s0 : Int):=by omega
   obtain ⟨c1,hc1⟩ : ∃ x,Nat.min (32768 - s0) (e - pw) = x:=⟨_,rfl⟩
   have hc1a : c1 ≤ dist - pw:=by rw [← hc1];exact Nat.le_trans (Nat.min_le_left _ _) (by omega)
   have hc1b : c1 ≤ e - pw:=by rw [← hc1];exact Nat.min_le_right _ _
   have hc1c : c1 = dist - pw ∨ c1 = e - pw:=by
    rcases Nat.lt_or_ge (32768 - s0) (e - pw) with h5 | h5
    ·left;rw [← hc1,show Nat.min (32768 - s0) (e - pw) = 32768 - s0 from Nat.min_eq_left (by omega)];omega
    ·right;rw [← hc1];exact Nat.min_eq_right h5
   have hw1:=HW.out.around hd1 HD2.out hlt hc1a (by omega)
   rw [hs0] at hw1
   obtain ⟨cs,hcs⟩ : ∃ l,(hs.drop s0).take c1 = l:=⟨_,rfl⟩
   have hcl : cs.length = c1:=by rw [← hcs,List.length_take,List.length_drop,HH.out.size];omega
   rw [hcs] at hw1
   have hsrcc : ∀ j x,(cs.map U8)[j]? = some x → w.drew.cell? ⟨hb,s0 + j,none⟩ = some x:=by
    intro j x hx
    show w.cell? ⟨hb,s0 + j,none⟩ = some x
    rw [HH.out.hblk.cell (s0 + j)]
    rw [← hcs,List.map_take,List.map_drop,List.getElem?_take] at hx
    split at hx
    ·rw [List.getElem?_drop] at hx;simpa using hx
    ·simp at hx
   have HSRC:=Lib.hid hsrcc;have HCL:=Lib.hid hcl;have HC1:=Lib.hid hc1;have HW1:=Lib.hid hw1;have HC1C:=Lib.hid hc1c
   have HS0:=Lib.hid hs0
   have hs0l : s0 < 32768:=by omega
   have hpl : pw < 32768:=by omega
   clear hsrcc hcl hc1 hw1 hcs hc1c hs0
   have hs1 : IntKind.i64.wrap ((pw : Int) + (c1 : Int)) = (pw : Int) + (c1 : Int):=IntWalk.i64_in _ (by omega)
   have hf1 : ¬ 32768 = pw:=by omega
   have hf2 : ¬ 32768 = s0:=by omega
   have hf3 : (pw : Int) ≤ (e : Int):=by omega
   have hf4 : (s0 : Int) ≤ 32768:=by omega
   have hf5 : (e : Int) ≤ 32768:=by omega
   have hf6 : (pw : Int) ≤ 32768:=by omega
   have hb2 : decide ((pw : Int) - (dist : Int) < 0) = true:=by simp;omega
   go_simp
   go_wp2_with fail
   go_region_law (refine step_copy_bytes rfl (.tmp 44) (.tmp 50) 22 22 rfl 5 hu Tryz.size5 (some ⟨hb,pw,none⟩) (some ⟨hb,s0,none⟩) (e - pw) (32768 - pw) (32768 - s0) (32768 - s0) rfl rfl hb pw hs 5 HH.out.hblk.drew cs (HCL.out.trans HC1.out.symm) (fun _ => ⟨rfl,hb,s0,rfl,HSRC.out⟩) (by rw [HCL.out,HH.out.size];omega) ?_
                  intro w2 hb2 he2
                  rw [HCL.out]
                  have HB2:=Lib.hid hb2;have HE2:=Lib.hid he2
                  clear hb2 he2)
   all_goals
    clear hs1
    go_wp2_with fail
    go_meet
    case rel =>
     have h:=HH.out
     have hc:=HC1C.out
     have he2 : Ext (fun k => k = hb) w w2:=((Ext.refl _ w).drew).trans HE2.out
     refine ⟨pw + c1,0,Pu.lay hs pw cs,by go_num,rfl,by omega,by omega,by omega,by omega,⟨h.blk.ext he2 (fun e => h.ne e.symm),h.hist,h.wrc,h.rdc,h.fullc,HB2.out,h.ne,by rw [length_lay];exact h.size,h.wrle,h.rdle⟩,CP.start2 _ _ _ _ _ (by omega) (by omega),fun hd hcp => ?_,he2⟩
     rcases Nat.lt_or_ge (pw + c1) e with h5 | h5
     ·have hz : (0 : Nat) + dist = pw + c1:=by omega
      have hq:=hcp.win HW1.out hd1 (by cases full <;> simp [hsize] <;> omega) hz (by omega) (by omega)
      rw [← grow_add,show c1 + (e - (pw + c1)) = e - pw by omega] at hq
      exact hq
     ·have h6 : pw + c1 = e:=by omega
      have h7 : hd = Pu.lay hs pw cs:=List.ext_getElem? (fun i => hcp.off i (by omega))
      rw [h7,← h6,show pw + c1 - pw = c1 by omega]
      exact HW1.out
  ·have hb1 : ¬ ((pw : Int) - (dist : Int) < 0):=by omega
   obtain ⟨s0,hs0⟩ : ∃ x,pw - dist = x:=⟨_,rfl⟩
   have hS : (pw : Int) - (dist : Int) = (s0 : Int):=by omega
   have hb2 : decide ((pw : Int) - (dist : Int) < 0) = false:=by simp;omega
   have hb3 : ¬ ((s0 : Int) < 0):=by omega
   have HS0:=Lib.hid hs0
   clear hs0
   go_simp
   go_wp2_with fail
   go_meet
   case rel =>
    have h0:=HS0.out
    exact ⟨pw,s0,hs,by go_num,by go_num,Nat.le_refl _,hwe,by omega,by omega,HH.out,CP.start2 _ _ _ _ _ (by omega) (by omega),fun hd hcp => hcp.win HW.out hd1 HD2.out (by omega) hwe hel,Ext.refl _ _⟩
 obtain ⟨d1,src,hz,rfl,rfl,hd1a,hd1b,hsd,hsd2,hdd1,hcp1,hwin1,hex1⟩:=hcut
 have HDD1:=Lib.hid hdd1;have HCP1:=Lib.hid hcp1;have HWIN1:=Lib.hid hwin1;have HEX1:=Lib.hid hex1
 clear hdd1 hcp1 hwin1 hex1 h1 h2 h3 h4
 obtain ⟨k0,hk0⟩ : ∃ k,e - d1 = k:=⟨_,rfl⟩
 have HK0:=Lib.hid hk0
 clear hk0
 go_wp2_with fail
 go_loopg [8] k0 (fun k s7 wx => ∃ (d : Nat) (hdl : List UInt8),s7 = .int .i64 d ∧ d1 ≤ d ∧ d ≤ e ∧ DD wx F hb c hdl pw rd full ∧ CP hz hdl src dist d1 d e ∧ Ext (fun k => k = hb) w wx ∧ k = e - d)
 case atStart => exact ⟨d1,hz,rfl,Nat.le_refl _,hd1b,HDD1.out,HCP1.out,HEX1.out,HK0.out.symm⟩
 case round =>
  obtain ⟨d,hdl,rfl,hd1',hd2',hdd,hcp,hex,hk⟩:=hrel
  obtain ⟨wo,rfl⟩ : ∃ wo : World,wo = wr:=⟨_,rfl⟩
  obtain ⟨h1,h2,h3,h4⟩:=hdd.cells
  have HDD:=Lib.hid hdd;have HCP:=Lib.hid hcp;have HEX:=Lib.hid hex;have HK:=Lib.hid hk
  clear hdd hcp hex hk
  rcases Nat.lt_or_ge d e with hlt | hge
  ·have hsd3 : src < d1:=hsd2 (by omega)
   obtain ⟨n1,hn1⟩ : ∃ x,Nat.min (d - src) (e - d) = x:=⟨_,rfl⟩
   have hl32 : hdl.length = 32768:=HDD.out.size
   obtain ⟨hcp2,hcl,hle⟩:=HCP.out.step hlt (by rw [← HCP.out.len,hl32];exact hel) (by omega) hd1' hn1.symm
   have hn1p : 0 < n1:=by
    rw [← hn1]
    exact Nat.lt_min.2 ⟨by omega,by omega⟩
   obtain ⟨cs,hcs⟩ : ∃ l,(hdl.drop src).take n1 = l:=⟨_,rfl⟩
   rw [hcs] at hcp2 hcl
   have hsrcc : ∀ j x,(cs.map U8)[j]? = some x → wo.drew.cell? ⟨hb,src + j,none⟩ = some x:=by
    intro j x hx
    have:=(HDD.out.hblk.cell (src + j))
    show wo.cell? ⟨hb,src + j,none⟩ = some x
    rw [this]
    rw [← hcs,List.map_take,List.map_drop,List.getElem?_take] at hx
    split at hx
    ·rw [List.getElem?_drop] at hx;simpa using hx
    ·simp at hx
   have HSRC:=Lib.hid hsrcc;have HCP2:=Lib.hid hcp2;have HCL:=Lib.hid hcl;have HN1:=Lib.hid hn1;have HL32:=Lib.hid hl32
   clear hsrcc hcp2 hcl hn1 hcs hl32
   have hs1 : IntKind.i64.wrap ((d : Int) + (n1 : Int)) = (d : Int) + (n1 : Int):=IntWalk.i64_in _ (by omega)
   have hf1 : ¬ 32768 = d:=by omega
   have hf2 : ¬ 32768 = src:=by omega
   have hf3 : (d : Int) ≤ (e : Int):=by omega
   have hf4 : (src : Int) ≤ (d : Int):=by omega
   have hf5 : (e : Int) ≤ 32768:=by omega
   have hf6 : (d : Int) ≤ 32768:=by omega
   have hf7 : src ≤ d:=by omega
   go_wp2_with fail
   go_region_law (refine step_copy_bytes rfl (.tmp 63) (.tmp 70) 22 22 rfl 5 hu Tryz.size5 (some ⟨hb,d,none⟩) (some ⟨hb,src,none⟩) (e - d) (32768 - d) (d - src) (32768 - src) rfl rfl hb d hdl 5 HDD.out.hblk.drew cs (HCL.out.trans HN1.out.symm) (fun _ => ⟨rfl,hb,src,rfl,HSRC.out⟩) (by rw [HCL.out,HL32.out];omega) ?_
                  intro w2 hb2 he2
                  rw [HCL.out]
                  have HB2:=Lib.hid hb2;have HE2:=Lib.hid he2
                  clear hb2 he2)
   all_goals
    clear hs1
    go_wp2_with fail
    go_roundg (e - (d + n1))
    case measure => have:=HK.out;omega
    case rel =>
     have h:=HDD.out
     have he2 : Ext (fun k => k = hb) wo w2:=((Ext.refl _ wo).drew).trans HE2.out
     refine ⟨d + n1,lay hdl d cs,by go_num,by omega,by omega,⟨h.blk.ext he2 (fun e => h.ne e.symm),h.hist,h.wrc,h.rdc,h.fullc,HB2.out,h.ne,by rw [length_lay];exact h.size,h.wrle,h.rdle⟩,HCP2.out,HEX.out.trans he2,rfl⟩
  ·have hfr:=HDD.out.blk.free
   have hq : ¬ (d < e):=by omega
   have hpe : (d : Int) - (pw : Int) = ((e - pw : Nat) : Int):=by omega
   have HPE:=Lib.hid hpe
   clear hpe
   go_wp2_with fail
   go_ret
   have h:=HDD.out
   have hde : d = e:=by omega
   have hwin:=HCP.out
   rw [hde] at hwin
   have hwn:=HWIN1.out hdl hwin
   have hpn : pw + (e - pw) = e:=by omega
   refine ⟨ret_i64d HPE.out,c.setIfInBounds 1038 (.int .i64 (d : Int)),hdl,⟨h.blk.set 1038 _,?_,?_,?_,?_,h.hblk.setOther _ _ h.ne,h.ne,h.size,by omega,by have:=h.rdle;omega⟩,by rw [hpn];exact hwn,(Same.refl (fun k => k = 1038) c).set rfl _,?_⟩
   ·rw [set_ne c _ (by decide)];exact h.hist
   ·rw [set_eq _ (get_lt h.wrc),hde,hpn]
   ·rw [set_ne c _ (by decide)];exact h.rdc
   ·rw [set_ne c _ (by decide)];exact h.fullc
   ·exact (HEX.out.mono (fun _ _ e => .inr e)).trans (Ext.mono (M:=fun k => k = F) ((Ext.refl _ wo).only _) (fun _ _ e => .inl e))
end Go.Proofs.YthpapbilhjobnaaGreatDoor
namespace Go.Proofs.YthpapbilhjobnaaGreatDoor
open Go.RowKit Pu
def jumps (J : Nat → Act → World → Prop) (Q : Exit → Act → World → Prop) : Exit → Act → World → Prop
 | .goto l,a,w => J l a w
 | e,a,w => Q e a w
theorem wp_scope_all {P : Program} {a : Act} {w : World} {Q : Exit → Act → World → Prop} {c : Code} (J : Nat → Nat → Act → World → Prop)
  (first : c.wp P (jumps (fun l a w => ∃ n,J n l a w) Q) a w)
  (pass : ∀ n l a w,J n l a w → ∃ rest,findLabel c l = some rest ∧ rest.wp P (jumps (fun l' a' w' => ∃ n',n' < n ∧ J n' l' a' w') Q) a w) : (Code.scope c).wp P Q a w:=by
 intro b k cs
 have hg : ∀ l rest,findLabel c l = some rest → gotoIn l (.inScope c::k) = some (.code rest::.inScope c::k):=fun l rest hf => by simp [gotoIn,hf]
 have key : ∀ n l a w,J n l a w → ∃ rest,findLabel c l = some rest ∧ ∃ e a' w',Q e a' w' ∧ Arrives P (lone (b.at a (.code rest::.inScope c::k)) cs w) b k cs e a' w':=by
  intro n
  induction n using Nat.strongRecOn with
  | _ n ih =>
   intro l a w hJ
   obtain ⟨rest,hf,hp⟩:=pass n l a w hJ
   refine ⟨rest,hf,?_⟩
   obtain ⟨e,a₁,w₁,hq,harr⟩:=hp b (.inScope c::k) cs
   cases e with
   | normal => exact ⟨.normal,a₁,w₁,hq,Steps.trans harr (.one step_inScope)⟩
   | exit id => exact ⟨.exit id,a₁,w₁,hq,fun k' hk => harr k' (by simp [exitTo,hk])⟩
   | goto l' =>
    obtain ⟨n',hlt,hJ'⟩:=hq
    obtain ⟨rest',hf',e₂,a₂,w₂,hq₂,harr₂⟩:=ih n' hlt l' a₁ w₁ hJ'
    exact ⟨e₂,a₂,w₂,hq₂,.of_steps (harr _ (hg l' rest' hf')) harr₂⟩
   | ret => exact ⟨_,a₁,w₁,hq,harr⟩
   | panic ch => exact ⟨_,a₁,w₁,hq,harr⟩
   | outgrown => exact ⟨_,a₁,w₁,hq,harr⟩
 obtain ⟨e,a₁,w₁,hq,harr⟩:=first b (.inScope c::k) cs
 cases e with
 | normal => exact ⟨.normal,a₁,w₁,hq,.head step_scope (Steps.trans harr (.one step_inScope))⟩
 | exit id => exact ⟨.exit id,a₁,w₁,hq,fun k' hk => .head step_scope (harr k' (by simp [exitTo,hk]))⟩
 | goto l' =>
  obtain ⟨n,hJ'⟩:=hq
  obtain ⟨rest,hf,e₂,a₂,w₂,hq₂,harr₂⟩:=key n l' a₁ w₁ hJ'
  exact ⟨e₂,a₂,w₂,hq₂,.of_steps (.head step_scope (harr _ (hg l' rest hf))) harr₂⟩
 | ret => exact ⟨_,a₁,w₁,hq,.of_steps (.one step_scope) harr⟩
 | panic ch => exact ⟨_,a₁,w₁,hq,.of_steps (.one step_scope) harr⟩
 | outgrown => exact ⟨_,a₁,w₁,hq,.of_steps (.one step_scope) harr⟩
def fnV (k : Nat) : Value:=.func (.func k) #[] #[]
def OutIs (c : Array Value) (hb : Nat) (hs T : List UInt8) : Prop :=
 (T = [] ∧ c[1049]? = some (.slice none 0 0)) ∨ ∃ a cap,c[1049]? = some (.slice (some ⟨hb,a,none⟩) T.length cap) ∧ T.length ≤ cap ∧ cap ≤ 32768 ∧ (hs.drop a).take T.length = T
structure W3 (x : Pl) (w : World) (c : Array Value) (q : Nat) (H hs : List UInt8) (wr rd : Nat) (full : Bool) (T : List UInt8) : Prop where
 dd : DD w x.F x.hb c hs wr rd full
 win : Win hs wr full H
 lt : wr < 32768
 out : OutIs c x.hb hs T
 len : H.length = q + T.length + (wr - rd)
 tl : T = (H.drop q).take T.length
def Pl.M3 (x : Pl) : Nat → Prop:=fun k => k = x.F ∨ k = x.R ∨ k = x.hb
theorem FM_M3 {x : Pl} {k : Nat} (h : FM x.F x.R k) : x.M3 k:=by
 rcases h with h | h
 ·exact .inl h
 ·exact .inr (.inl h)
theorem M3_M {x : Pl} {k : Nat} (h : x.M3 k) : x.M k:=by
 rcases h with h | h | h
 ·exact .inl h
 ·exact .inr (.inl h)
 ·exact .inr (.inr (.inl h))
def HBM : Nat → Prop:=fun k => k = 2 ∨ k = 3 ∨ k = 4 ∨ k = 1038 ∨ k = 1039 ∨ k = 1040 ∨ k = 1045 ∨ k = 1046 ∨ k = 1048 ∨ k = 1049 ∨ k = 1052 ∨ k = 1053
theorem BM_HBM {k : Nat} (h : BM k) : HBM k:=by unfold BM at h;unfold HBM;omega
section
variable {x : Pl} {w w' : World} {c c' : Array Value} {H hs : List UInt8} {wr rd : Nat} {full : Bool}
theorem DD.took {Y BB : List Bool} {p : Nat} (h : DD w x.F x.hb c hs wr rd full) (ap : Apart x) (ht : Tak x w c Y w' c' BB p) : DD w' x.F x.hb c' hs wr rd full :=
 ⟨ht.blk,by rw [ht.same.2 _ (BM_low (by omega))];exact h.hist,by rw [ht.same.2 _ (BM_low (by omega))];exact h.wrc,by rw [ht.same.2 _ (BM_low (by omega))];exact h.rdc,by rw [ht.same.2 _ (BM_low (by omega))];exact h.fullc,
  h.hblk.ext ht.ext (fun e => by rcases e with e | e;exact ap.Fh e.symm;exact ap.Rh e.symm),h.ne,h.size,h.wrle,h.rdle⟩
theorem DD.setF (h : DD w x.F x.hb c hs wr rd full) {k : Nat} (v : Value) (hk : k ≠ 1037 ∧ k ≠ 1038 ∧ k ≠ 1039 ∧ k ≠ 1040) : DD (w.setCell ⟨x.F,k,none⟩ v) x.F x.hb (c.setIfInBounds k v) hs wr rd full :=
 ⟨h.blk.set k v,by rw [set_ne _ _ hk.1];exact h.hist,by rw [set_ne _ _ hk.2.1];exact h.wrc,by rw [set_ne _ _ hk.2.2.1];exact h.rdc,by rw [set_ne _ _ hk.2.2.2];exact h.fullc,h.hblk.setOther _ _ h.ne,h.ne,h.size,h.wrle,h.rdle⟩
theorem Tak.setF {Y BB : List Bool} {p : Nat} (t : Tak x w c Y w c BB p) (ap : Apart x) {k : Nat} (v : Value) (hk : 5 ≤ k) : Tak x (w.setCell ⟨x.F,k,none⟩ v) (c.setIfInBounds k v) Y (w.setCell ⟨x.F,k,none⟩ v) (c.setIfInBounds k v) BB p:=by
 have he : Ext (fun j => j = x.F) w (w.setCell ⟨x.F,k,none⟩ v):=(Ext.refl _ w).only _
 obtain ⟨z,hz⟩:=t.bits.off
 exact ⟨t.blk.set k v,Same.refl _ _,by rw [set_ne _ _ (by omega)];exact t.rdr,⟨by rw [set_ne _ _ (by omega)];exact t.bits.b,by rw [set_ne _ _ (by omega)];exact t.bits.nb,z,by rw [set_ne _ _ (by omega)];exact hz⟩,
  t.src.ext he (fun e => ap.FR e.symm) ap.sF,t.ends.ext he (fun j hj e => ap.E j hj (.inl e)),Ext.refl _ _,t.z⟩
theorem Tak.wind {Y BB : List Bool} {p : Nat} (t : Tak x w c Y w c BB p) (ap : Apart x) (hb : Blk w' x.F c' 147) {S : Nat → Prop} (hs : Same S c c') (hS : ∀ k,k < 5 → ¬ S k) (he : Ext (fun k => k = x.F ∨ k = x.hb) w w') : Tak x w' c' Y w' c' BB p:=by
 obtain ⟨z,hz⟩:=t.bits.off
 exact ⟨hb,Same.refl _ _,by rw [hs.2 0 (hS 0 (by omega))];exact t.rdr,⟨by rw [hs.2 3 (hS 3 (by omega))];exact t.bits.b,by rw [hs.2 4 (hS 4 (by omega))];exact t.bits.nb,z,by rw [hs.2 2 (hS 2 (by omega))];exact hz⟩,
  t.src.ext he (fun e => by rcases e with e | e;exact ap.FR e.symm;exact ap.Rh e) (fun e => by rcases e with e | e;exact ap.sF e;exact ap.sh e),t.ends.ext he (fun k hk e => by rcases e with e | e;exact ap.E k hk (.inl e);exact ap.E k hk (.inr (.inr (.inl e)))),Ext.refl _ _,t.z⟩
end
def FBM : Nat → Prop:=fun k => k = 1038 ∨ k = 1039 ∨ k = 1040 ∨ k = 1045 ∨ k = 1048 ∨ k = 1049
theorem FBM_HBM {k : Nat} (h : FBM k) : HBM k:=by unfold FBM at h;unfold HBM;omega
def FinPost (x : Pl) (w : World) (c : Array Value) (fin : Bool) (hs : List UInt8) (wr rd : Nat) (full : Bool) (e : Ending) (w' : World) : Prop :=
 e = .returned (.tuple #[]) ∧ ∃ c',Same FBM c c' ∧ Ext (fun k => k = x.F) w w' ∧ c'[1045]? = some (fnV 61) ∧
  ((fin = false ∧ DD w' x.F x.hb c' hs wr rd full ∧ c'[1048]? = c[1048]? ∧ c'[1049]? = c[1049]?) ∨
   (fin = true ∧ c'[1048]? = some (.iface 175 (.pointer (some x.A))) ∧ ((wr = rd ∧ DD w' x.F x.hb c' hs wr rd full ∧ c'[1049]? = c[1049]?) ∨
     (rd < wr ∧ DD w' x.F x.hb c' hs wr wr full ∧ c'[1049]? = some (.slice (some ⟨x.hb,rd,none⟩) (wr - rd) (32768 - rd))))))
set_option maxRecDepth 100000 in
set_option maxHeartbeats 4000000 in
theorem finishBlock_any (x : Pl) (ap : Apart x) (w : World) (c : Array Value) (fin : Bool) (hs : List UInt8) (wr rd : Nat) (full : Bool) (hsz : c.size = 1054) (h : DD w x.F x.hb c hs wr rd full) (hlt : wr < 32768) (hf : c[1047]? = some (.bool fin)) (hE : Ends w x.A x.U) :
  Calls Tryz.prog 73 #[.pointer (some ⟨x.F,0,none⟩)] w (FinPost x w c fin hs wr rd full):=by
 have hfc : w.cell? ⟨x.F,1047,none⟩ = some (.bool fin):=by rw [h.blk.cell];exact hf
 have hfr:=h.blk.free
 have hst : ∃ v,w.cell? ⟨x.F,1045,none⟩ = some v:=⟨c[1045]'(by omega),by rw [h.blk.cell,Array.getElem?_eq_getElem]⟩
 obtain ⟨v45,hst⟩:=hst
 have HH:=Lib.hid h;have HEE:=Lib.hid hE
 clear hf
 have hsz5:=hsz
 cases fin with
 | false =>
  clear h hE
  go_enter Tryz.func73,Tryz.ntmps73
  go_wp2_with fail
  go_end0
  refine ⟨rfl,c.setIfInBounds 1045 (fnV 61),(Same.refl FBM c).set (by unfold FBM;omega) _,(Ext.refl _ w).only _,set_eq _ (by omega),.inl ⟨rfl,HH.out.setF _ (by omega),set_ne _ _ (by omega),set_ne _ _ (by omega)⟩⟩
 | true =>
  have HA:=Lib.hid (availRead_any x.F x.hb c hs wr rd full w HH.out)
  have hg0:=hE.eof.cell
  have hn0 : (0 : Nat) ≠ x.F:=fun e => ap.E 0 (.inl rfl) (.inl e)
  have hrd:=HH.out.rdle
  have hc48 : ∃ v,w.cell? ⟨x.F,1048,none⟩ = some v:=⟨c[1048]'(by omega),by rw [HH.out.blk.cell,Array.getElem?_eq_getElem]⟩
  obtain ⟨v48,hc48⟩:=hc48
  have hc49 : ∃ v,w.cell? ⟨x.F,1049,none⟩ = some v:=⟨c[1049]'(by omega),by rw [HH.out.blk.cell,Array.getElem?_eq_getElem]⟩
  obtain ⟨v49,hc49⟩:=hc49
  clear h hE
  go_enter Tryz.func73,Tryz.ntmps73
  go_wp2_with fail
  refine HA.out.mono ?_
  rintro e w1 ⟨rfl,he1⟩
  have hst1:=he1.cellSome (fun e => e) hst
  have hg01:=he1.cellSome (fun e => e) hg0
  have hc481:=he1.cellSome (fun e => e) hc48
  have hc491:=he1.cellSome (fun e => e) hc49
  have hdd1:=HH.out.ext he1 (fun e => e) (fun e => e)
  have hfr1:=hdd1.blk.free
  have HD1:=Lib.hid hdd1;have HE1:=Lib.hid he1
  clear hst hg0 hfr hc48 hc49 hfc hdd1 he1
  rcases Nat.lt_or_ge rd wr with hlr | hlr
  ·have hq : (0 : Int) < ((wr - rd : Nat) : Int):=by omega
   have HR:=Lib.hid (readFlush_any x.F x.hb c hs wr rd full w1 HD1.out (by omega))
   obtain ⟨d,hd⟩ : ∃ d,wr - rd = d:=⟨_,rfl⟩
   rw [hd] at hq ⊢
   have HDD:=Lib.hid hd
   clear hd
   go_wp2_with fail
   refine HR.out.mono ?_
   rintro e w2 ⟨c2,rfl,hd2,hs2,he2⟩
   rw [if_neg (by omega),if_neg (by omega)] at hd2
   have hst2 : w2.cell? ⟨x.F,1045,none⟩ = some v45:=by rw [hd2.blk.cell,hs2.2 1045 (by omega),← HD1.out.blk.cell];exact hst1
   have hc482 : w2.cell? ⟨x.F,1048,none⟩ = some v48:=by rw [hd2.blk.cell,hs2.2 1048 (by omega),← HD1.out.blk.cell];exact hc481
   have hc492 : w2.cell? ⟨x.F,1049,none⟩ = some v49:=by rw [hd2.blk.cell,hs2.2 1049 (by omega),← HD1.out.blk.cell];exact hc491
   have hg02:=he2.cellSome hn0 hg01
   have hfr2:=hd2.blk.free
   have HD2:=Lib.hid hd2;have HS2:=Lib.hid hs2;have HE2:=Lib.hid he2
   have hsz2 : c2.size = 1054:=by rw [hs2.1];exact hsz5
   clear hd2 hs2 he2 hst1 hc481 hc491 hg01 hfr1
   go_wp2_with fail
   go_end0
   refine ⟨rfl,((c2.setIfInBounds 1049 (.slice (some ⟨x.hb,rd,none⟩) (wr - rd) (32768 - rd))).setIfInBounds 1048 (.iface 175 (.pointer (some x.A)))).setIfInBounds 1045 (fnV 61),((((HS2.out.mono (fun k h => by unfold FBM;omega)).set (by unfold FBM;omega) _).set (by unfold FBM;omega) _).set (by unfold FBM;omega) _),
    ((((HE1.out.mono (fun _ _ e => e.elim)).trans HE2.out).only _).only _).only _,set_eq _ (by simp;omega),.inr ⟨rfl,?_,.inr ⟨hlr,?_,?_⟩⟩⟩
   ·rw [set_ne _ _ (by decide),set_eq _ (by simp;omega)]
   ·exact ((HD2.out.setF _ (by omega)).setF _ (by omega)).setF _ (by omega)
   ·rw [set_ne _ _ (by decide),set_ne _ _ (by decide),set_eq _ (by omega)]
  ·have hwr : wr = rd:=by omega
   have hq : ¬ ((0 : Int) < ((wr - rd : Nat) : Int)):=by omega
   go_wp2_with fail
   go_end0
   refine ⟨rfl,(c.setIfInBounds 1048 (.iface 175 (.pointer (some x.A)))).setIfInBounds 1045 (fnV 61),((Same.refl FBM c).set (by unfold FBM;omega) _).set (by unfold FBM;omega) _,
    ((HE1.out.mono (fun _ _ e => e.elim)).only _).only _,set_eq _ (by simp;omega),.inr ⟨rfl,?_,.inl ⟨hwr,?_,?_⟩⟩⟩
   ·rw [set_ne _ _ (by decide),set_eq _ (by omega)]
   ·exact (HD1.out.setF _ (by omega)).setF _ (by omega)
   ·rw [set_ne _ _ (by decide),set_ne _ _ (by decide)]
end Go.Proofs.YthpapbilhjobnaaGreatDoor
namespace Go.Proofs.YthpapbilhjobnaaGreatDoor
def regionOf (n : Nat) : Code → Option Code
 | .seq a b => match regionOf n a with
  | some c => some c
  | none => regionOf n b
 | .cond _ a b => match regionOf n a with
  | some c => some c
  | none => regionOf n b
 | .block _ c => regionOf n c
 | .loop c => regionOf n c
 | .scope c => regionOf n c
 | .region m ops b => if m = n then some (.region m ops b) else none
 | _ => none
def condOf (n : Nat) : Code → Option Code
 | .seq a b => match condOf n a with
  | some c => some c
  | none => condOf n b
 | .cond (.tmp m) a b => if m = n then some (.cond (.tmp m) a b) else match condOf n a with
  | some c => some c
  | none => condOf n b
 | .block _ c => condOf n c
 | .loop c => condOf n c
 | .scope c => condOf n c
 | _ => none
noncomputable def if69 (n : Nat) : Code:=(Tryz.f69.body.bind (condOf n)).getD .skip
noncomputable def reg70 (n : Nat) : Code:=(Tryz.f70.body.bind (regionOf n)).getD .skip
noncomputable def reg69 (n : Nat) : Code:=(Tryz.f69.body.bind (regionOf n)).getD .skip
end Go.Proofs.YthpapbilhjobnaaGreatDoor
namespace Go.Proofs.YthpapbilhjobnaaGreatDoor
open Go.RowKit Pu
variable {c0 c1 c2 c3 c4 c5 c6 c7 c8 c9 c10 c11 c12 c13 c14 c15 c16 c17 c18 c19 c20 c21 c22 c23 c24 c25 c26 c27 c28 c29 c30 c31 c32 c33 c34 c35 c36 c37 c38 c39 c40 c41 c42 c43 c44 c45 c46 c47 c48 c49 c50 c51 c52 c53 c54 c55 c56 c57 c58 c59 c60 c61 c62 c63 c64 c65 c66 c67 c68 c69 c70 c71 c72 c73 c74 c75 c76 c77 c78 c79 c80 c81 c82 c83 c84 c85 c86 c87 c88 c89 c90 c91 c92 c93 c94 c95 c96 c97 c98 c99 c100 c101 c102 c103 c104 c105 c106 c107 c108 c109 c110 c111 c112 c113 c114 c115 c116 c117 c118 c119 c120 c121 c122 c123 c124 c125 c126 c127 c128 c129 c130 c131 c132 c133 c134 c135 c136 c137 c138 c139 c140 c141 c142 c143 c144 c145 c146 c147 c148 c149 c150 c151 c152 c153 c154 c155 c156 c157 c158 c159 c160 c161 c162 c163 c164 c165 c166 c167 c168 c169 c170 c171 c172 c173 c174 c175 c176 c177 c178 c179 c180 c181 c182 c183 c184 c185 c186 c187 c188 c189 c190 c191 c192 c193 c194 c195 c196 c197 c198 c199 c200 c201 c202 c203 c204 c205 c206 c207 c208 c209 c210 c211 c212 c213 c214 c215 c216 c217 c218 c219 c220 c221 c222 c223 c224 c225 c226 c227 c228 c229 c230 c231 c232 c233 c234 c235 c236 c237 c238 c239 c240 c241 c242 c243 c244 c245 c246 c247 c248 c249 c250 c251 c252 c253 c254 c255 c256 c257 c258 c259 c260 c261 c262 c263 c264 c265 c266 c267 c268 c269 c270 c271 c272 c273 c274 c275 c276 c277 c278 c279 c280 c281 c282 c283 c284 c285 c286 c287 c288 c289 c290 c291 c292 c293 c294 c295 c296 c297 c298 c299 c300 c301 c302 c303 c304 c305 c306 c307 c308 c309 c310 c311 c312 c313 c314 c315 c316 : Value}
theorem wrap_two_pow (k : Nat) (h : k ≤ 20) : wrap64 ((2 : Int) ^ k) = ((2 ^ k : Nat) : Int):=by
 have h1 : (2 : Nat) ^ k ≤ 2 ^ 20:=Nat.pow_le_pow_right (by omega) h
 have hp2 : (2 : Int) ^ k = ((2 ^ k : Nat) : Int):=by simp
 rw [hp2]
 generalize 2 ^ k = y at *
 simp [wrap64];omega
set_option maxRecDepth 100000 in
set_option maxHeartbeats 4000000 in
theorem init_short (hb ho nn cv r : Nat) (t : TypeId) (c : Array Value) (f : Nat → Nat) (w : World) (hB : Blk w hb c t) (hC : CH c ho f) (hn : nn ≤ 9) (hr : r < 2 ^ nn)
  (Q : Exit → Act → World → Prop)
  (hK : ∀ (u23 u202 u203 u204 u205 u206 u207 u208 u209 u210 u211 u212 u213 u214 u215 u216 u217 u218 u219 u220 u221 u222 u223 u224 : Value) (wx : World),(∃ c',Blk wx hb c' t ∧ Same (fun k => ho + 1 ≤ k ∧ k < ho + 513) c c' ∧ CH c' ho (fun x => if x % 2 ^ nn = r then cv else f x)) → Ext (fun k => k = hb) w wx → Q .normal ⟨List.toArray ((.pointer (some ⟨hb,ho,none⟩))::c1::c2::c3::c4::c5::c6::c7::c8::c9::c10::c11::c12::c13::c14::c15::c16::c17::c18::(.int .i64 nn)::c20::(.int .u32 cv)::c22::u23::c24::c25::c26::c27::c28::c29::c30::c31::c32::c33::c34::c35::c36::c37::c38::c39::c40::c41::c42::c43::c44::c45::c46::c47::c48::c49::c50::c51::c52::c53::c54::c55::c56::c57::c58::c59::c60::c61::c62::c63::c64::c65::c66::c67::c68::c69::c70::c71::c72::c73::c74::c75::c76::c77::c78::c79::c80::c81::c82::c83::c84::c85::c86::c87::c88::c89::c90::c91::c92::c93::c94::c95::c96::c97::c98::c99::c100::c101::c102::c103::c104::c105::c106::c107::c108::c109::c110::c111::c112::c113::c114::c115::c116::c117::c118::c119::c120::c121::c122::c123::c124::c125::c126::c127::c128::c129::c130::c131::c132::c133::c134::c135::c136::c137::c138::c139::c140::c141::c142::c143::c144::c145::c146::c147::c148::c149::c150::c151::c152::c153::c154::c155::c156::c157::c158::c159::c160::c161::c162::c163::c164::c165::c166::c167::c168::c169::c170::c171::c172::c173::c174::c175::c176::c177::c178::c179::c180::c181::c182::c183::c184::c185::c186::c187::c188::c189::c190::c191::c192::c193::c194::c195::c196::c197::c198::c199::c200::c201::u202::u203::u204::u205::u206::u207::u208::u209::u210::u211::u212::u213::u214::u215::u216::u217::u218::u219::u220::u221::u222::u223::u224::c225::c226::c227::c228::c229::c230::c231::c232::c233::c234::c235::c236::c237::c238::c239::c240::c241::c242::c243::c244::c245::c246::c247::c248::c249::c250::c251::c252::c253::c254::c255::c256::c257::c258::c259::c260::c261::c262::c263::c264::c265::c266::c267::c268::c269::c270::c271::c272::c273::c274::c275::c276::c277::c278::c279::c280::c281::c282::c283::c284::c285::c286::c287::c288::c289::c290::c291::c292::c293::c294::c295::c296::c297::c298::c299::c300::c301::c302::c303::c304::c305::c306::c307::c308::c309::c310::c311::c312::c313::c314::c315::c316::[]),[]⟩ wx) :
  Code.wp Tryz.prog (blk75 8) Q ⟨List.toArray ((.pointer (some ⟨hb,ho,none⟩))::c1::c2::c3::c4::c5::c6::c7::c8::c9::c10::c11::c12::c13::c14::c15::c16::c17::c18::(.int .i64 nn)::c20::(.int .u32 cv)::c22::(.int .i64 r)::c24::c25::c26::c27::c28::c29::c30::c31::c32::c33::c34::c35::c36::c37::c38::c39::c40::c41::c42::c43::c44::c45::c46::c47::c48::c49::c50::c51::c52::c53::c54::c55::c56::c57::c58::c59::c60::c61::c62::c63::c64::c65::c66::c67::c68::c69::c70::c71::c72::c73::c74::c75::c76::c77::c78::c79::c80::c81::c82::c83::c84::c85::c86::c87::c88::c89::c90::c91::c92::c93::c94::c95::c96::c97::c98::c99::c100::c101::c102::c103::c104::c105::c106::c107::c108::c109::c110::c111::c112::c113::c114::c115::c116::c117::c118::c119::c120::c121::c122::c123::c124::c125::c126::c127::c128::c129::c130::c131::c132::c133::c134::c135::c136::c137::c138::c139::c140::c141::c142::c143::c144::c145::c146::c147::c148::c149::c150::c151::c152::c153::c154::c155::c156::c157::c158::c159::c160::c161::c162::c163::c164::c165::c166::c167::c168::c169::c170::c171::c172::c173::c174::c175::c176::c177::c178::c179::c180::c181::c182::c183::c184::c185::c186::c187::c188::c189::c190::c191::c192::c193::c194::c195::c196::c197::c198::c199::c200::c201::c202::c203::c204::c205::c206::c207::c208::c209::c210::c211::c212::c213::c214::c215::c216::c217::c218::c219::c220::c221::c222::c223::c224::c225::c226::c227::c228::c229::c230::c231::c232::c233::c234::c235::c236::c237::c238::c239::c240::c241::c242::c243::c244::c245::c246::c247::c248::c249::c250::c251::c252::c253::c254::c255::c256::c257::c258::c259::c260::c261::c262::c263::c264::c265::c266::c267::c268::c269::c270::c271::c272::c273::c274::c275::c276::c277::c278::c279::c280::c281::c282::c283::c284::c285::c286::c287::c288::c289::c290::c291::c292::c293::c294::c295::c296::c297::c298::c299::c300::c301::c302::c303::c304::c305::c306::c307::c308::c309::c310::c311::c312::c313::c314::c315::c316::[]),[]⟩ w:=by
 have hwp:=wrap_two_pow nn (by omega)
 have hpl : (2 : Nat) ^ nn ≤ 512:=Nat.le_trans (Nat.pow_le_pow_right (by omega) hn) (by decide)
 have hp0:=Nat.two_pow_pos nn
 obtain ⟨p,hp⟩ : ∃ p,2 ^ nn = p:=⟨_,rfl⟩
 rw [hp] at hr hwp hpl hp0 hK
 have HB:=Lib.hid hB;have HC:=Lib.hid hC;have HKK:=Lib.hid hK
 clear hB hC hK hp
 conv => arg 2;whnf
 go_wp2_with fail
 obtain ⟨k0,hk0⟩ : ∃ k,1024 - r = k:=⟨_,rfl⟩
 have HK0:=Lib.hid hk0
 clear hk0
 go_loopg [23] k0 (fun k s23 wx => ∃ (off : Nat) (c' : Array Value),s23 = .int .i64 off ∧ off % p = r ∧ off ≤ 1023 ∧ Blk wx hb c' t ∧ Same (fun k => ho + 1 ≤ k ∧ k < ho + 513) c c' ∧ CH c' ho (fillTo f p r cv off) ∧ Ext (fun k => k = hb) w wx ∧ k = 1024 - off)
 case atStart => exact ⟨r,c,rfl,Nat.mod_eq_of_lt hr,by omega,HB.out,Same.refl _ _,HC.out.congr (fun x _ => fillTo_start f p r cv x),Ext.refl _ _,HK0.out.symm⟩
 case round =>
  obtain ⟨off,c',rfl,hm,ho1,hb1,hs1,hc1,he1,hk⟩:=hrel
  obtain ⟨wo,rfl⟩ : ∃ wo : World,wo = wr:=⟨_,rfl⟩
  have HM:=Lib.hid hm;have HB1:=Lib.hid hb1;have HS1:=Lib.hid hs1;have HC1:=Lib.hid hc1;have HE1:=Lib.hid he1;have HK:=Lib.hid hk
  have hf:=hb1.free
  clear hm hs1 he1 hk
  rcases Nat.lt_or_ge off 512 with hlt | hge
  ·have hcr : wo.cell? ⟨hb,ho + 1 + off,none⟩ = some (.int .u32 (fillTo f p r cv off off)):=by rw [hb1.cell];exact hc1 off hlt
   obtain ⟨y,hy⟩ : ∃ y,fillTo f p r cv off off = y:=⟨_,rfl⟩
   rw [hy] at hcr
   have hoi : (off : Int) < 512:=by omega
   clear hb1 hc1 hy
   go_wp2_with fail
   go_roundg (1024 - (off + p))
   case measure => have:=HK.out;omega
   case rel =>
    refine ⟨off + p,c'.setIfInBounds (ho + 1 + off) (.int .u32 cv),by go_num,by rw [Nat.add_mod_right];exact HM.out,by omega,HB1.out.set _ _,HS1.out.set (by omega) _,HC1.out.set hlt (fun x _ => fillTo_step f p r cv off x hp0 HM.out),HE1.out.only _,rfl⟩
  ·clear hb1 hc1
   have hq : ¬ ((off : Int) < 512):=by omega
   go_wp2_with fail
   refine HKK.out _ _ _ _ _ _ _ _ _ _ _ _ _ _ _ _ _ _ _ _ _ _ _ _ _ ⟨c',HB1.out,HS1.out,HC1.out.congr (fun x hx => ?_)⟩ HE1.out
   unfold fillTo
   by_cases e : x % p = r
   ·rw [if_pos e,if_pos ⟨e,by omega⟩]
   ·rw [if_neg e,if_neg (fun h => e h.1)]
set_option maxRecDepth 100000 in
set_option maxHeartbeats 4000000 in
theorem init_long (gv nk nn cv r : Nat) (f : Nat → Nat) (w : World) (hB : Blk w gv (arw nk f) 36) (hn : nn ≤ 15) (hn9 : 9 < nn) (hr : r < 2 ^ (nn - 9)) (hnk : nk ≤ 64)
  (Q : Exit → Act → World → Prop)
  (hK : ∀ (u27 u255 u256 u257 u258 u259 u260 u261 u262 u263 u264 u265 u266 u267 u268 u269 u270 u271 u272 u273 u274 u275 u276 : Value) (wx : World),Blk wx gv (arw nk (fun x => if x % 2 ^ (nn - 9) = r then cv else f x)) 36 → Ext (fun k => k = gv) w wx → Q .normal ⟨List.toArray (c0::c1::c2::c3::c4::c5::c6::c7::c8::c9::c10::c11::c12::c13::c14::c15::c16::c17::c18::(.int .i64 nn)::c20::(.int .u32 cv)::c22::c23::c24::c25::(.slice (some ⟨gv,0,none⟩) nk nk)::u27::c28::c29::c30::c31::c32::c33::c34::c35::c36::c37::c38::c39::c40::c41::c42::c43::c44::c45::c46::c47::c48::c49::c50::c51::c52::c53::c54::c55::c56::c57::c58::c59::c60::c61::c62::c63::c64::c65::c66::c67::c68::c69::c70::c71::c72::c73::c74::c75::c76::c77::c78::c79::c80::c81::c82::c83::c84::c85::c86::c87::c88::c89::c90::c91::c92::c93::c94::c95::c96::c97::c98::c99::c100::c101::c102::c103::c104::c105::c106::c107::c108::c109::c110::c111::c112::c113::c114::c115::c116::c117::c118::c119::c120::c121::c122::c123::c124::c125::c126::c127::c128::c129::c130::c131::c132::c133::c134::c135::c136::c137::c138::c139::c140::c141::c142::c143::c144::c145::c146::c147::c148::c149::c150::c151::c152::c153::c154::c155::c156::c157::c158::c159::c160::c161::c162::c163::c164::c165::c166::c167::c168::c169::c170::c171::c172::c173::c174::c175::c176::c177::c178::c179::c180::c181::c182::c183::c184::c185::c186::c187::c188::c189::c190::c191::c192::c193::c194::c195::c196::c197::c198::c199::c200::c201::c202::c203::c204::c205::c206::c207::c208::c209::c210::c211::c212::c213::c214::c215::c216::c217::c218::c219::c220::c221::c222::c223::c224::c225::c226::c227::c228::c229::c230::c231::c232::c233::c234::c235::c236::c237::c238::c239::c240::c241::c242::c243::c244::c245::c246::c247::c248::c249::c250::c251::c252::c253::c254::u255::u256::u257::u258::u259::u260::u261::u262::u263::u264::u265::u266::u267::u268::u269::u270::u271::u272::u273::u274::u275::u276::c277::c278::c279::c280::c281::c282::c283::c284::c285::c286::c287::c288::c289::c290::c291::c292::c293::c294::c295::c296::c297::c298::c299::c300::c301::c302::c303::c304::c305::c306::c307::c308::c309::c310::c311::c312::c313::c314::c315::c316::[]),[]⟩ wx) :
  Code.wp Tryz.prog (blk75 10) Q ⟨List.toArray (c0::c1::c2::c3::c4::c5::c6::c7::c8::c9::c10::c11::c12::c13::c14::c15::c16::c17::c18::(.int .i64 nn)::c20::(.int .u32 cv)::c22::c23::c24::c25::(.slice (some ⟨gv,0,none⟩) nk nk)::(.int .i64 r)::c28::c29::c30::c31::c32::c33::c34::c35::c36::c37::c38::c39::c40::c41::c42::c43::c44::c45::c46::c47::c48::c49::c50::c51::c52::c53::c54::c55::c56::c57::c58::c59::c60::c61::c62::c63::c64::c65::c66::c67::c68::c69::c70::c71::c72::c73::c74::c75::c76::c77::c78::c79::c80::c81::c82::c83::c84::c85::c86::c87::c88::c89::c90::c91::c92::c93::c94::c95::c96::c97::c98::c99::c100::c101::c102::c103::c104::c105::c106::c107::c108::c109::c110::c111::c112::c113::c114::c115::c116::c117::c118::c119::c120::c121::c122::c123::c124::c125::c126::c127::c128::c129::c130::c131::c132::c133::c134::c135::c136::c137::c138::c139::c140::c141::c142::c143::c144::c145::c146::c147::c148::c149::c150::c151::c152::c153::c154::c155::c156::c157::c158::c159::c160::c161::c162::c163::c164::c165::c166::c167::c168::c169::c170::c171::c172::c173::c174::c175::c176::c177::c178::c179::c180::c181::c182::c183::c184::c185::c186::c187::c188::c189::c190::c191::c192::c193::c194::c195::c196::c197::c198::c199::c200::c201::c202::c203::c204::c205::c206::c207::c208::c209::c210::c211::c212::c213::c214::c215::c216::c217::c218::c219::c220::c221::c222::c223::c224::c225::c226::c227::c228::c229::c230::c231::c232::c233::c234::c235::c236::c237::c238::c239::c240::c241::c242::c243::c244::c245::c246::c247::c248::c249::c250::c251::c252::c253::c254::c255::c256::c257::c258::c259::c260::c261::c262::c263::c264::c265::c266::c267::c268::c269::c270::c271::c272::c273::c274::c275::c276::c277::c278::c279::c280::c281::c282::c283::c284::c285::c286::c287::c288::c289::c290::c291::c292::c293::c294::c295::c296::c297::c298::c299::c300::c301::c302::c303::c304::c305::c306::c307::c308::c309::c310::c311::c312::c313::c314::c315::c316::[]),[]⟩ w:=by
 have hwp:=wrap_two_pow (nn - 9) (by omega)
 have hpl : (2 : Nat) ^ (nn - 9) ≤ 64:=Nat.le_trans (Nat.pow_le_pow_right (by omega) (show nn - 9 ≤ 6 by omega)) (by decide)
 have hp0:=Nat.two_pow_pos (nn - 9)
 obtain ⟨p,hp⟩ : ∃ p,2 ^ (nn - 9) = p:=⟨_,rfl⟩
 rw [hp] at hr hwp hpl hp0 hK
 have hn9i : (9 : Int) < (nn : Int):=by omega
 have HB:=Lib.hid hB;have HKK:=Lib.hid hK
 clear hB hK hp
 conv => arg 2;whnf
 go_wp2_with fail
 obtain ⟨k0,hk0⟩ : ∃ k,256 - r = k:=⟨_,rfl⟩
 have HK0:=Lib.hid hk0
 clear hk0
 go_loopg [27] k0 (fun k s27 wx => ∃ (off : Nat),s27 = .int .i64 off ∧ off % p = r ∧ off ≤ 128 ∧ Blk wx gv (arw nk (fillTo f p r cv off)) 36 ∧ Ext (fun k => k = gv) w wx ∧ k = 256 - off)
 case atStart =>
  refine ⟨r,rfl,Nat.mod_eq_of_lt hr,by omega,?_,Ext.refl _ _,HK0.out.symm⟩
  have e : fillTo f p r cv r = f:=funext (fun x => fillTo_start f p r cv x)
  rw [e];exact HB.out
 case round =>
  obtain ⟨off,rfl,hm,ho1,hb1,he1,hk⟩:=hrel
  obtain ⟨wo,rfl⟩ : ∃ wo : World,wo = wr:=⟨_,rfl⟩
  have HM:=Lib.hid hm;have HB1:=Lib.hid hb1;have HE1:=Lib.hid he1;have HK:=Lib.hid hk
  have hf:=hb1.free
  clear hm he1 hk
  rcases Nat.lt_or_ge off nk with hlt | hge
  ·have hcr : wo.cell? ⟨gv,off,none⟩ = some (.int .u32 (fillTo f p r cv off off)):=by rw [hb1.cell,arw_get _ _ _ hlt]
   obtain ⟨y,hy⟩ : ∃ y,fillTo f p r cv off off = y:=⟨_,rfl⟩
   rw [hy] at hcr
   clear hb1 hy
   go_wp2_with fail
   go_roundg (256 - (off + p))
   case measure => have:=HK.out;omega
   case rel =>
    refine ⟨off + p,by go_num,by rw [Nat.add_mod_right];exact HM.out,by omega,?_,HE1.out.only _,rfl⟩
    rw [← arw_set nk (fillTo f p r cv off) (fillTo f p r cv (off + p)) off cv (fun x _ => fillTo_step f p r cv off x hp0 HM.out)]
    exact HB1.out.set _ _
  ·clear hb1
   go_wp2_with fail
   refine HKK.out _ _ _ _ _ _ _ _ _ _ _ _ _ _ _ _ _ _ _ _ _ _ _ _ ?_ HE1.out
   have e : arw nk (fun x => if x % p = r then cv else f x) = arw nk (fillTo f p r cv off):=by
    unfold arw
    congr 1
    refine List.map_congr_left fun x hx => ?_
    have hx : x < nk:=by simpa using hx
    unfold fillTo
    dsimp only
    by_cases e : x % p = r
    ·rw [if_pos e,if_pos ⟨e,by omega⟩]
    ·rw [if_neg e,if_neg (fun h => e h.1)]
   rw [e]
   exact HB1.out
end Go.Proofs.YthpapbilhjobnaaGreatDoor
namespace Go.Proofs.YthpapbilhjobnaaGreatDoor
open Go.RowKit Pu
variable {c0 c1 c2 c3 c4 c5 c6 c7 c8 c9 c10 c11 c12 c13 c14 c15 c16 c17 c18 c19 c20 c21 c22 c23 c24 c25 c26 c27 c28 c29 c30 c31 c32 c33 c34 c35 c36 c37 c38 c39 c40 c41 c42 c43 c44 c45 c46 c47 c48 c49 c50 c51 c52 c53 c54 c55 c56 c57 c58 c59 c60 c61 c62 c63 c64 c65 c66 c67 c68 c69 c70 c71 c72 c73 c74 c75 c76 c77 c78 c79 c80 c81 c82 c83 c84 c85 c86 c87 c88 c89 c90 c91 c92 c93 c94 c95 c96 c97 c98 c99 c100 c101 c102 c103 c104 c105 c106 c107 c108 c109 c110 c111 c112 c113 c114 c115 c116 c117 c118 c119 c120 c121 c122 c123 c124 c125 c126 c127 c128 c129 c130 c131 c132 c133 c134 c135 c136 c137 c138 c139 c140 c141 c142 c143 c144 c145 c146 c147 c148 c149 c150 c151 c152 c153 c154 c155 c156 c157 c158 c159 c160 c161 c162 c163 c164 c165 c166 c167 c168 c169 c170 c171 c172 c173 c174 c175 c176 c177 c178 c179 c180 c181 c182 c183 c184 c185 c186 c187 c188 c189 c190 c191 c192 c193 c194 c195 c196 c197 c198 c199 c200 c201 c202 c203 c204 c205 c206 c207 c208 c209 c210 c211 c212 c213 c214 c215 c216 c217 c218 c219 c220 c221 c222 c223 c224 c225 c226 c227 c228 c229 c230 c231 c232 c233 c234 c235 c236 c237 c238 c239 c240 c241 c242 c243 c244 c245 c246 c247 c248 c249 c250 c251 c252 c253 c254 c255 c256 c257 c258 c259 c260 c261 c262 c263 c264 c265 c266 c267 c268 c269 c270 c271 c272 c273 c274 c275 c276 c277 c278 c279 c280 c281 c282 c283 c284 c285 c286 c287 c288 c289 c290 c291 c292 c293 c294 c295 c296 c297 c298 c299 c300 c301 c302 c303 c304 c305 c306 c307 c308 c309 c310 c311 c312 c313 c314 c315 c316 c317 c318 c319 c320 c321 c322 c323 c324 c325 c326 c327 c328 c329 c330 c331 c332 c333 c334 c335 c336 c337 c338 c339 c340 c341 c342 c343 c344 c345 c346 c347 c348 c349 c350 c351 c352 c353 c354 c355 c356 c357 c358 c359 c360 c361 : Value}
theorem lsym_table (v : Nat) (h1 : 257 ≤ v) (h2 : v ≤ 285) :
  (v < 265 → lbase v = v - 254 ∧ lextra v = 0) ∧ (265 ≤ v → v < 269 → lbase v = v * 2 - 519 ∧ lextra v = 1) ∧ (269 ≤ v → v < 273 → lbase v = v * 4 - 1057 ∧ lextra v = 2) ∧ (273 ≤ v → v < 277 → lbase v = v * 8 - 2149 ∧ lextra v = 3) ∧
  (277 ≤ v → v < 281 → lbase v = v * 16 - 4365 ∧ lextra v = 4) ∧ (281 ≤ v → v < 285 → lbase v = v * 32 - 8861 ∧ lextra v = 5) ∧ (285 ≤ v → lbase v = 258 ∧ lextra v = 0):=by
 have key : ∀ k : Fin 29,(257 + k.val < 265 → lbase (257 + k.val) = 257 + k.val - 254 ∧ lextra (257 + k.val) = 0) ∧ (265 ≤ 257 + k.val → 257 + k.val < 269 → lbase (257 + k.val) = (257 + k.val) * 2 - 519 ∧ lextra (257 + k.val) = 1) ∧ (269 ≤ 257 + k.val → 257 + k.val < 273 → lbase (257 + k.val) = (257 + k.val) * 4 - 1057 ∧ lextra (257 + k.val) = 2) ∧ (273 ≤ 257 + k.val → 257 + k.val < 277 → lbase (257 + k.val) = (257 + k.val) * 8 - 2149 ∧ lextra (257 + k.val) = 3) ∧
  (277 ≤ 257 + k.val → 257 + k.val < 281 → lbase (257 + k.val) = (257 + k.val) * 16 - 4365 ∧ lextra (257 + k.val) = 4) ∧ (281 ≤ 257 + k.val → 257 + k.val < 285 → lbase (257 + k.val) = (257 + k.val) * 32 - 8861 ∧ lextra (257 + k.val) = 5) ∧ (285 ≤ 257 + k.val → lbase (257 + k.val) = 258 ∧ lextra (257 + k.val) = 0):=by decide
 have:=key ⟨v - 257,by omega⟩
 simp only [show 257 + (v - 257) = v by omega] at this
 exact this
set_option maxRecDepth 100000 in
set_option maxHeartbeats 8000000 in
theorem block_length (F v : Nat) (w : World) (h1 : 257 ≤ v) (h2 : v ≤ 285) (Q : Exit → Act → World → Prop)
  (hK : ∀ (u4 u5 u33 u34 u35 u36 u37 u38 u39 u40 u41 u42 u43 u44 u45 u46 u47 u48 u49 u50 u51 u52 u53 u54 u55 u56 u57 u58 u59 u60 u61 u62 u63 u64 u65 u66 u67 u68 u69 u70 u71 u72 u73 u74 u75 u76 u77 u78 u79 u80 u81 u82 u83 u84 u85 u86 u87 u88 u89 u90 u91 u92 u93 u94 u95 u96 u97 u98 u99 u100 u101 u102 u103 u104 u105 u106 u107 u108 u109 u110 : Value),u4 = .int .u64 (lextra v) → u5 = .int .i64 (lbase v) → Q .normal ⟨List.toArray ((.pointer (some ⟨F,0,none⟩))::c1::(.int .i64 v)::c3::u4::u5::c6::c7::c8::c9::c10::c11::c12::c13::c14::c15::c16::c17::c18::c19::c20::c21::c22::c23::c24::c25::c26::c27::c28::c29::c30::c31::c32::u33::u34::u35::u36::u37::u38::u39::u40::u41::u42::u43::u44::u45::u46::u47::u48::u49::u50::u51::u52::u53::u54::u55::u56::u57::u58::u59::u60::u61::u62::u63::u64::u65::u66::u67::u68::u69::u70::u71::u72::u73::u74::u75::u76::u77::u78::u79::u80::u81::u82::u83::u84::u85::u86::u87::u88::u89::u90::u91::u92::u93::u94::u95::u96::u97::u98::u99::u100::u101::u102::u103::u104::u105::u106::u107::u108::u109::u110::c111::c112::c113::c114::c115::c116::c117::c118::c119::c120::c121::c122::c123::c124::c125::c126::c127::c128::c129::c130::c131::c132::c133::c134::c135::c136::c137::c138::c139::c140::c141::c142::c143::c144::c145::c146::c147::c148::c149::c150::c151::c152::c153::c154::c155::c156::c157::c158::c159::c160::c161::c162::c163::c164::c165::c166::c167::c168::c169::c170::c171::c172::c173::c174::c175::c176::c177::c178::c179::c180::c181::c182::c183::c184::c185::c186::c187::c188::c189::c190::c191::c192::c193::c194::c195::c196::c197::c198::c199::c200::c201::c202::c203::c204::c205::c206::c207::c208::c209::c210::c211::c212::c213::c214::c215::c216::c217::c218::c219::c220::c221::c222::c223::c224::c225::c226::c227::c228::c229::c230::c231::c232::c233::c234::c235::c236::c237::c238::c239::c240::c241::c242::c243::c244::c245::c246::c247::c248::c249::c250::c251::c252::c253::c254::c255::c256::c257::c258::c259::c260::c261::c262::c263::c264::c265::c266::c267::c268::c269::c270::c271::c272::c273::c274::c275::c276::c277::c278::c279::c280::c281::c282::c283::c284::c285::c286::c287::c288::c289::c290::c291::c292::c293::c294::c295::c296::c297::c298::c299::c300::c301::c302::c303::c304::c305::c306::c307::c308::c309::c310::c311::c312::c313::c314::c315::c316::c317::c318::c319::c320::c321::c322::c323::c324::c325::c326::c327::c328::c329::c330::c331::c332::c333::c334::c335::c336::c337::c338::c339::c340::c341::c342::c343::c344::c345::c346::c347::c348::c349::c350::c351::c352::c353::c354::c355::c356::c357::c358::c359::c360::c361::[]),[]⟩ w) :
  Code.wp Tryz.prog (blk69 1) Q ⟨List.toArray ((.pointer (some ⟨F,0,none⟩))::c1::(.int .i64 v)::c3::(.int .u64 0)::(.int .i64 0)::c6::c7::c8::c9::c10::c11::c12::c13::c14::c15::c16::c17::c18::c19::c20::c21::c22::c23::c24::c25::c26::c27::c28::c29::c30::c31::c32::c33::c34::c35::c36::c37::c38::c39::c40::c41::c42::c43::c44::c45::c46::c47::c48::c49::c50::c51::c52::c53::c54::c55::c56::c57::c58::c59::c60::c61::c62::c63::c64::c65::c66::c67::c68::c69::c70::c71::c72::c73::c74::c75::c76::c77::c78::c79::c80::c81::c82::c83::c84::c85::c86::c87::c88::c89::c90::c91::c92::c93::c94::c95::c96::c97::c98::c99::c100::c101::c102::c103::c104::c105::c106::c107::c108::c109::c110::c111::c112::c113::c114::c115::c116::c117::c118::c119::c120::c121::c122::c123::c124::c125::c126::c127::c128::c129::c130::c131::c132::c133::c134::c135::c136::c137::c138::c139::c140::c141::c142::c143::c144::c145::c146::c147::c148::c149::c150::c151::c152::c153::c154::c155::c156::c157::c158::c159::c160::c161::c162::c163::c164::c165::c166::c167::c168::c169::c170::c171::c172::c173::c174::c175::c176::c177::c178::c179::c180::c181::c182::c183::c184::c185::c186::c187::c188::c189::c190::c191::c192::c193::c194::c195::c196::c197::c198::c199::c200::c201::c202::c203::c204::c205::c206::c207::c208::c209::c210::c211::c212::c213::c214::c215::c216::c217::c218::c219::c220::c221::c222::c223::c224::c225::c226::c227::c228::c229::c230::c231::c232::c233::c234::c235::c236::c237::c238::c239::c240::c241::c242::c243::c244::c245::c246::c247::c248::c249::c250::c251::c252::c253::c254::c255::c256::c257::c258::c259::c260::c261::c262::c263::c264::c265::c266::c267::c268::c269::c270::c271::c272::c273::c274::c275::c276::c277::c278::c279::c280::c281::c282::c283::c284::c285::c286::c287::c288::c289::c290::c291::c292::c293::c294::c295::c296::c297::c298::c299::c300::c301::c302::c303::c304::c305::c306::c307::c308::c309::c310::c311::c312::c313::c314::c315::c316::c317::c318::c319::c320::c321::c322::c323::c324::c325::c326::c327::c328::c329::c330::c331::c332::c333::c334::c335::c336::c337::c338::c339::c340::c341::c342::c343::c344::c345::c346::c347::c348::c349::c350::c351::c352::c353::c354::c355::c356::c357::c358::c359::c360::c361::[]),[]⟩ w:=by
 have HKK:=Lib.hid hK
 clear hK
 obtain ⟨t1,t2,t3,t4,t5,t6,t7⟩:=lsym_table v h1 h2
 have n1 : ¬ ((v : Int) < 256):=by omega
 have n2 : ((v : Int) == 256) = false:=by simp;omega
 conv => arg 2;whnf
 rcases Nat.lt_or_ge v 265 with g | g
 ·obtain ⟨e1,e2⟩:=t1 g
  clear t1 t2 t3 t4 t5 t6 t7
  have m1 : (v : Int) < 265:=by omega
  go_wp2_with fail
  exact HKK.out _ _ _ _ _ _ _ _ _ _ _ _ _ _ _ _ _ _ _ _ _ _ _ _ _ _ _ _ _ _ _ _ _ _ _ _ _ _ _ _ _ _ _ _ _ _ _ _ _ _ _ _ _ _ _ _ _ _ _ _ _ _ _ _ _ _ _ _ _ _ _ _ _ _ _ _ _ _ _ _ (by rw [e2];rfl) (by rw [e1];congr 1;omega)
 ·have m1 : ¬ ((v : Int) < 265):=by omega
  rcases Nat.lt_or_ge v 269 with g2 | g2
  ·obtain ⟨e1,e2⟩:=t2 g g2
   clear t1 t2 t3 t4 t5 t6 t7
   have m2 : (v : Int) < 269:=by omega
   go_wp2_with fail
   exact HKK.out _ _ _ _ _ _ _ _ _ _ _ _ _ _ _ _ _ _ _ _ _ _ _ _ _ _ _ _ _ _ _ _ _ _ _ _ _ _ _ _ _ _ _ _ _ _ _ _ _ _ _ _ _ _ _ _ _ _ _ _ _ _ _ _ _ _ _ _ _ _ _ _ _ _ _ _ _ _ _ _ (by rw [e2];rfl) (by rw [e1];congr 1;omega)
  ·have m2 : ¬ ((v : Int) < 269):=by omega
   rcases Nat.lt_or_ge v 273 with g3 | g3
   ·obtain ⟨e1,e2⟩:=t3 g2 g3
    clear t1 t2 t3 t4 t5 t6 t7
    have m3 : (v : Int) < 273:=by omega
    go_wp2_with fail
    exact HKK.out _ _ _ _ _ _ _ _ _ _ _ _ _ _ _ _ _ _ _ _ _ _ _ _ _ _ _ _ _ _ _ _ _ _ _ _ _ _ _ _ _ _ _ _ _ _ _ _ _ _ _ _ _ _ _ _ _ _ _ _ _ _ _ _ _ _ _ _ _ _ _ _ _ _ _ _ _ _ _ _ (by rw [e2];rfl) (by rw [e1];congr 1;omega)
   ·have m3 : ¬ ((v : Int) < 273):=by omega
    rcases Nat.lt_or_ge v 277 with g4 | g4
    ·obtain ⟨e1,e2⟩:=t4 g3 g4
     clear t1 t2 t3 t4 t5 t6 t7
     have m4 : (v : Int) < 277:=by omega
     go_wp2_with fail
     exact HKK.out _ _ _ _ _ _ _ _ _ _ _ _ _ _ _ _ _ _ _ _ _ _ _ _ _ _ _ _ _ _ _ _ _ _ _ _ _ _ _ _ _ _ _ _ _ _ _ _ _ _ _ _ _ _ _ _ _ _ _ _ _ _ _ _ _ _ _ _ _ _ _ _ _ _ _ _ _ _ _ _ (by rw [e2];rfl) (by rw [e1];congr 1;omega)
    ·have m4 : ¬ ((v : Int) < 277):=by omega
     rcases Nat.lt_or_ge v 281 with g5 | g5
     ·obtain ⟨e1,e2⟩:=t5 g4 g5
      clear t1 t2 t3 t4 t5 t6 t7
      have m5 : (v : Int) < 281:=by omega
      go_wp2_with fail
      exact HKK.out _ _ _ _ _ _ _ _ _ _ _ _ _ _ _ _ _ _ _ _ _ _ _ _ _ _ _ _ _ _ _ _ _ _ _ _ _ _ _ _ _ _ _ _ _ _ _ _ _ _ _ _ _ _ _ _ _ _ _ _ _ _ _ _ _ _ _ _ _ _ _ _ _ _ _ _ _ _ _ _ (by rw [e2];rfl) (by rw [e1];congr 1;omega)
     ·have m5 : ¬ ((v : Int) < 281):=by omega
      rcases Nat.lt_or_ge v 285 with g6 | g6
      ·obtain ⟨e1,e2⟩:=t6 g5 g6
       clear t1 t2 t3 t4 t5 t6 t7
       have m6 : (v : Int) < 285:=by omega
       go_wp2_with fail
       exact HKK.out _ _ _ _ _ _ _ _ _ _ _ _ _ _ _ _ _ _ _ _ _ _ _ _ _ _ _ _ _ _ _ _ _ _ _ _ _ _ _ _ _ _ _ _ _ _ _ _ _ _ _ _ _ _ _ _ _ _ _ _ _ _ _ _ _ _ _ _ _ _ _ _ _ _ _ _ _ _ _ _ (by rw [e2];rfl) (by rw [e1];congr 1;omega)
      ·have m6 : ¬ ((v : Int) < 285):=by omega
       obtain ⟨e1,e2⟩:=t7 g6
       clear t1 t2 t3 t4 t5 t6 t7
       have m7 : (v : Int) < 286:=by omega
       go_wp2_with fail
       exact HKK.out _ _ _ _ _ _ _ _ _ _ _ _ _ _ _ _ _ _ _ _ _ _ _ _ _ _ _ _ _ _ _ _ _ _ _ _ _ _ _ _ _ _ _ _ _ _ _ _ _ _ _ _ _ _ _ _ _ _ _ _ _ _ _ _ _ _ _ _ _ _ _ _ _ _ _ _ _ _ _ _ (by rw [e2];rfl) (by rw [e1];rfl)
theorem dsym_form (s : Nat) (h1 : 4 ≤ s) (h2 : s ≤ 29) (y : Nat) (hy : y < 2 ^ dextra s) : dextra s = (s - 2) / 2 ∧ 2 ^ (dextra s + 1) + 1 + ((s % 2) * 2 ^ dextra s + y) = dbase s + y:=by
 have e : dextra s = s / 2 - 1:=by unfold dextra;rw [if_neg (by omega)]
 refine ⟨by omega,?_⟩
 unfold dbase
 rw [if_neg (by omega),e,Nat.pow_succ,Nat.add_mul]
 omega
theorem dist_sum (P bs y : Nat) (hp : 1 ≤ P) (hp13 : P ≤ 8192) (hbs : bs ≤ 8192) (hy : y < P) : wrap64 (wrap64 (((P * 2 : Nat) : Int) + 1) + ((bs : Int) + (y : Int))) = ((P * 2 + 1 + (bs + y) : Nat) : Int):=by
 unfold wrap64
 omega
theorem dist_mask (P : Nat) (hp : 1 ≤ P) (hp13 : P ≤ 8192) : ((P : Int) - 1) % 4294967296 = ((P - 1 : Nat) : Int):=by omega
theorem wrap64_small (y : Nat) (hy : y < 8192) : wrap64 (y : Int) = (y : Int):=by unfold wrap64;omega
theorem dist_or (de bs y : Nat) (hde : de ≤ 13) (hbs : bs ≤ 8192) (hy : y < 2 ^ de) (hy2 : y < 8192) (hb0 : ((bs : Int)) % 2 ^ de = 0) : bits BinOp.or IntKind.i64 (bs : Int) (y : Int) = (bs : Int) + (y : Int):=by
 have h : (y : Int) < 2 ^ de:=by
  have hp2 : (2 : Int) ^ de = ((2 ^ de : Nat) : Int):=by simp
  rw [hp2];exact Int.ofNat_lt.2 hy
 have b1 : (bs : Int) < 2 ^ 62:=by have : (2 : Int) ^ 62 = 4611686018427387904:=by decide
                                   omega
 have b2 : (y : Int) < 2 ^ 62:=by have : (2 : Int) ^ 62 = 4611686018427387904:=by decide
                                  omega
 exact bits_join .i64 62 (by decide) (fun m h0 h1 => IntWalk.i64_in m (by constructor <;> omega)) de (bs : Int) (y : Int) (by omega) hb0 b1 (by omega) h b2
theorem dist_arith (de bs vb y : Nat) (hde : de ≤ 13) (hp13 : 2 ^ de ≤ 8192) (hvl : vb < 4294967296) (hbs : bs ≤ 8192) (hy : y < 2 ^ de) (hbt : vb % 2 ^ de = y % 2 ^ de) (hb0 : ((bs : Int)) % 2 ^ de = 0) :
  wrap64 (wrap64 (wrap64 (2 ^ (de + 1)) + 1) + bits BinOp.or IntKind.i64 (bs : Int) (wrap64 (bits BinOp.and IntKind.u32 (vb : Int) (((2 : Int) ^ de - 1) % 4294967296)))) = ((2 ^ (de + 1) + 1 + (bs + y) : Nat) : Int):=by
 have hp2 : (2 : Int) ^ de = ((2 ^ de : Nat) : Int):=by simp
 have hy2 : y < 8192:=Nat.lt_of_lt_of_le hy hp13
 have hp0 : 1 ≤ 2 ^ de:=Nat.two_pow_pos de
 have e1 : ((2 : Int) ^ de - 1) % 4294967296 = ((2 ^ de - 1 : Nat) : Int):=by rw [hp2];exact dist_mask _ hp0 hp13
 have e2 : bits BinOp.and IntKind.u32 (vb : Int) ((2 ^ de - 1 : Nat) : Int) = (y : Int):=by
  rw [u32_low vb de hvl (Nat.le_trans hde (by decide)),hbt,Nat.mod_eq_of_lt hy]
 rw [e1,e2,wrap64_small y hy2,dist_or de bs y hde hbs hy hy2 hb0,wrap_two_pow (de + 1) (Nat.le_trans (Nat.add_le_add_right hde 1) (by decide)),Nat.pow_succ]
 exact dist_sum _ bs y hp0 hp13 hbs hy
set_option maxRecDepth 100000 in
set_option maxHeartbeats 8000000 in
theorem block_distance (x : Pl) (ap : Apart x) (s y : Nat) (w : World) (c : Array Value) (BB Z : List Bool) (p : Nat) (h : Tak x w c (lsb y (dextra s) ++ Z) w c BB p) (hsz : c.size = 1054) (hs : s ≤ 29) (hy : y < 2 ^ dextra s) (hBB : BB.length ≤ 24) (Q : Exit → Act → World → Prop)
  (hK : ∀ (u3 u6 u7 u8 u210 u211 u212 u213 u214 u215 u216 u217 u218 u219 u220 u221 u222 u223 u224 u225 u226 u227 u228 u229 u230 u231 u232 u233 u234 u235 u236 u237 u238 u239 u240 u241 u242 u243 u244 u245 u246 u247 u248 u249 u250 u251 u252 u253 u254 u255 u256 u257 u258 u259 u260 u261 u262 u263 u264 u265 u266 u267 u268 u269 u270 u271 u272 u273 u274 u275 u276 u277 u278 u279 u280 : Value) (wx : World) (c' : Array Value) (B' : List Bool) (p' : Nat),Tak x w c Z wx c' B' p' → (B'.length < 8 ∨ B'.length ≤ BB.length) → u6 = .int .i64 ((dbase s + y : Nat) : Int) → Q .normal ⟨List.toArray ((.pointer (some ⟨x.F,0,none⟩))::c1::c2::u3::c4::c5::u6::u7::u8::c9::c10::c11::c12::c13::c14::c15::c16::c17::c18::c19::c20::c21::c22::c23::c24::c25::c26::c27::c28::c29::c30::c31::c32::c33::c34::c35::c36::c37::c38::c39::c40::c41::c42::c43::c44::c45::c46::c47::c48::c49::c50::c51::c52::c53::c54::c55::c56::c57::c58::c59::c60::c61::c62::c63::c64::c65::c66::c67::c68::c69::c70::c71::c72::c73::c74::c75::c76::c77::c78::c79::c80::c81::c82::c83::c84::c85::c86::c87::c88::c89::c90::c91::c92::c93::c94::c95::c96::c97::c98::c99::c100::c101::c102::c103::c104::c105::c106::c107::c108::c109::c110::c111::c112::c113::c114::c115::c116::c117::c118::c119::c120::c121::c122::c123::c124::c125::c126::c127::c128::c129::c130::c131::c132::c133::c134::c135::c136::c137::c138::c139::c140::c141::c142::c143::c144::c145::c146::c147::c148::c149::c150::c151::c152::c153::c154::c155::c156::c157::c158::c159::c160::c161::c162::c163::c164::c165::c166::c167::c168::c169::c170::c171::c172::c173::c174::c175::c176::c177::c178::c179::c180::c181::c182::c183::c184::c185::c186::c187::c188::c189::c190::c191::c192::c193::c194::c195::c196::c197::c198::c199::c200::c201::c202::c203::c204::c205::c206::c207::c208::c209::u210::u211::u212::u213::u214::u215::u216::u217::u218::u219::u220::u221::u222::u223::u224::u225::u226::u227::u228::u229::u230::u231::u232::u233::u234::u235::u236::u237::u238::u239::u240::u241::u242::u243::u244::u245::u246::u247::u248::u249::u250::u251::u252::u253::u254::u255::u256::u257::u258::u259::u260::u261::u262::u263::u264::u265::u266::u267::u268::u269::u270::u271::u272::u273::u274::u275::u276::u277::u278::u279::u280::c281::c282::c283::c284::c285::c286::c287::c288::c289::c290::c291::c292::c293::c294::c295::c296::c297::c298::c299::c300::c301::c302::c303::c304::c305::c306::c307::c308::c309::c310::c311::c312::c313::c314::c315::c316::c317::c318::c319::c320::c321::c322::c323::c324::c325::c326::c327::c328::c329::c330::c331::c332::c333::c334::c335::c336::c337::c338::c339::c340::c341::c342::c343::c344::c345::c346::c347::c348::c349::c350::c351::c352::c353::c354::c355::c356::c357::c358::c359::c360::c361::[]),[]⟩ wx)
  (hR : ∀ (u3 u6 u7 u8 u210 u211 u212 u213 u214 u215 u216 u217 u218 u219 u220 u221 u222 u223 u224 u225 u226 u227 u228 u229 u230 u231 u232 u233 u234 u235 u236 u237 u238 u239 u240 u241 u242 u243 u244 u245 u246 u247 u248 u249 u250 u251 u252 u253 u254 u255 u256 u257 u258 u259 u260 u261 u262 u263 u264 u265 u266 u267 u268 u269 u270 u271 u272 u273 u274 u275 u276 u277 u278 u279 u280 : Value) (wx wy : World) (c' : Array Value) (Y' B' : List Bool) (p' : Nat),Tak x w c Y' wy c' B' p' → x.ext ≠ [] → wx = wy.setCell ⟨x.F,1048,none⟩ (.iface 175 (.pointer (some x.U))) → Q .ret ⟨List.toArray ((.pointer (some ⟨x.F,0,none⟩))::c1::c2::u3::c4::c5::u6::u7::u8::c9::c10::c11::c12::c13::c14::c15::c16::c17::c18::c19::c20::c21::c22::c23::c24::c25::c26::c27::c28::c29::c30::c31::c32::c33::c34::c35::c36::c37::c38::c39::c40::c41::c42::c43::c44::c45::c46::c47::c48::c49::c50::c51::c52::c53::c54::c55::c56::c57::c58::c59::c60::c61::c62::c63::c64::c65::c66::c67::c68::c69::c70::c71::c72::c73::c74::c75::c76::c77::c78::c79::c80::c81::c82::c83::c84::c85::c86::c87::c88::c89::c90::c91::c92::c93::c94::c95::c96::c97::c98::c99::c100::c101::c102::c103::c104::c105::c106::c107::c108::c109::c110::c111::c112::c113::c114::c115::c116::c117::c118::c119::c120::c121::c122::c123::c124::c125::c126::c127::c128::c129::c130::c131::c132::c133::c134::c135::c136::c137::c138::c139::c140::c141::c142::c143::c144::c145::c146::c147::c148::c149::c150::c151::c152::c153::c154::c155::c156::c157::c158::c159::c160::c161::c162::c163::c164::c165::c166::c167::c168::c169::c170::c171::c172::c173::c174::c175::c176::c177::c178::c179::c180::c181::c182::c183::c184::c185::c186::c187::c188::c189::c190::c191::c192::c193::c194::c195::c196::c197::c198::c199::c200::c201::c202::c203::c204::c205::c206::c207::c208::c209::u210::u211::u212::u213::u214::u215::u216::u217::u218::u219::u220::u221::u222::u223::u224::u225::u226::u227::u228::u229::u230::u231::u232::u233::u234::u235::u236::u237::u238::u239::u240::u241::u242::u243::u244::u245::u246::u247::u248::u249::u250::u251::u252::u253::u254::u255::u256::u257::u258::u259::u260::u261::u262::u263::u264::u265::u266::u267::u268::u269::u270::u271::u272::u273::u274::u275::u276::u277::u278::u279::u280::c281::c282::c283::c284::c285::c286::c287::c288::c289::c290::c291::c292::c293::c294::c295::c296::c297::c298::c299::c300::c301::c302::c303::c304::c305::c306::c307::c308::c309::c310::c311::c312::c313::c314::c315::c316::c317::c318::c319::c320::c321::c322::c323::c324::c325::c326::c327::c328::c329::c330::c331::c332::c333::c334::c335::c336::c337::c338::c339::c340::c341::c342::c343::c344::c345::c346::c347::c348::c349::c350::c351::c352::c353::c354::c355::c356::c357::c358::c359::c360::c361::[]),[]⟩ wx) :
  Code.wp Tryz.prog (blk69 6) Q ⟨List.toArray ((.pointer (some ⟨x.F,0,none⟩))::c1::c2::c3::c4::c5::(.int .i64 s)::c7::c8::c9::c10::c11::c12::c13::c14::c15::c16::c17::c18::c19::c20::c21::c22::c23::c24::c25::c26::c27::c28::c29::c30::c31::c32::c33::c34::c35::c36::c37::c38::c39::c40::c41::c42::c43::c44::c45::c46::c47::c48::c49::c50::c51::c52::c53::c54::c55::c56::c57::c58::c59::c60::c61::c62::c63::c64::c65::c66::c67::c68::c69::c70::c71::c72::c73::c74::c75::c76::c77::c78::c79::c80::c81::c82::c83::c84::c85::c86::c87::c88::c89::c90::c91::c92::c93::c94::c95::c96::c97::c98::c99::c100::c101::c102::c103::c104::c105::c106::c107::c108::c109::c110::c111::c112::c113::c114::c115::c116::c117::c118::c119::c120::c121::c122::c123::c124::c125::c126::c127::c128::c129::c130::c131::c132::c133::c134::c135::c136::c137::c138::c139::c140::c141::c142::c143::c144::c145::c146::c147::c148::c149::c150::c151::c152::c153::c154::c155::c156::c157::c158::c159::c160::c161::c162::c163::c164::c165::c166::c167::c168::c169::c170::c171::c172::c173::c174::c175::c176::c177::c178::c179::c180::c181::c182::c183::c184::c185::c186::c187::c188::c189::c190::c191::c192::c193::c194::c195::c196::c197::c198::c199::c200::c201::c202::c203::c204::c205::c206::c207::c208::c209::c210::c211::c212::c213::c214::c215::c216::c217::c218::c219::c220::c221::c222::c223::c224::c225::c226::c227::c228::c229::c230::c231::c232::c233::c234::c235::c236::c237::c238::c239::c240::c241::c242::c243::c244::c245::c246::c247::c248::c249::c250::c251::c252::c253::c254::c255::c256::c257::c258::c259::c260::c261::c262::c263::c264::c265::c266::c267::c268::c269::c270::c271::c272::c273::c274::c275::c276::c277::c278::c279::c280::c281::c282::c283::c284::c285::c286::c287::c288::c289::c290::c291::c292::c293::c294::c295::c296::c297::c298::c299::c300::c301::c302::c303::c304::c305::c306::c307::c308::c309::c310::c311::c312::c313::c314::c315::c316::c317::c318::c319::c320::c321::c322::c323::c324::c325::c326::c327::c328::c329::c330::c331::c332::c333::c334::c335::c336::c337::c338::c339::c340::c341::c342::c343::c344::c345::c346::c347::c348::c349::c350::c351::c352::c353::c354::c355::c356::c357::c358::c359::c360::c361::[]),[]⟩ w:=by
 have H:=Lib.hid h;have HKK:=Lib.hid hK;have HRR:=Lib.hid hR
 clear h hK hR
 conv => arg 2;whnf
 rcases Nat.lt_or_ge s 4 with g | g
 ·have e0 : dextra s = 0:=by unfold dextra;rw [if_pos g]
  have e1 : dbase s = 1 + s:=by unfold dbase;rw [if_pos g]
  have m1 : (s : Int) < 4:=by omega
  rw [e0] at hy H
  have hy0 : y = 0:=by omega
  go_wp2_with fail
  refine HKK.out _ _ _ _ _ _ _ _ _ _ _ _ _ _ _ _ _ _ _ _ _ _ _ _ _ _ _ _ _ _ _ _ _ _ _ _ _ _ _ _ _ _ _ _ _ _ _ _ _ _ _ _ _ _ _ _ _ _ _ _ _ _ _ _ _ _ _ _ _ _ _ _ _ _ _ _ c BB p H.out (.inr (Nat.le_refl _)) ?_
  rw [e1,hy0];congr 1;omega
 ·have m1 : ¬ ((s : Int) < 4):=by omega
  have m2 : (s : Int) < 30:=by omega
  obtain ⟨d1,d2⟩:=dsym_form s g hs y hy
  have hde:=dextra_le s hs
  obtain ⟨de,hded⟩ : ∃ k,dextra s = k:=⟨_,rfl⟩
  rw [hded] at d1 d2 hy H hde
  have HDE:=Lib.hid hded;have HD2:=Lib.hid d2
  have s1 : ((s : Int) - 2) / 2 = (de : Int):=by omega
  have s2 : (2 : Int) ≤ (s : Int):=by omega
  have hand : bits BinOp.and IntKind.i64 (s : Int) 1 = ((s % 2 : Nat) : Int):=by
   have:=bits_mask .i64 62 (by decide) (fun m h0 h1 => IntWalk.i64_in m (by constructor <;> omega)) 1 (by decide) (s : Int) (by omega) (by omega)
   simpa using this
  clear hded d2
  go_upto_block 7 with (fail)
  obtain ⟨bs,hbs⟩ : ∃ k,s % 2 * 2 ^ de = k:=⟨_,rfl⟩
  have hp13 : (2 : Nat) ^ de ≤ 8192:=Nat.le_trans (Nat.pow_le_pow_right (by omega) hde) (by decide)
  have hp0:=Nat.two_pow_pos de
  have hbsl : bs ≤ 8192:=by
   rw [← hbs]
   have : s % 2 * 2 ^ de ≤ 1 * 2 ^ de:=Nat.mul_le_mul_right _ (by omega)
   omega
  have s3 : wrap64 ((s : Int) % 2 * 2 ^ ((s - 2) / 2)) = (bs : Int):=by
   rw [← d1,← hbs]
   have e : (s : Int) % 2 * 2 ^ de = ((s % 2 * 2 ^ de : Nat) : Int):=by simp
   rw [e]
   simp [wrap64];omega
  have s4 : (((s - 2 : Nat) : Int) / 2) = (de : Int):=by omega
  rw [s3,s4]
  have HBS:=Lib.hid hbs
  clear s3 s4 s1 hand d1 hbs
  refine need69_7 x ap de (by omega) w w c c BB _ p H.out hsz (by simp) hBB _ ?_ ?_
  ·intro u3 u234 u235 u236 u237 u238 u239 u240 u241 u242 u243 u244 u245 u246 u247 w3 c3 B3 p3 hT3 hn3 hb3
   obtain ⟨hc3,hc4⟩:=hT3.cells
   have hf1:=hT3.blk.free
   obtain ⟨vb,hvb⟩ : ∃ v,val B3 = v:=⟨_,rfl⟩
   obtain ⟨nb,hnb⟩ : ∃ v,B3.length = v:=⟨_,rfl⟩
   have hnbl : nb < 32:=by omega
   rw [hnb] at hc4 hn3
   rw [hvb] at hc3
   have hvl : vb < 4294967296:=by
    have:=val_lt B3
    rw [hvb,hnb] at this
    exact Nat.lt_of_lt_of_le this (Nat.le_trans (Nat.pow_le_pow_right (by omega) (show nb ≤ 32 by omega)) (by decide))
   have hbt:=(bits_take hT3.z (by rw [hnb];exact hn3)).1
   rw [hvb] at hbt
   have HT3:=Lib.hid hT3;have HVB:=Lib.hid hvb;have HNB:=Lib.hid hnb;have HB3:=Lib.hid hb3
   clear hT3 hvb hnb hb3
   go_wp2_with fail
   have hv8 : (vb : Int) / 2 ^ de = ((vb / 2 ^ de : Nat) : Int):=by simp
   have hn8 : (nb : Int) - (de : Int) = ((nb - de : Nat) : Int):=by omega
   have hs4 : 5 ≤ c3.size:=by have:=get_lt HT3.out.bits.nb;omega
   have hU:=HT3.out.used (w':=(w3.setCell ⟨x.F,3,none⟩ (.int .u32 ((vb / 2 ^ de : Nat) : Int))).setCell ⟨x.F,4,none⟩ (.int .u64 ((nb - de : Nat) : Int))) (c':=(c3.setIfInBounds 3 (.int .u32 ((vb / 2 ^ de : Nat) : Int))).setIfInBounds 4 (.int .u64 ((nb - de : Nat) : Int)))
    (by rw [HNB.out];exact hn3) ap ((HT3.out.blk.set 3 _).set 4 _) (((Same.refl _ c3).set (.inl rfl) _).set (.inr rfl) _) (((Ext.refl _ _).only _).only _) (by rw [set_ne _ _ (by decide),set_eq _ (by omega),HVB.out]) (by rw [set_eq _ (by simp;omega),HNB.out])
   rw [hv8,hn8]
   refine HKK.out _ _ _ _ _ _ _ _ _ _ _ _ _ _ _ _ _ _ _ _ _ _ _ _ _ _ _ _ _ _ _ _ _ _ _ _ _ _ _ _ _ _ _ _ _ _ _ _ _ _ _ _ _ _ _ _ _ _ _ _ _ _ _ _ _ _ _ _ _ _ _ _ _ _ _ _ _ (B3.drop de) p3 hU.1 ?_ ?_
   ·rw [List.length_drop,HNB.out]
    have:=HB3.out
    rw [HNB.out] at this
    rcases this with h | h
    ·left;omega
    ·right;omega
   ·rw [dist_arith de bs vb y hde hp13 hvl hbsl hy hbt (by rw [← HBS.out];simp)]
    have h2:=HD2.out
    rw [HBS.out] at h2
    rw [← h2]
  ·intro u3 u234 u235 u236 u237 u238 u239 u240 u241 u242 u243 u244 u245 u246 u247 wx wy c3 B3 p3 hT3 hx he
   have HT3:=Lib.hid hT3;have HE:=Lib.hid he
   clear hT3 he
   go_wp2_with fail
   exact HRR.out _ _ _ _ _ _ _ _ _ _ _ _ _ _ _ _ _ _ _ _ _ _ _ _ _ _ _ _ _ _ _ _ _ _ _ _ _ _ _ _ _ _ _ _ _ _ _ _ _ _ _ _ _ _ _ _ _ _ _ _ _ _ _ _ _ _ _ _ _ _ _ _ _ _ _ wx wy c3 _ B3 p3 HT3.out hx HE.out
end Go.Proofs.YthpapbilhjobnaaGreatDoor
namespace Go.Proofs.YthpapbilhjobnaaGreatDoor
open Go.RowKit Pu
def scopeIn : Code → Code
 | .scope c => c
 | _ => .skip
noncomputable def sc69 : Code:=((Tryz.f69.body.map scopeIn)).getD .skip
noncomputable def lab69 (l : Nat) : Code:=(findLabel sc69 l).getD .skip
structure Dec (x : Pl) (w : World) (c : Array Value) (q : Nat) (H hs : List UInt8) (wr rd : Nat) (full : Bool) (T : List UInt8) (Y BB : List Bool) (p : Nat) : Prop where
 tk : Tak x w c Y w c BB p
 w3 : W3 x w c q H hs wr rd full T
 sz : c.size = 1054
structure Tabs (x : Pl) (w : World) (c : Array Value) (lit dist : List Nat) : Prop where
 hl : ∃ b1 o1 mn1,c[1050]? = some (.pointer (some ⟨b1,o1,none⟩)) ∧ HT w x.F x.N b1 o1 lit mn1 ∧ mn1 ≤ len lit 256
 glit : Pu.Good lit
 llen : lit.length ≤ 400
 eob : 0 < len lit 256
 hd : (c[1051]? = some (.pointer none) ∧ dist = fixDistsP) ∨
  ∃ mn2,c[1051]? = some (.pointer (some ⟨x.F,520,none⟩)) ∧ HT w x.F x.N x.F 520 dist mn2 ∧ (∀ s,0 < len dist s → mn2 ≤ len dist s) ∧ mn2 ≤ 15 ∧ (Pu.Good dist ∨ ∀ s,len dist s = 0) ∧ dist.length ≤ 400
theorem Tabs.stay {x : Pl} {w w' : World} {c c' : Array Value} {lit dist : List Nat} {M S : Nat → Prop} (h : Tabs x w c lit dist) (hw : Blk w x.F c 147) (hw' : Blk w' x.F c' 147) (hs : Same S c c') (hS : ∀ k,5 ≤ k → k < 1035 → ¬ S k) (hS2 : ¬ S 1050 ∧ ¬ S 1051) (he : Ext M w w') (hM : ∀ k,M k → k = x.F ∨ x.N k) : Tabs x w' c' lit dist:=by
 obtain ⟨⟨b1,o1,mn1,h1,h2,h3⟩,h4,h5,h6,h7⟩:=h
 refine ⟨⟨b1,o1,mn1,by rw [hs.2 _ hS2.1];exact h1,h2.stay hw hw' hs hS he hM,h3⟩,h4,h5,h6,?_⟩
 rcases h7 with ⟨a,b⟩ | ⟨mn2,a,b,d⟩
 ·exact .inl ⟨by rw [hs.2 _ hS2.2];exact a,b⟩
 ·exact .inr ⟨mn2,by rw [hs.2 _ hS2.2];exact a,b.stay hw hw' hs hS he hM,d⟩
def JS (c : Array Value) (wr : Nat) (full : Bool) : Prop :=
 c[1046]? = some (.int .i64 0) ∨ (c[1046]? = some (.int .i64 1) ∧ c[1052]? = some (.int .i64 0) ∧ ∃ far : Nat,c[1053]? = some (.int .i64 far) ∧ 1 ≤ far ∧ far ≤ hsize wr full)
theorem JS.same {c c' : Array Value} {wr wr' : Nat} {full full' : Bool} (h : JS c wr full) (h1 : c'[1046]? = c[1046]?) (h2 : c'[1052]? = c[1052]?) (h3 : c'[1053]? = c[1053]?) (hz : hsize wr full ≤ hsize wr' full') : JS c' wr' full':=by
 rcases h with h | ⟨a,b,far,e,f,g⟩
 ·exact .inl (by rw [h1];exact h)
 ·exact .inr ⟨by rw [h1];exact a,by rw [h2];exact b,far,by rw [h3];exact e,f,Nat.le_trans g hz⟩
theorem JS.state {c : Array Value} {wr : Nat} {full : Bool} (h : JS c wr full) : c[1046]? = some (.int .i64 0) ∨ c[1046]? = some (.int .i64 1):=by
 rcases h with h | ⟨a,_⟩
 ·exact .inl h
 ·exact .inr a
theorem hsize_up (wr m : Nat) (full : Bool) : hsize wr full ≤ hsize (wr + m) full:=by unfold hsize;split <;> omega
structure Blkc where
 all : List UInt8
 ok : Prop
 Z : List Bool
 lit : List Nat
 dist : List Nat
 fin : Bool
 pos : Nat
 j : Nat
 Y : List Bool
 e : Nat
 d : Nat
structure S0 (x : Pl) (k : Blkc) (w0 : World) (c0 : Array Value) (w : World) (c : Array Value) (q : Nat) (H hs : List UInt8) (wr rd : Nat) (full : Bool) (T : List UInt8) (BB : List Bool) (p : Nat) (ts : List Tok) (i : Nat) : Prop where
 dec : Dec x w c q H hs wr rd full T (toksBits k.lit k.dist ts ++ (codeBits k.lit 256 ++ k.Y)) BB p
 tabs : Tabs x w c k.lit k.dist
 fin : c[1047]? = some (.bool k.fin)
 err : c[1048]? = some .nilIface
 rest : RestOf k.all k.fin k.pos k.j k.Z k.Y
 fit : toksFit k.all i ts k.j
 coded : ∀ t ∈ ts,t.coded k.lit k.dist
 hist : HistOk k.ok k.all i H
 base : H.length + k.e = i + k.d
 hand : BB.length < 8 + len k.lit 256
 same : Same HBM c0 c
 ext : Ext x.M3 w0 w
 js : JS c wr full
structure S1 (x : Pl) (k : Blkc) (w0 : World) (c0 : Array Value) (w : World) (c : Array Value) (q : Nat) (H hs : List UInt8) (wr rd : Nat) (full : Bool) (T : List UInt8) (BB : List Bool) (p : Nat) (ts : List Tok) (i far n : Nat) : Prop where
 dec : Dec x w c q H hs wr rd full T (toksBits k.lit k.dist ts ++ (codeBits k.lit 256 ++ k.Y)) BB p
 tabs : Tabs x w c k.lit k.dist
 fin : c[1047]? = some (.bool k.fin)
 err : c[1048]? = some .nilIface
 rest : RestOf k.all k.fin k.pos k.j k.Z k.Y
 fit : toksFit k.all i ts k.j
 coded : ∀ t ∈ ts,t.coded k.lit k.dist
 hist : HistOk k.ok k.all i (grow H far n)
 base : H.length + n + k.e = i + k.d
 hand : BB.length < 8 + len k.lit 256
 same : Same HBM c0 c
 ext : Ext x.M3 w0 w
 cl : c[1052]? = some (.int .i64 n)
 cd : c[1053]? = some (.int .i64 far)
 far1 : 1 ≤ far
 far2 : far ≤ hsize wr full
 n2 : n ≤ 258
 js : c[1046]? = some (.int .i64 0) ∨ c[1046]? = some (.int .i64 1)
structure Bad (x : Pl) (ok : Prop) (w : World) (c : Array Value) (q : Nat) (H hs : List UInt8) (wr rd : Nat) (full : Bool) (p : Nat) : Prop where
 res : Res x w c p
 w3 : W3 x w c q H hs wr rd full []
 sz : c.size = 1054
 why : (¬ ok ∧ ∃ z : Int,c[1048]? = some (.iface 159 (.int .i64 z))) ∨ (x.ext ≠ [] ∧ c[1048]? = some (.iface 175 (.pointer (some x.U))))
inductive HBEnd (x : Pl) (k : Blkc) (w0 : World) (c0 : Array Value) (q : Nat) (w : World) : Prop
 | toks {c : Array Value} {H hs T : List UInt8} {wr rd : Nat} {fu : Bool} {BB : List Bool} {p : Nat} {ts : List Tok} {i : Nat} (h : S0 x k w0 c0 w c q H hs wr rd fu T BB p ts i) (ht : T ≠ []) (hs : c[1045]? = some (fnV 69)) (hz : c[1046]? = some (.int .i64 0)) : HBEnd x k w0 c0 q w
 | copy {c : Array Value} {H hs T : List UInt8} {wr rd : Nat} {fu : Bool} {BB : List Bool} {p : Nat} {ts : List Tok} {i far n : Nat} (h : S1 x k w0 c0 w c q H hs wr rd fu T BB p ts i far n) (ht : T ≠ []) (hs : c[1045]? = some (fnV 69)) (hz : c[1046]? = some (.int .i64 1)) : HBEnd x k w0 c0 q w
 | done {c : Array Value} {H hs T : List UInt8} {wr rd : Nat} {fu : Bool} {BB : List Bool} {p : Nat} (hd : Dec x w c q H hs wr rd fu T k.Y BB p) (hB : BB.length < 8) (hh : HistOk k.ok k.all k.j H) (hb : H.length + k.e = k.j + k.d) (hr : RestOf k.all k.fin k.pos k.j k.Z k.Y) (hs : c[1045]? = some (fnV 61))
   (he : (k.fin = false ∧ T = [] ∧ c[1048]? = some .nilIface) ∨ (k.fin = true ∧ wr = rd ∧ c[1048]? = some (.iface 175 (.pointer (some x.A))))) (hsm : Same HBM c0 c) (hx : Ext x.M3 w0 w) (hj : JS c wr fu) : HBEnd x k w0 c0 q w
 | bad {c : Array Value} {H hs : List UInt8} {wr rd : Nat} {fu : Bool} {p i : Nat} (h : Bad x k.ok w c q H hs wr rd fu p) (hb : H.length + k.e ≤ k.all.length + k.d) (hsm : Same HBM c0 c) (hx : Ext x.M3 w0 w) : HBEnd x k w0 c0 q w
theorem W3.took {x : Pl} {w w' : World} {c c' : Array Value} {q : Nat} {H hs : List UInt8} {wr rd : Nat} {full : Bool} {T : List UInt8} {Y BB : List Bool} {p : Nat} (h : W3 x w c q H hs wr rd full T) (ap : Apart x) (ht : Tak x w c Y w' c' BB p) : W3 x w' c' q H hs wr rd full T:=by
 refine ⟨h.dd.took ap ht,h.win,h.lt,?_,h.len,h.tl⟩
 unfold OutIs
 rw [ht.same.2 1049 (BM_low (by omega))]
 exact h.out
theorem flushT {H hs : List UInt8} {wr rd q : Nat} {full : Bool} (hw : Win hs wr full H) (hr : rd ≤ wr) (hl : H.length = q + (wr - rd)) : ∃ T,T.length = wr - rd ∧ (hs.drop rd).take T.length = T ∧ T = (H.drop q).take T.length ∧ H.length = q + T.length:=by
 have hle:=hw.le
 have hsz:=hw.size
 have ht:=hw.tail rd hr
 have hlen : ((hs.take wr).drop rd).length = wr - rd:=by rw [List.length_drop,List.length_take];omega
 refine ⟨(hs.take wr).drop rd,hlen,?_,?_,by omega⟩
 ·rw [hlen,List.drop_take]
 ·rw [hlen,ht,show H.length - (wr - rd) = q by omega,List.take_of_length_le (by rw [List.length_drop];omega)]
theorem W3.flush {x : Pl} {w : World} {c : Array Value} {q : Nat} {H hs : List UInt8} {wr rd : Nat} {full : Bool} (h : W3 x w c q H hs wr rd full []) : ∃ T,T.length = wr - rd ∧ (hs.drop rd).take T.length = T ∧ T = (H.drop q).take T.length ∧ H.length = q + T.length :=
 flushT h.win h.dd.rdle (by have:=h.len;simpa using this)
theorem OutIs.none {c c' : Array Value} {hb : Nat} {hs : List UInt8} (h : OutIs c hb hs []) (hs' : List UInt8) (hc : c'[1049]? = c[1049]?) : OutIs c' hb hs' []:=by
 rcases h with ⟨_,h⟩ | ⟨a,cap,h1,h2,h3,_⟩
 ·exact .inl ⟨rfl,by rw [hc];exact h⟩
 ·exact .inr ⟨a,cap,by rw [hc];exact h1,h2,h3,by simp⟩
theorem flushed_w3 {x : Pl} {w' : World} {d4 : Array Value} {q : Nat} {H hs : List UInt8} {wr rd st : Nat} {full : Bool} (hd4 : DD w' x.F x.hb d4 hs (if wr = 32768 then 0 else wr) (if wr = 32768 then 0 else wr) (if wr = 32768 then true else full)) (hsz : d4.size = 1054) (hw : Win hs wr full H) (hr : rd ≤ wr) (hl : H.length = q + (wr - rd)) :
  ∃ T wr' full',T.length = wr - rd ∧ (wr = 32768 → full' = true ∧ wr' = 0) ∧ (wr < 32768 → full' = full ∧ wr' = wr) ∧ W3 x (((w'.setCell ⟨x.F,1049,none⟩ (.slice (some ⟨x.hb,rd,none⟩) (wr - rd) (32768 - rd))).setCell ⟨x.F,1045,none⟩ (fnV 69)).setCell ⟨x.F,1046,none⟩ (.int .i64 st))
   (((d4.setIfInBounds 1049 (.slice (some ⟨x.hb,rd,none⟩) (wr - rd) (32768 - rd))).setIfInBounds 1045 (fnV 69)).setIfInBounds 1046 (.int .i64 st)) q H hs wr' wr' full' T:=by
 obtain ⟨T,t1,t2,t3,t4⟩:=flushT hw hr hl
 have hwl:=hw.le
 have hout : OutIs (((d4.setIfInBounds 1049 (.slice (some ⟨x.hb,rd,none⟩) (wr - rd) (32768 - rd))).setIfInBounds 1045 (fnV 69)).setIfInBounds 1046 (.int .i64 st)) x.hb hs T :=
  .inr ⟨rd,32768 - rd,by rw [set_ne _ _ (by decide),set_ne _ _ (by decide),set_eq _ (by omega),t1],by omega,by omega,t2⟩
 have hdd:=((hd4.setF (k:=1049) (.slice (some ⟨x.hb,rd,none⟩) (wr - rd) (32768 - rd)) (by omega)).setF (k:=1045) (fnV 69) (by omega)).setF (k:=1046) (.int .i64 st) (by omega)
 rcases Nat.lt_or_ge wr 32768 with h | h
 ·rw [if_neg (by omega),if_neg (by omega)] at hdd
  exact ⟨T,wr,full,t1,fun e => by omega,fun _ => ⟨rfl,rfl⟩,hdd,hw,h,hout,by omega,t3⟩
 ·have he : wr = 32768:=by omega
  rw [if_pos he,if_pos he] at hdd
  refine ⟨T,0,true,t1,fun _ => ⟨rfl,rfl⟩,fun e => by omega,hdd,?_,by omega,hout,by omega,t3⟩
  rw [he] at hw
  exact hw.turn
theorem W3.moved {x : Pl} {w w' : World} {c c' : Array Value} {q : Nat} {H hs : List UInt8} {wr rd : Nat} {full : Bool} {T : List UInt8} (h : W3 x w c q H hs wr rd full T) (ap : Apart x) (hb : Blk w' x.F c' 147) (hs' : Same BM c c') (he : Ext (FM x.F x.R) w w') : W3 x w' c' q H hs wr rd full T:=by
 refine ⟨⟨hb,by rw [hs'.2 _ (BM_low (by omega))];exact h.dd.hist,by rw [hs'.2 _ (BM_low (by omega))];exact h.dd.wrc,by rw [hs'.2 _ (BM_low (by omega))];exact h.dd.rdc,by rw [hs'.2 _ (BM_low (by omega))];exact h.dd.fullc,
  h.dd.hblk.ext he (fun e => by rcases e with e | e;exact ap.Fh e.symm;exact ap.Rh e.symm),h.dd.ne,h.dd.size,h.dd.wrle,h.dd.rdle⟩,h.win,h.lt,?_,h.len,h.tl⟩
 unfold OutIs
 rw [hs'.2 1049 (BM_low (by omega))]
 exact h.out
theorem W3.setF {x : Pl} {w : World} {c : Array Value} {q : Nat} {H hs : List UInt8} {wr rd : Nat} {full : Bool} {T : List UInt8} (h : W3 x w c q H hs wr rd full T) {j : Nat} (v : Value) (hj : j ≠ 1037 ∧ j ≠ 1038 ∧ j ≠ 1039 ∧ j ≠ 1040 ∧ j ≠ 1049) : W3 x (w.setCell ⟨x.F,j,none⟩ v) (c.setIfInBounds j v) q H hs wr rd full T:=by
 refine ⟨h.dd.setF v ⟨hj.1,hj.2.1,hj.2.2.1,hj.2.2.2.1⟩,h.win,h.lt,?_,h.len,h.tl⟩
 unfold OutIs
 rw [set_ne _ _ hj.2.2.2.2]
 exact h.out
theorem Res.setF {x : Pl} {w : World} {c : Array Value} {p : Nat} (h : Res x w c p) (ap : Apart x) {j : Nat} (v : Value) (hj : j ≠ 0) : Res x (w.setCell ⟨x.F,j,none⟩ v) (c.setIfInBounds j v) p:=by
 have he : Ext (fun j => j = x.F) w (w.setCell ⟨x.F,j,none⟩ v):=(Ext.refl _ w).only _
 exact ⟨h.blk.set j v,by rw [set_ne _ _ hj];exact h.rdr,h.src.ext he (fun e => ap.FR e.symm) ap.sF,h.ends.ext he (fun j hj e => ap.E j hj (.inl e))⟩
theorem HBEnd.err {x : Pl} {k : Blkc} {w0 w : World} {d0 d : Array Value} {q : Nat} {H hs : List UInt8} {wr rd : Nat} {full : Bool} {p : Nat} (ap : Apart x) (hr : Res x w d p) (hw : W3 x w d q H hs wr rd full []) (hsz : d.size = 1054) (v : Value) (hv : (¬ k.ok ∧ ∃ z : Int,v = .iface 159 (.int .i64 z)) ∨ (x.ext ≠ [] ∧ v = .iface 175 (.pointer (some x.U))))
  (hb : H.length + k.e ≤ k.all.length + k.d) (hsm : Same HBM d0 d) (hx : Ext x.M3 w0 w) : HBEnd x k w0 d0 q (w.setCell ⟨x.F,1048,none⟩ v):=by
 have hc : (d.setIfInBounds 1048 v)[1048]? = some v:=set_eq _ (by omega)
 refine .bad (i:=0) ⟨hr.setF ap v (by omega),hw.setF v (by omega),by simpa using hsz,?_⟩ hb (hsm.set (by unfold HBM;omega) _) (hx.setCell (p:=⟨x.F,1048,none⟩) (fun _ => .inl rfl) _)
 rcases hv with ⟨h1,z,h2⟩ | ⟨h1,h2⟩
 ·exact .inl ⟨h1,z,by rw [hc,h2]⟩
 ·exact .inr ⟨h1,by rw [hc,h2]⟩
theorem IsBlock.le {all : List UInt8} {pos i j : Nat} {B : List Bool} (h : IsBlock all pos i j B) : i ≤ j:=by
 cases h with
 | stored k hk hpos hij hj hn => exact hij
 | fixed toks hfit => have:=toksFit_le hfit;omega
 | own toks lit dist lens nc rs hfit hh hc => have:=toksFit_le hfit;omega
theorem Ahead.le {all : List UInt8} {pos i : Nat} {X : List Bool} (h : Ahead all pos i X) : i ≤ all.length:=by
 induction h with
 | last hb => exact IsBlock.le hb
 | more hb h ih => exact Nat.le_trans (IsBlock.le hb) ih
theorem RestOf.le {all : List UInt8} {fin : Bool} {pos i : Nat} {Z Y : List Bool} (h : RestOf all fin pos i Z Y) : i ≤ all.length:=by
 rcases h.2 with ⟨_,h1,_⟩ | ⟨_,X,h1,_⟩
 ·omega
 ·exact Ahead.le h1
theorem S0.le {x : Pl} {k : Blkc} {w0 : World} {c0 : Array Value} {w : World} {c : Array Value} {q : Nat} {H hs : List UInt8} {wr rd : Nat} {full : Bool} {T : List UInt8} {BB : List Bool} {p : Nat} {ts : List Tok} {i : Nat} (h : S0 x k w0 c0 w c q H hs wr rd full T BB p ts i) : H.length + k.e ≤ k.all.length + k.d:=by
 have h1:=toksFit_le h.fit
 have h2:=RestOf.le h.rest
 have h3:=h.base
 omega
theorem lab0 : findLabel sc69 0 = some (lab69 0):=by kernel_rfl
theorem lab1 : findLabel sc69 1 = some (lab69 1):=by kernel_rfl
end Go.Proofs.YthpapbilhjobnaaGreatDoor
