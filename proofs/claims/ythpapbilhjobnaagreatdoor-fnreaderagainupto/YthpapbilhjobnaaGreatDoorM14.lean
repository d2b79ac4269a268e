/-
  Parts of the proofs over the reader and the encoder of streams, joined: Tr Ru. Conditions: each theorem names its own.
-/
import Derived.Test.YthpapbilhjobnaaGreatDoorM01
import Derived.Test.YthpapbilhjobnaaGreatDoorM13
import Derived.ArgAppend
import Derived.Deep.DeepCutAuto
import Derived.BigGuardPart
import Derived.Outline
import Derived.Deep.CutBlock
set_option linter.unusedVariables false
set_option linter.unusedSimpArgs false
namespace Go.Proofs.YthpapbilhjobnaaGreatDoor
open Go.RowKit Pu
def LR (base : Nat) (w : World) (v : Value) (l : List Nat) : Prop :=
 (l = [] ∧ v = .slice none 0 0) ∨ ∃ g cap,v = .slice (some ⟨g,0,none⟩) l.length cap ∧ l.length ≤ cap ∧ cap ≤ maxLen ∧ base < g ∧ g < w.heap.size ∧ ∀ j x,(l.map IV)[j]? = some x → w.cell? ⟨g,j,none⟩ = some x
theorem LR.of_owns {base b : Nat} {w : World} {v : Value} {l : List Nat} {n : Nat} (h : w.ownsRow b 3 1 v n (l.map IV)) (hb : base < b) : LR base w v l:=by
 have h1 : l.length = n:=by simpa using h.1
 subst h1
 rcases h.2 with ⟨rfl,h2⟩ | ⟨g,cap,cur,rfl,hbg,hg,hn,hc,hs,ht⟩
 ·exact .inl ⟨List.eq_nil_of_length_eq_zero h2,rfl⟩
 ·refine .inr ⟨g,cap,rfl,hn,hc,by omega,lt_of_block hg,fun j x hx => ?_⟩
  have:=h.cells (g:=g) rfl j x hx
  by_cases hj : j = 0
  ·subst hj;simpa [Addr.add] using this
  ·simpa [Addr.add,hj] using this
theorem LR.ext {base : Nat} {w w' : World} {v : Value} {l : List Nat} {M : Nat → Prop} (h : LR base w v l) (he : Ext M w w') (hm : ∀ g,base < g → ¬ M g) : LR base w' v l:=by
 rcases h with h | ⟨g,cap,h1,h2,h3,h4,h5,h6⟩
 ·exact .inl h
 ·exact .inr ⟨g,cap,h1,h2,h3,h4,Nat.lt_of_lt_of_le h5 he.size,fun j x hx => he.cellSome (hm g h4) (h6 j x hx)⟩
theorem Cho.carry {w w' : World} {C : Nat} {lv : Value} {a a' : Nat} (h : Cho w C lv a) (he : Ext (CM C) w w') (hb : Blk w' C #[lv,.int .i64 a'] 64) : Cho w' C lv a':=by
 obtain ⟨_,⟨zs,hzl,hr⟩,hne⟩:=h
 exact ⟨hb,⟨zs,hzl,hr.ext he (fun b hb e => hne (by unfold CM at e;rw [← e];exact hb))⟩,hne⟩
theorem deep_lt {d p m : Nat} (h : 2 ^ d = p) (hm : m ≤ 300) (hlt : p < m) : d < 9:=by
 rcases Nat.lt_or_ge d 9 with h1 | h1
 ·exact h1
 ·have h2 : 2 ^ 9 ≤ 2 ^ d:=Nat.pow_le_pow_right (by omega) h1
  rw [h] at h2
  omega
theorem short_le {d p m short : Nat} (h : 2 ^ d = p) (hdm : 0 < d → 2 ^ (d - 1) < m) (hs : short + m = p) (hm : 0 < m) : short ≤ m:=by
 rcases Nat.lt_or_ge 0 d with h0 | h0
 ·have h1:=hdm h0
  obtain ⟨e,rfl⟩ : ∃ e,d = e + 1:=⟨d - 1,by omega⟩
  rw [Nat.add_sub_cancel] at h1
  rw [Nat.pow_succ] at h
  omega
 ·have : d = 0:=by omega
  subst this
  simp at h
  omega
theorem short_val {d p m : Nat} (hw : wrap64 (2 ^ d) = (p : Int)) (h : m ≤ p) (hp : p ≤ 512) : ∃ short : Nat,wrap64 (wrap64 (2 ^ d) - (m : Int)) = (short : Int) ∧ short + m = p:=by
 refine ⟨p - m,?_,by omega⟩
 rw [hw,IntWalk.wrap64_in _ ⟨by omega,by omega⟩]
 omega
theorem wrap_pow {d p : Nat} (h : 2 ^ d = p) (hd : d ≤ 9) : wrap64 (2 ^ d) = (p : Int) ∧ p ≤ 512:=by
 have hp : 2 ^ d ≤ 2 ^ 9:=Nat.pow_le_pow_right (by omega) hd
 have e : ((2 : Int) ^ d) = ((2 ^ d : Nat) : Int):=by simp
 rw [h] at hp
 refine ⟨?_,hp⟩
 rw [e,h]
 exact IntWalk.wrap64_in _ ⟨by omega,by omega⟩
structure TS (w : World) (C : Nat) (lv : Value) (at0 n : Nat) (us : List Bool) (l o : List Nat) (long : Nat) (vl : Value) (a : Nat) (wr : World) : Prop where
 skew : Skew us l o long
 own : wr.ownsRow w.heap.size 3 1 (.slice (some ⟨w.heap.size,0,none⟩) n n) n (o.map IV)
 lr : LR w.heap.size wr vl l
 ext : Ext (CM C) w wr
 ge : at0 ≤ a
 cho : Cho wr C lv a
def TreeOut (w : World) (C : Nat) (lv : Value) (at0 n : Nat) (us : List Bool) (b : Nat) (e : Ending) (w' : World) : Prop :=
 ∃ v o at',e = .returned v ∧ w'.ownsRow w.heap.size 3 1 v n (o.map IV) ∧ TreePost us o b ∧ Ext (CM C) w w' ∧ at0 ≤ at' ∧ at' ≤ at0 + 5 ∧ Cho w' C lv at'
structure FI (B n : Nat) (us : List Bool) (l o : List Nat) (long d short : Nat) (wo : World) (i : Nat) (o' : List Nat) (wr : World) : Prop where
 own : wr.ownsRow B 3 1 (.slice (some ⟨B,0,none⟩) n n) n (o'.map IV)
 ext : Ext (fun k => k = B) wo wr
 flat : 0 < long + d → Flat us l o long d short i o'
 same : long + d = 0 → o' = o
theorem FI.zero {B n : Nat} {us : List Bool} {l o : List Nat} {long d short : Nat} {wo : World} {i : Nat} {o' : List Nat} {wr : World} (h : FI B n us l o long d short wo i o' wr)
  (hs : Skew us l o long) (hi : i < l.length) : o'.length = us.length ∧ l[i] < us.length ∧ len o' l[i] = 0:=by
 rcases Nat.lt_or_ge 0 (long + d) with h1 | h1
 ·have hf:=h.flat h1
  have:=hf.zero l[i] (by rw [List.drop_eq_getElem_cons hi];exact List.mem_cons_self)
  exact ⟨hf.size,this⟩
 ·rw [h.same (by omega)]
  exact ⟨hs.size,hs.zero _ (List.getElem_mem hi)⟩
theorem FI.step {B n : Nat} {us : List Bool} {l o : List Nat} {long d short : Nat} {wo : World} {i : Nat} {o' : List Nat} {wr wr' : World} (h : FI B n us l o long d short wo i o' wr)
  (hs : Skew us l o long) (hi : i < l.length) (hb : long + d ≤ 15) (h1 : 0 < short → 1 < long + d) (x : Nat) (hx : l[i] = x)
  (y : Nat) (hy : y = if i < short then long + d - 1 else long + d)
  (ho : wr'.ownsRow B 3 1 (.slice (some ⟨B,0,none⟩) n n) n ((o'.set x y).map IV)) (he : Ext (fun k => k = B) wr wr') :
  FI B n us l o long d short wo (i + 1) (o'.set x y) wr':=by
 refine ⟨ho,h.ext.trans he,fun h0 => ?_,fun h0 => ?_⟩
 ·have:=(h.flat h0).step hs.nodup hi hb h0 h1
  rw [hx,← hy] at this
  exact this
 ·have hz:=h.zero hs hi
  have hy0 : y = 0:=by
   rw [hy]
   split <;> omega
  rw [hy0,← h.same h0]
  rw [hx] at hz
  have hg:=get_of_len (by omega) hz.2.2
  exact List.ext_getElem? (fun j => by
   rw [List.getElem?_set]
   split
   ·rename_i e;subst e;rw [hg];simp;omega
   ·rfl)
theorem short_two {d m short long : Nat} (hd : 0 < d → 2 ^ (d - 1) < m) (hs : short + m = 2 ^ d) (hm : 0 < m) : 0 < short → 1 < long + d:=by
 intro h0
 rcases d with _ | _ | d
 ·simp at hs;omega
 ·have:=hd (by omega);simp at this hs;omega
 ·omega
theorem tree_bound {d m n most long : Nat} {b : Nat} (hbb : b = 13 ∨ (most ≤ 9 ∧ n ≤ 32 ∧ b = 5)) (h9 : most ≤ 9 → long = 0) (hl : long ≤ 4) (hd : d ≤ 9) (hdm : 0 < d → 2 ^ (d - 1) < m) (hm : m ≤ n) : long + d ≤ b ∧ 1 ≤ b:=by
 rcases hbb with rfl | ⟨h1,h2,rfl⟩
 ·omega
 ·have:=h9 h1
  rcases Nat.lt_or_ge d 6 with h | h
  ·omega
  ·have h3:=hdm (by omega)
   have h4 : 2 ^ 5 ≤ 2 ^ (d - 1):=Nat.pow_le_pow_right (by omega) (by omega)
   omega
theorem Pu.TreePost.mono {us : List Bool} {o : List Nat} {b b' : Nat} (h : TreePost us o b) (hb : b ≤ b') : TreePost us o b':=⟨h.size,h.used,h.good,fun x hx => Nat.le_trans (h.le x hx) hb⟩
set_option maxHeartbeats 8000000 in
set_option maxRecDepth 100000 in
theorem tree_some (ub uo ucap C : Nat) (lv : Value) (at_ most : Nat) (us : List Bool) (w : World) (hC : Cho w C lv at_) (hn0 : 1 ≤ us.length) (hn1 : us.length ≤ 300) (ha : at_ ≤ 1000000000) (hm0 : 1 ≤ most) (hm1 : most ≤ 15) (b : Nat) (hbb : b = 13 ∨ (most ≤ 9 ∧ us.length ≤ 32 ∧ b = 5))
  (hc : ∀ j x,(us.map Value.bool)[j]? = some x → w.cell? ⟨ub,uo + j,none⟩ = some x) (hne : ub ≠ C) :
  Calls Tryz.prog 42 #[.slice (some ⟨ub,uo,none⟩) us.length ucap,.pointer (some ⟨C,0,none⟩),.int .i64 most] w (TreeOut w C lv at_ us.length us b):=by
 obtain ⟨i0,hi,hz0,hz1,hz2⟩:=info_parts Tryz.info3
 have HC:=Lib.hid hc;have HCH:=Lib.hid hC;have HBB:=Lib.hid hbb;clear hc hC hbb
 obtain ⟨n,hn⟩ : ∃ n,us.length = n:=⟨_,rfl⟩
 have HN:=Lib.hid hn
 rw [hn] at hn0 hn1 ⊢
 clear hn
 go_enter Tryz.func42,Tryz.ntmps42
 go_wp2_with (at_make;refine wpList_make_full _ rfl _ _ 23 rfl w.heap.size 3 i0 (.int .i64 0) 1 Tryz.underlying23 hi hz0 hz1 .i64 .i64 _ _ n rfl rfl rfl rfl ?_ ?_ (Nat.le_refl _) ?_)
 ·rw [hz2];omega
 ·simp only [maxLen];omega
 intro w0 hown0 hg0
 have hown1 : w0.ownsRow w.heap.size 3 1 (.slice (some ⟨w.heap.size,0,none⟩) n n) n ((List.replicate n 0).map IV):=by
  have : (madeCells #[Value.int .i64 0] n).toList = (List.replicate n 0).map IV:=by
   rw [toList_madeCells_one];simp [IV]
  rw [this] at hown0;exact hown0
 have hext : Ext (fun _ => False) w w0:=(Ext.refl _ w).grown hg0 (fun k e => by cases e)
 have HO:=Lib.hid hown1;have HE:=Lib.hid hext
 have hsz : w.heap.size < w0.heap.size:=(hown1.lt w.heap.size rfl).2
 have HSZ:=Lib.hid hsz
 clear hown0 hown1 hg0 hext hsz
 have HC0 : Hid (∀ s,(h : s < n) → w0.cell? ⟨ub,uo + s,none⟩ = some (.bool (us[s]'(by rw [HN.out];exact h)))):=Lib.hid fun s h => HE.out.cellSome (fun h => h) (HC.out s _ (by simp [show s < us.length by rw [HN.out];exact h]))
 go_wp2
 go_loopw [8,23] (fun v8 i wr => ∃ (k : Nat) (vl : Value),vl = v8 ∧ k ≤ n ∧ i = .int .i64 k ∧ wr.ownsRow w0.heap.size 3 1 vl (idx us k).length ((idx us k).map IV) ∧ Ext (fun _ => False) w0 wr) (fun _ i _ => n - (intOf i).toNat)
 case atStart => exact ⟨0,_,rfl,Nat.zero_le _,rfl,⟨rfl,.inl ⟨rfl,rfl⟩⟩,Ext.refl _ _⟩
 case round =>
  obtain ⟨k,vl,rfl,hk,rfl,hown,hext⟩:=hrel
  have H1:=Lib.hid hown;have H2:=Lib.hid hext;clear hown hext
  rcases Nat.lt_or_ge k n with hkn | hkn
  ·have hcell:=H2.out.cellSome (fun h => h) (HC0.out k hkn)
   have HIX:=Lib.hid (idx_succ us k (by rw [HN.out];exact hkn))
   have HIL:=Lib.hid (idx_length us k)
   obtain ⟨ub_,hub⟩ : ∃ x,us[k]'(by rw [HN.out];exact hkn) = x:=⟨_,rfl⟩
   rw [hub] at hcell HIX
   clear hub
   cases ub_
   ·go_wp2
    go_roundw
    case rel =>
     refine ⟨k + 1,_,rfl,by omega,by simp,?_,H2.out⟩
     have:=HIX.out
     simp at this
     rw [this]
     exact H1.out
    case measure => simp [intOf];omega
   ·have HB : Hid (w0.heap.size ≤ wr.heap.size):=Lib.hid H2.out.size
    go_wp2_with (at_builtin;refine wpList_append_moved _ rfl _ _ 23 rfl w0.heap.size 3 i0 _ 1 8 Tryz.underlying23 hi hz0 hz1 hz2 rfl (by decide) _ _ _ rfl (H1.out.alloc _) ⟨wr.heap.size,0,none⟩ 1 1 [IV k] rfl rfl ?c1 ?c2 ?c3 ?c4 ?c5 ?_)
    case c1 => exact fun j u h => h
    case c2 => simp [IV,Value.oneCell']
    case c3 => have:=HIL.out;simp only [maxLen];omega
    case c4 => have:=HIL.out;omega
    case c5 => have:=HB.out;simp;omega
    intro v' w1 ho hg _
    have HO1:=Lib.hid ho
    have HE1 : Hid (Ext (fun _ => False) w0 w1):=Lib.hid (Ext.grown (H2.out.alloc _) hg (fun k hk hlt => by have:=(H1.out.lt k hk).1;omega))
    clear ho hg
    go_wp2
    go_roundw
    case rel =>
     refine ⟨k + 1,_,rfl,by omega,by simp,?_,HE1.out⟩
     have:=HIX.out
     simp at this
     rw [this]
     simpa using HO1.out
    case measure => simp [intOf];omega
  ·have hb : decide ((k : Int) < (n : Int)) = false:=by simp;omega
   have hke : k = n:=by omega
   have HS : Hid (TS w C lv at_ n us (idx us us.length) (List.replicate us.length 0) 0 vl at_ wr):=Lib.hid (by
    have e : k = us.length:=by rw [HN.out];exact hke
    have h1:=H1.out
    rw [e] at h1
    refine ⟨Skew.start us,?_,LR.of_owns h1 HSZ.out,(HE.out.trans H2.out).mono (fun _ _ h => h.elim),Nat.le_refl _,HCH.out.ext (HE.out.trans H2.out) (fun h => h) (fun _ _ h => h)⟩
    rw [HN.out]
    exact owns_ext HO.out H2.out (fun _ _ h => h))
   obtain ⟨wo,rfl⟩ : ∃ wo : World,wo = wr:=⟨_,rfl⟩
   clear hke
   go_wp2_with fail
   refine (next_at 5 5 rfl C lv at_ wo HS.out.cho (by omega) (by omega) (by omega)).mono ?_
   rintro e w1 ⟨sk,hsk,rfl,hc1,he1,_⟩
   have HS1 : Hid (TS w C lv at_ n us (idx us us.length) (List.replicate us.length 0) 0 vl (at_ + 1) w1):=Lib.hid (by
    have h:=HS.out
    have hCw : C < w.heap.size:=HCH.out.blk.lt
    refine ⟨h.skew,owns_ext h.own he1 ?_,h.lr.ext he1 ?_,h.ext.trans he1,by omega,hc1⟩
    ·intro b hb e
     simp only [Value.ownBlock,Option.some.injEq] at hb
     unfold CM at e
     omega
    ·intro g hg e
     unfold CM at e
     omega)
   clear hc1 he1 HS
   go_wp2_with fail
   go_loopw [8,11,12] (fun v8 lg s wr => ∃ (l o : List Nat) (long sk a : Nat) (v : Value),v = v8 ∧ lg = .int .i64 long ∧ s = .int .i64 sk ∧ sk + long ≤ 4 ∧ sk + a ≤ at_ + 5 ∧ (most ≤ 9 → long = 0) ∧ l.length ≤ n ∧ TS w C lv at_ n us l o long v a wr) (fun _ _ s _ => (intOf s).toNat)
   case atStart =>
    exact ⟨_,_,0,sk,at_ + 1,_,rfl,rfl,rfl,by omega,by omega,fun _ => rfl,by have:=idx_length us us.length;rw [HN.out] at this ⊢;exact this,HS1.out⟩
   case round =>
    obtain ⟨l,o,long,sk,a,vl,rfl,rfl,rfl,hsl,hsa,h9,hmn,hts⟩:=hrel
    have HTS:=Lib.hid hts;have H9:=Lib.hid h9
    clear hts h9
    obtain ⟨wo,rfl⟩ : ∃ wo : World,wo = wr:=⟨_,rfl⟩
    obtain ⟨m,hm⟩ : ∃ m,l.length = m:=⟨_,rfl⟩
    have HM:=Lib.hid hm
    rw [hm] at hmn
    obtain ⟨ao,cap,hvl⟩ : ∃ ao cap,vl = .slice ao m cap:=by
     rcases HTS.out.lr with ⟨h1,h2⟩ | ⟨g,cap,h1,_⟩
     ·subst h1;simp at hm;subst hm;exact ⟨_,_,h2⟩
     ·rw [hm] at h1;exact ⟨_,_,h1⟩
    subst hvl
    clear hm
    go_upto_region 11 with (fail)
    go_cut [48] (fun t wx => wo = wx ∧ ∃ b : Bool,t = .bool b ∧ (b = true → 0 < sk ∧ 1 < m ∧ long + 9 < most))
    case first =>
     rcases Nat.lt_or_ge 0 sk with h1 | h1
     ·have hb1 : decide ((0 : Int) < (sk : Int)) = true:=by simp;omega
      rcases Nat.lt_or_ge 1 m with h2 | h2
      ·have hb2 : decide ((1 : Int) < (m : Int)) = true:=by simp;omega
       rcases Nat.lt_or_ge (long + 9) most with h3 | h3
       ·have hb3 : decide ((long : Int) < (most : Int) - 9) = true:=by simp;omega
        go_wp2_with fail
        go_meet
        case rel => exact ⟨rfl,true,rfl,fun _ => ⟨h1,h2,h3⟩⟩
       ·have hb3 : decide ((long : Int) < (most : Int) - 9) = false:=by simp;omega
        go_wp2_with fail
        go_meet
        case rel => exact ⟨rfl,false,rfl,fun h => by cases h⟩
      ·have hb2 : decide ((1 : Int) < (m : Int)) = false:=by simp;omega
       go_wp2_with fail
       go_meet
       case rel => exact ⟨rfl,false,rfl,fun h => by cases h⟩
     ·have hb1 : decide ((0 : Int) < (sk : Int)) = false:=by simp;omega
      go_wp2_with fail
      go_meet
      case rel => exact ⟨rfl,false,rfl,fun h => by cases h⟩
    case rest =>
     obtain ⟨rfl,bt,rfl,hbt⟩:=hcut
     cases bt
     ·clear hbt
      go_wp2_with fail
      go_loop [14] (fun y => ∃ d : Nat,y = .int .i64 d ∧ d ≤ 9 ∧ (0 < d → 2 ^ (d - 1) < m)) (fun y => 9 - (intOf y).toNat)
      case atStart => exact ⟨0,rfl,by omega,by omega⟩
      case round =>
       obtain ⟨d,rfl,hd,hdm⟩:=hrel
       obtain ⟨p,hpe⟩ : ∃ p : Nat,2 ^ d = p:=⟨_,rfl⟩
       have HPE:=Lib.hid hpe
       have HWP:=Lib.hid (wrap_pow hpe hd)
       have HDM:=Lib.hid hdm
       clear hdm hpe
       rcases Nat.lt_or_ge p m with hpm | hpm
       ·have h9:=deep_lt HPE.out (by omega) hpm
        have hb1 : decide (wrap64 (2 ^ d) < (m : Int)) = true:=by rw [HWP.out.1];simpa using hpm
        have HPM:=Lib.hid hpm
        clear hpm
        go_wp2
        go_round
        case rel => exact ⟨d + 1,by go_num,by omega,fun _ => by rw [Nat.add_sub_cancel,HPE.out];exact HPM.out⟩
        case measure => simp [intOf];omega
       ·have hb1 : decide (wrap64 (2 ^ d) < (m : Int)) = false:=by rw [HWP.out.1];simpa using hpm
        obtain ⟨short,hsh,hsm⟩:=short_val HWP.out.1 hpm HWP.out.2
        have HSM:=Lib.hid hsm
        have HSH:=Lib.hid hsh
        clear hpm hsm hsh
        go_wp2
        rw [HSH.out]
        have hbd:=tree_bound (long:=long) (m:=m) (d:=d) (by have:=HBB.out;rw [HN.out] at this;exact this) H9.out HTS.out.skew.small hd HDM.out hmn
        have hsm2:=short_two (long:=long) HDM.out (by rw [HSM.out,HPE.out])
        have HBD:=Lib.hid hbd
        have HS2:=Lib.hid hsm2
        have hl4 : long ≤ 4:=HTS.out.skew.small
        have hsp : short ≤ 512:=by have h1:=HSM.out;have h2:=HWP.out.2;omega
        clear HSH hb1 hbd hsm2
        have hCw : C < w.heap.size:=HCH.out.blk.lt
        go_loopw [87] (fun x wr => ∃ (i : Nat) (o' : List Nat),i ≤ m ∧ x = .int .i64 i ∧ FI w.heap.size n us l o long d short wo i o' wr) (fun x _ => m - (intOf x).toNat)
        case atStart => exact ⟨0,o,Nat.zero_le _,rfl,HTS.out.own,Ext.refl _ _,fun _ => HTS.out.skew.flat _ _,fun _ => rfl⟩
        case round =>
         obtain ⟨i,o',him,rfl,hfi⟩:=hrel
         have HFI:=Lib.hid hfi
         clear hfi
         obtain ⟨w1,rfl⟩ : ∃ w1 : World,w1 = wr:=⟨_,rfl⟩
         rcases Nat.lt_or_ge i m with hlt | hge
         ·have hil : i < l.length:=by rw [HM.out];exact hlt
          have hz:=HFI.out.zero HTS.out.skew hil
          rw [HN.out] at hz
          obtain ⟨g,rfl,hgb,hgc⟩ : ∃ g,ao = some ⟨g,0,none⟩ ∧ w.heap.size < g ∧ ∀ j x,(l.map IV)[j]? = some x → wo.cell? ⟨g,j,none⟩ = some x:=by
           rcases HTS.out.lr with ⟨h1,h2⟩ | ⟨g,cap',h1,h2,h3,h4,h5,h6⟩
           ·subst h1;simp at hil
           ·simp only [Value.slice.injEq] at h1
            exact ⟨g,h1.1,h4,h6⟩
          obtain ⟨x,hx⟩ : ∃ x,l[i] = x:=⟨_,rfl⟩
          rw [hx] at hz
          have hck : w1.cell? ⟨g,i,none⟩ = some (.int .i64 (x : Int)):=HFI.out.ext.cellSome (by omega) (hgc i _ (by simp [hil,IV,hx]))
          obtain ⟨ox,hcx⟩ : ∃ ox : Nat,w1.cell? ⟨w.heap.size,x,none⟩ = some (.int .i64 ox):=⟨o'[x]'(by omega),by
           rw [HFI.out.own.cellAt x (by omega)]
           simp [IV,show x < o'.length by omega]⟩
          have hfz : ∀ o,w1.frozen? ⟨w.heap.size,o,none⟩ = false:=fun o => HFI.out.own.frozenAt o
          have hxn : x < n:=hz.2.1
          have HX:=Lib.hid hx
          have hgw : g ≠ w.heap.size:=by omega
          clear hz hx hgc
          rcases Nat.lt_or_ge i short with his | his
          ·have hb1 : decide ((i : Int) < (short : Int)) = true:=by simp;omega
           have hy1 : 1 < long + d:=HS2.out (by omega) (by omega)
           go_wp2
           go_roundw
           case rel =>
            refine ⟨i + 1,o'.set x (long + d - 1),by omega,by go_num,HFI.out.step HTS.out.skew hil (by omega) (HS2.out (by omega)) x HX.out _ (by rw [if_pos his]) ?_ ?_⟩
            ·have h1:=((HFI.out.own.stored x (.int .i64 ((long : Int) + (d : Int)))).1.stored x (.int .i64 ((long : Int) + (d : Int) - 1))).1
             rw [List.set_set] at h1
             have e : (.int .i64 ((long : Int) + (d : Int) - 1) : Value) = IV (long + d - 1):=by unfold IV;congr 1;omega
             rw [List.map_set,← e]
             exact h1
            ·exact Ext.setCell (M:=fun k => k = w.heap.size) (p:=⟨w.heap.size,x,none⟩) (Ext.setCell (M:=fun k => k = w.heap.size) (p:=⟨w.heap.size,x,none⟩) (Ext.refl _ _) (fun _ => rfl) _) (fun _ => rfl) _
           case measure => simp [intOf];omega
          ·have hb1 : decide ((i : Int) < (short : Int)) = false:=by simp;omega
           go_wp2
           go_roundw
           case rel =>
            refine ⟨i + 1,o'.set x (long + d),by omega,by go_num,HFI.out.step HTS.out.skew hil (by omega) (HS2.out (by omega)) x HX.out _ (by rw [if_neg (by omega)]) ?_ ?_⟩
            ·have h1:=(HFI.out.own.stored x (.int .i64 ((long : Int) + (d : Int)))).1
             have e : (.int .i64 ((long : Int) + (d : Int)) : Value) = IV (long + d):=by unfold IV;congr 1
             rw [List.map_set,← e]
             exact h1
            ·exact Ext.setCell (M:=fun k => k = w.heap.size) (p:=⟨w.heap.size,x,none⟩) (Ext.refl _ _) (fun _ => rfl) _
           case measure => simp [intOf];omega
         ·have hb1 : decide ((i : Int) < (m : Int)) = false:=by simp;omega
          have him2 : i = m:=by omega
          have hmx : 0 < long → 0 < m:=fun h => by
           have:=HTS.out.skew.ne h
           have h2:=HM.out
           rcases Nat.lt_or_ge 0 m with h3 | h3
           ·exact h3
           ·exact absurd (List.eq_nil_of_length_eq_zero (by omega)) this
          have HOUT : Hid (∀ (o2 : List Nat) (w2 : World),w2.ownsRow w.heap.size 3 1 (.slice (some ⟨w.heap.size,0,none⟩) n n) n (o2.map IV) → TreePost us o2 b → Ext (fun k => k = w.heap.size) w1 w2 →
            TreeOut w C lv at_ n us b (.returned (.slice (some ⟨w.heap.size,0,none⟩) n n)) w2):=Lib.hid (by
           intro o2 w2 ho2 hp2 he2
           have hx2 : Ext (CM C) w w2:=HTS.out.ext.trans' (HFI.out.ext.trans he2) (fun i hi e => by omega)
           refine ⟨_,o2,a,rfl,ho2,hp2,hx2,HTS.out.ge,by omega,HCH.out.carry hx2 (HTS.out.cho.blk.ext (HFI.out.ext.trans he2) (by omega))⟩)
          rcases Nat.lt_or_ge 0 (long + d) with hpos | hpos
          ·have hm1 : 0 < m:=by
            rcases Nat.lt_or_ge 0 long with h | h
            ·exact hmx h
            ·exact Nat.lt_of_le_of_lt (Nat.zero_le _) (HDM.out (by omega))
           have hpost : TreePost us o' b:=by
            have hf:=HFI.out.flat hpos
            rw [him2,← HM.out] at hf
            have h1:=HSM.out
            refine (hf.done (by rw [HM.out,HPE.out];exact h1) ?_ (by omega)).mono HBD.out.1
            rw [HM.out]
            exact short_le HPE.out HDM.out h1 hm1
           have HP:=Lib.hid (HOUT.out _ _ HFI.out.own hpost (Ext.refl _ _))
           have hl1 : ¬ (long = 0 ∧ m = 1):=fun h => by
            have h3:=HDM.out (by omega)
            have h4 : 1 ≤ 2 ^ (d - 1):=Nat.one_le_two_pow
            omega
           clear hpost hmx
           rcases Nat.lt_or_ge 0 long with h | h
           ·have hb2 : ((long : Int) == 0) = false:=by simp;omega
            go_wp2
            go_ret
            exact HP.out
           ·have hb2 : ((long : Int) == 0) = true:=by simp;omega
            have hb3 : ((m : Int) == 1) = false:=by simp;omega
            go_wp2
            go_ret
            exact HP.out
          ·have hl0 : long = 0:=by omega
           have hd0 : d = 0:=by omega
           have hb2 : ((long : Int) == 0) = true:=by simp;omega
           have hoo:=HFI.out.same (by omega)
           have hsk:=HTS.out.skew
           rw [hl0] at hsk
           have h1m : m ≤ 1:=by have h1:=HSM.out;have h2:=HPE.out;rw [hd0] at h2;simp at h2;omega
           rcases Nat.lt_or_ge 0 m with hm1 | hm1
           ·have hb3 : ((m : Int) == 1) = true:=by simp;omega
            have hil : 0 < l.length:=by rw [HM.out];exact hm1
            obtain ⟨x,rfl⟩ : ∃ x,l = [x]:=List.length_eq_one_iff.1 (by rw [HM.out];omega)
            have hpost:=(hsk.lone).mono HBD.out.2
            have hz:=hsk.zero x (by simp)
            rw [HN.out] at hz
            obtain ⟨g,rfl,hgb,hgc⟩ : ∃ g,ao = some ⟨g,0,none⟩ ∧ w.heap.size < g ∧ ∀ j y,(([x] : List Nat).map IV)[j]? = some y → wo.cell? ⟨g,j,none⟩ = some y:=by
             rcases HTS.out.lr with ⟨h1,h2⟩ | ⟨g,cap',h1,h2,h3,h4,h5,h6⟩
             ·simp at h1
             ·simp only [Value.slice.injEq] at h1
              exact ⟨g,h1.1,h4,h6⟩
            have hck : w1.cell? ⟨g,0,none⟩ = some (.int .i64 (x : Int)):=HFI.out.ext.cellSome (by omega) (hgc 0 _ (by simp [IV]))
            have hol : x < o'.length:=by rw [hoo,hsk.size,HN.out];exact hz.1
            obtain ⟨ox,hcx⟩ : ∃ ox : Nat,w1.cell? ⟨w.heap.size,x,none⟩ = some (.int .i64 ox):=⟨o'[x]'hol,by
             rw [HFI.out.own.cellAt x (by omega)]
             simp [IV,hol]⟩
            have hfz : ∀ o,w1.frozen? ⟨w.heap.size,o,none⟩ = false:=fun o => HFI.out.own.frozenAt o
            have hxn : x < n:=hz.1
            have hgw : g ≠ w.heap.size:=by omega
            have HP : Hid (TreeOut w C lv at_ n us b (.returned (.slice (some ⟨w.heap.size,0,none⟩) n n)) (w1.setCell ⟨w.heap.size,x,none⟩ (.int .i64 1))):=Lib.hid (by
             refine HOUT.out _ _ ?_ hpost (Ext.setCell (M:=fun k => k = w.heap.size) (p:=⟨w.heap.size,x,none⟩) (Ext.refl _ _) (fun _ => rfl) _)
             rw [← hoo,List.map_set]
             exact (HFI.out.own.stored x _).1)
            clear hpost hmx hz hgc hsk hoo hol hl0 hd0 him2
            have hm1' : (0 : Int) < (m : Int):=by omega
            go_wp2
            go_ret
            exact HP.out
           ·have hb3 : ((m : Int) == 1) = false:=by simp;omega
            have hpost : TreePost us o' b:=by
             rw [hoo]
             have : l = []:=List.eq_nil_of_length_eq_zero (by rw [HM.out];omega)
             rw [this] at hsk
             exact hsk.none.mono (by omega)
            have HP:=Lib.hid (HOUT.out _ _ HFI.out.own hpost (Ext.refl _ _))
            clear hpost hmx hsk hoo hl0 hd0 him2
            go_wp2
            go_ret
            exact HP.out
     ·obtain ⟨hs0,hm0',hlm⟩:=hbt rfl
      clear hbt
      go_wp2_with fail
      refine (next_at _ m rfl C lv a wo HTS.out.cho (by omega) (by omega) (by omega)).mono ?_
      rintro e w1 ⟨k,hk,rfl,hc1,he1,_⟩
      have HC1:=Lib.hid hc1;have HE1:=Lib.hid he1
      clear hc1 he1
      have hkl : k < l.length:=by rw [HM.out];exact hk
      have hCw : C < w.heap.size:=HCH.out.blk.lt
      obtain ⟨g,rfl,hgb,hgs,hcap,hcm,hgc⟩ : ∃ g,ao = some ⟨g,0,none⟩ ∧ w.heap.size < g ∧ g < wo.heap.size ∧ m ≤ cap ∧ cap ≤ maxLen ∧ ∀ j x,(l.map IV)[j]? = some x → wo.cell? ⟨g,j,none⟩ = some x:=by
       rcases HTS.out.lr with ⟨h1,h2⟩ | ⟨g,cap',h1,h2,h3,h4,h5,h6⟩
       ·subst h1;simp at hkl
       ·rw [HM.out] at h1 h2
        simp only [Value.slice.injEq] at h1
        obtain ⟨rfl,_,rfl⟩:=h1
        exact ⟨g,rfl,h4,h5,h2,h3,h6⟩
      have HGC : Hid (∀ j x,(l.map IV)[j]? = some x → w1.cell? ⟨g,j,none⟩ = some x):=Lib.hid fun j x hx => HE1.out.cellSome (by unfold CM;omega) (hgc j x hx)
      clear hgc
      have hz:=HTS.out.skew.zero l[k] (List.getElem_mem hkl)
      rw [HN.out] at hz
      obtain ⟨x,hx⟩ : ∃ x,l[k] = x:=⟨_,rfl⟩
      have hck : w1.cell? ⟨g,k,none⟩ = some (.int .i64 (x : Int)):=HGC.out k _ (by simp [hkl,IV,hx])
      have hown : w1.ownsRow w.heap.size 3 1 (.slice (some ⟨w.heap.size,0,none⟩) n n) n (o.map IV):=owns_ext HTS.out.own HE1.out (by
       intro b hb e
       simp only [Value.ownBlock,Option.some.injEq] at hb
       unfold CM at e
       omega)
      have HOW:=Lib.hid hown
      have hol : x < o.length:=by rw [HTS.out.skew.size,HN.out,← hx];exact hz.1
      have hcx : w1.cell? ⟨w.heap.size,x,none⟩ = some (.int .i64 (o[x] : Nat)):=by
       rw [hown.cellAt x (by rw [← hx];have:=hz.1;omega)]
       simp [IV,hol]
      have hfz : ∀ o,w1.frozen? ⟨w.heap.size,o,none⟩ = false:=fun o => hown.frozenAt o
      have hxn : x < n:=by rw [← hx];exact hz.1
      have HX:=Lib.hid hx
      have hgw : g ≠ w.heap.size:=by omega
      clear hz hx hown
      go_wp2
      refine region_tail 8 (by kernel_rfl) (by kernel_rfl) ?_
      intro w2 hw2
      have he2 : Ext (fun k => k = w.heap.size) w1 w2:=by rw [hw2];exact (Ext.setCell (M:=fun k => k = w.heap.size) (p:=⟨w.heap.size,x,none⟩) (Ext.refl _ _) (fun _ => rfl) _).drew
      have ho2 : w2.ownsRow w.heap.size 3 1 (.slice (some ⟨w.heap.size,0,none⟩) n n) n ((o.set x (long + 1)).map IV):=by
       rw [hw2,List.map_set]
       exact (HOW.out.stored x _).1
      have HE2:=Lib.hid he2;have HO2:=Lib.hid ho2
      clear hw2 he2 ho2 hck hcx hfz
      have hkm : k + 1 ≤ m:=by omega
      have hkc : k ≤ cap:=by omega
      have hkm' : (k : Int) + 1 ≤ (m : Int):=by omega
      have hkc' : (k : Int) ≤ (cap : Int):=by omega
      simp only [List.take_succ_cons,List.take_zero,List.drop_succ_cons,List.drop_zero]
      have ht1 : ((k : Int) + 1).toNat = k + 1:=by omega
      have ht2 : (0 : Int) ≤ (k : Int) + 1:=by omega
      have hwk : IntKind.i64.wrap ((k : Int) + 1) = (k : Int) + 1:=IntWalk.i64_in _ ⟨by omega,by omega⟩
      repeat still_step
      refine wpStill_nil ?_
      clear ht1 ht2 hwk hkm' hkc'
      have HGC2 : Hid (∀ j x,(l.map IV)[j]? = some x → w2.cell? ⟨g,j,none⟩ = some x):=Lib.hid fun j x hx => HE2.out.cellSome (by omega) (HGC.out j x hx)
      have HFIN : Hid (∀ (v : Value) (w' : World),LR w.heap.size w' v (l.eraseIdx k) → Ext (fun _ => False) w2 w' → TS w C lv at_ n us (l.eraseIdx k) (o.set x (long + 1)) (long + 1) v (a + 1) w'):=Lib.hid (by
       intro v w' hlr hew
       have h:=HTS.out
       have hx2 : Ext (CM C) w w2:=(h.ext.trans HE1.out).trans' HE2.out (fun i hi e => by omega)
       have hx3 : Ext (CM C) w w':=hx2.trans (hew.mono (fun _ _ h => h.elim))
       refine ⟨?_,owns_ext HO2.out hew (fun _ _ h => h),hlr,hx3,by have:=h.ge;omega,?_⟩
       ·have:=h.skew.step k hkl (by rw [HM.out];exact hm0') (by omega)
        rw [HX.out] at this
        exact this
       ·exact HCH.out.carry hx3 ((HC1.out.blk.ext HE2.out (by omega)).ext hew (fun h => h)))
      obtain ⟨ad,had,had2⟩ : ∃ ad : Addr,(if cap = k + 1 then some (⟨g,0,none⟩ : Addr) else some ⟨g,k + 1,none⟩) = some ad ∧ (¬ cap = k + 1 → ad = ⟨g,k + 1,none⟩):=by
       by_cases h : cap = k + 1
       ·exact ⟨⟨g,0,none⟩,by rw [if_pos h],fun h' => absurd h h'⟩
       ·exact ⟨⟨g,k + 1,none⟩,by rw [if_neg h],fun _ => rfl⟩
      rw [had]
      have HAD:=Lib.hid had2
      clear had had2
      go_wp2_with (at_builtin;refine wpList_append_arg _ rfl _ _ 23 rfl 3 i0 _ 1 8 Tryz.underlying23 hi hz0 hz1 hz2 rfl (by decide) g 0 k k ((l.take k).map IV) rfl ?c1 ?c2 ad (m - (k + 1)) _ ((l.drop (k + 1)).map IV) rfl ?c4 ?c5 ?c6 ?c7 ?c8 ?c9 ?c10 ?c11)
      case c1 => simp;omega
      case c2 =>
       intro j u hu
       rw [Nat.zero_add]
       refine HGC2.out j u ?_
       rw [List.map_take,List.getElem?_take] at hu
       split at hu
       ·exact hu
       ·simp at hu
      case c4 => have:=HM.out;simp;omega
      case c5 =>
       intro j u hu
       have hlen:=HM.out
       have hj : j < m - (k + 1):=by
        rcases Nat.lt_or_ge j (m - (k + 1)) with h | h
        ·exact h
        ·rw [List.getElem?_eq_none (by simp;omega)] at hu;cases hu
       rw [HAD.out (by omega)]
       have e : ((⟨g,k + 1,none⟩ : Addr).add j) = ⟨g,k + 1 + j,none⟩:=by
        by_cases h0 : j = 0
        ·subst h0;rfl
        ·simp [Addr.add,h0]
       rw [e]
       refine HGC2.out _ _ ?_
       rw [List.map_drop,List.getElem?_drop] at hu
       exact hu
      case c6 => intro u hu;obtain ⟨y,_,rfl⟩:=List.mem_map.1 hu;rfl
      case c7 => intro h j hj;have:=HM.out;simp at hj;omega
      case c8 => simp only [maxLen];omega
      case c9 => omega
      case c10 =>
       intro hr
       have hdn : l.drop (k + 1) = []:=List.drop_eq_nil_of_le (by rw [HM.out];omega)
       have hw2' : ∀ off,w2.setCells g off ((l.drop (k + 1)).map IV) = w2:=by intro off;rw [hdn];rfl
       have hw3' : ∀ off,w2.setCells g off ((l.map IV).drop (k + 1)) = w2:=by intro off;rw [← List.map_drop,hdn];rfl
       try rw [hw2']
       try rw [hw3']
       have HLR : Hid (LR w.heap.size w2 (.slice (some ⟨g,0,none⟩) (k + (m - (k + 1))) k) (l.eraseIdx k)):=Lib.hid (by
        have e1 : (l.eraseIdx k).length = k + (m - (k + 1)):=by rw [List.length_eraseIdx_of_lt hkl,HM.out];omega
        refine .inr ⟨g,k,by rw [e1],by rw [e1];omega,by omega,hgb,Nat.lt_of_lt_of_le hgs (Nat.le_trans HE1.out.size HE2.out.size),fun j x hx => ?_⟩
        rw [List.eraseIdx_eq_take_drop_succ,hdn,List.append_nil] at hx
        refine HGC2.out j x ?_
        rw [List.map_take,List.getElem?_take] at hx
        split at hx
        ·exact hx
        ·simp at hx)
       clear hdn hw2' hw3'
       have HT2:=Lib.hid (HFIN.out _ _ HLR.out (Ext.refl _ _))
       go_wp2_with fail
       go_roundw
       case rel => exact ⟨_,_,long + 1,sk - 1,a + 1,_,rfl,by go_num,by go_num,by omega,by omega,fun h => by omega,by rw [List.length_eraseIdx_of_lt hkl,HM.out];omega,HT2.out⟩
       case measure => simp [intOf];omega
      case c11 =>
       intro hr v' w3 ho3 hg3
       have HLR : Hid (LR w.heap.size w3 v' (l.eraseIdx k)):=Lib.hid (by
        rw [List.eraseIdx_eq_take_drop_succ]
        refine LR.of_owns (b:=w2.heap.size) (n:=k + (m - (k + 1))) ?_ (by have h1:=HE1.out.size;have h2:=HE2.out.size;omega)
        simpa using ho3)
       have HE3 : Hid (Ext (fun _ => False) w2 w3):=Lib.hid ((Ext.refl _ _).grown hg3 (fun k e => by cases e))
       clear ho3 hg3
       have HT2:=Lib.hid (HFIN.out _ _ HLR.out HE3.out)
       go_wp2_with fail
       go_roundw
       case rel => exact ⟨_,_,long + 1,sk - 1,a + 1,_,rfl,by go_num,by go_num,by omega,by omega,fun h => by omega,by rw [List.length_eraseIdx_of_lt hkl,HM.out];omega,HT2.out⟩
       case measure => simp [intOf];omega
end Go.Proofs.YthpapbilhjobnaaGreatDoor
namespace Go.Proofs.YthpapbilhjobnaaGreatDoor
open Go.RowKit Pu
def runTok (r : Run) : Tok:=⟨r.sym,r.more,r.extra⟩
def runsCells (rs : List Run) : List Value:=toksCells (rs.map runTok)
theorem Tryz.info101 : (Tryz.prog.info? 101).map (fun i => (i.zero,i.size,i.bytes)) = some (some (.agg #[.int .i64 0,.int .i64 0,.int .i64 0]),3,24):=by kernel_rfl
structure RI (w : World) (C : Nat) (lv : Value) (at0 : Nat) (l : List Nat) (i : Nat) (rs : List Run) (v : Value) (wr : World) : Prop where
 le : i ≤ l.length
 own : wr.ownsRow w.heap.size 101 3 v rs.length (runsCells rs)
 fit : runsFit l 0 rs i
 ext : Ext (CM C) w wr
 cho : ∃ at_,at0 ≤ at_ ∧ at_ ≤ at0 + 3 * i ∧ Cho wr C lv at_
def RunsPost (w : World) (C : Nat) (lv : Value) (at0 : Nat) (l : List Nat) (e : Ending) (w' : World) : Prop :=
 ∃ v rs,e = .returned v ∧ RI w C lv at0 l l.length rs v w'
theorem RI.more {w : World} {C : Nat} {lv : Value} {at0 : Nat} {l : List Nat} {i : Nat} {rs : List Run} {v : Value} {wr : World} (h : RI w C lv at0 l i rs v wr)
  {wc : World} (hext : Ext (CM C) wr wc) {at_ : Nat} (hat0 : at0 ≤ at_) (hat : at_ ≤ at0 + 3 * i + 3) (hcho : Cho wc C lv at_) (hC : C < w.heap.size) (hlv : ∀ b,lv.ownBlock = some b → b < w.heap.size)
  {r : Run} (hr : r.fits l i) {v' : Value} {w1 : World} (ho : w1.ownsRow w.heap.size 101 3 v' (rs.length + 1) (runsCells rs ++ tokCells (runTok r)))
  {oc : Obj} (hg : (wc.alloc oc).grownBy w1 v.ownBlock) :
  RI w C lv at0 l (i + r.step) (rs ++ [r]) v' w1:=by
 have hst:=Run.fits_le hr
 have hlt : ∀ k,v.ownBlock = some k → w.heap.size ≤ k:=fun k hk => (h.own.lt k hk).1
 have he1 : Ext (fun k => v.ownBlock = some k) wc w1:=((Ext.refl _ wc).alloc _).grown hg (fun k hk _ => hk)
 refine ⟨by omega,?_,runsFit_snoc h.fit hr,?_,at_,hat0,by omega,?_⟩
 ·unfold runsCells
  rw [List.map_append,toksCells_append]
  simpa [toksCells,runsCells] using ho
 ·refine (h.ext.trans hext).trans' he1 (fun k hk e => ?_)
  have:=hlt k e
  omega
 ·refine hcho.ext he1 (fun e => ?_) (fun b hb e => ?_)
  ·have:=hlt _ e;omega
  ·have:=hlt _ e;have:=hlv b hb;omega
theorem fits18 {l : List Nat} {i m k : Nat} (h : ∀ k,k < m → l[i + k]? = some 0) (h1 : 11 ≤ k) (h2 : k ≤ 138) (h3 : k ≤ m) (h4 : i + m ≤ l.length) : Run.fits l i ⟨18,k - 11,7⟩ ∧ Run.step ⟨18,k - 11,7⟩ = k :=
 ⟨.inr (.inr (.inr ⟨rfl,by show k - 11 < 128;omega,rfl,by show i + 11 + (k - 11) ≤ _;omega,fun j hj => h j (by have hj' : j < 11 + (k - 11):=hj;omega)⟩)),by simp [Run.step];omega⟩
theorem fits17 {l : List Nat} {i m k : Nat} (h : ∀ k,k < m → l[i + k]? = some 0) (h1 : 3 ≤ k) (h2 : k ≤ 10) (h3 : k ≤ m) (h4 : i + m ≤ l.length) : Run.fits l i ⟨17,k - 3,3⟩ ∧ Run.step ⟨17,k - 3,3⟩ = k :=
 ⟨.inr (.inr (.inl ⟨rfl,by show k - 3 < 8;omega,rfl,by show i + 3 + (k - 3) ≤ _;omega,fun j hj => h j (by have hj' : j < 3 + (k - 3):=hj;omega)⟩)),by simp [Run.step];omega⟩
theorem fits16 {l : List Nat} {i m k z : Nat} (h : ∀ k,k < m → l[i + k]? = some z) (hi : 1 ≤ i) (hp : l[i - 1]? = some z) (h1 : 3 ≤ k) (h2 : k ≤ 6) (h3 : k ≤ m) (h4 : i + m ≤ l.length) : Run.fits l i ⟨16,k - 3,2⟩ ∧ Run.step ⟨16,k - 3,2⟩ = k :=
 ⟨.inr (.inl ⟨rfl,by show k - 3 < 4;omega,rfl,hi,by show i + 3 + (k - 3) ≤ _;omega,fun j hj => by rw [hp];exact h j (by have hj' : j < 3 + (k - 3):=hj;omega)⟩),by simp [Run.step];omega⟩
theorem fits0 {l : List Nat} {i z : Nat} (h : l[i]? = some z) (hz : z ≤ 15) : Run.fits l i ⟨z,0,0⟩ ∧ Run.step ⟨z,0,0⟩ = 1 :=
 ⟨.inl ⟨hz,rfl,rfl,h⟩,by unfold Run.step;rw [if_pos (by show z < 16;omega)]⟩
set_option maxHeartbeats 8000000 in
set_option maxRecDepth 100000 in
theorem runs_some (b o cap C at0 : Nat) (lv : Value) (l : List Nat) (w : World) (hl : l.length ≤ 320) (hlen : ∀ x ∈ l,x ≤ 15)
  (hc : ∀ j x,(l.map IV)[j]? = some x → w.cell? ⟨b,o + j,none⟩ = some x) (hbC : b ≠ C) (hcho : Cho w C lv at0) (hat : at0 ≤ 100000000) (hlv : ∀ b,lv.ownBlock = some b → b < w.heap.size) :
  Calls Tryz.prog 43 #[.slice (some ⟨b,o,none⟩) l.length cap,.pointer (some ⟨C,0,none⟩)] w (RunsPost w C lv at0 l):=by
 obtain ⟨i0,hi,hz0,hz1,hz2⟩:=info_parts Tryz.info101
 have hClt:=hcho.blk.lt
 have HC:=Lib.hid hc;have HCh:=Lib.hid hcho;have HLV:=Lib.hid hlv;have HLEN:=Lib.hid hlen
 clear hc hcho hlv hlen
 obtain ⟨n,hn⟩ : ∃ n,l.length = n:=⟨_,rfl⟩
 have HN:=Lib.hid hn
 rw [hn] at hl ⊢
 clear hn
 go_enter Tryz.func43,Tryz.ntmps43
 go_wp2
 go_loopw [5,6] (fun v x wr => ∃ (i : Nat) (rs : List Run),x = .int .i64 i ∧ RI w C lv at0 l i rs v wr) (fun _ x _ => n - (intOf x).toNat)
 case atStart => exact ⟨0,[],rfl,⟨by omega,World.ownsRow_nil _ _ _ _,rfl,Ext.refl _ _,at0,Nat.le_refl _,by omega,HCh.out⟩⟩
 case round =>
  obtain ⟨wo,rfl⟩ : ∃ wo : World,wo = wr:=⟨_,rfl⟩
  obtain ⟨i,rs,rfl,hri⟩:=hrel
  have H:=Lib.hid hri;clear hri
  have hin : i ≤ n:=by rw [← HN.out];exact H.out.le
  have hsz:=H.out.ext.size
  by_cases hlt : i < n
  ·have hiA : i < l.length:=by rw [HN.out];exact hlt
   obtain ⟨at_,hat1,hat2,hcho⟩:=H.out.cho
   have HCH:=Lib.hid hcho;clear hcho
   have hblt : b < w.heap.size:=World.block_lt_of_cell? w _ (HC.out i (IV l[i]) (by simp [hiA]))
   have hcell : ∀ wx : World,Ext (CM C) wo wx → ∀ (j c : Nat),l[j]? = some c → wx.cell? ⟨b,o + j,none⟩ = some (.int .i64 (c : Int)):=by
    intro wx hx j c hj
    rw [(H.out.ext.trans hx).cell hblt hbC]
    exact HC.out j _ (by simp [hj,IV])
   have HCELL:=Lib.hid hcell;clear hcell
   have htl : rs.length ≤ i:=by have:=runsFit_le H.out.fit;omega
   have hm : rs.length + 1 ≤ maxLen:=by simp only [maxLen];omega
   have hby : (rs.length + 1) * 24 ≤ 140737488355328:=by omega
   obtain ⟨z,hz⟩ : ∃ z,l[i]? = some z:=⟨_,List.getElem?_eq_getElem hiA⟩
   have hz15 : z ≤ 15:=HLEN.out z (List.mem_of_getElem? hz)
   have HZ:=Lib.hid hz;clear hz
   go_upto_block 2 with (fail)
   go_cut [7] (fun t wx => ∃ m : Nat,t = .int .i64 m ∧ 1 ≤ m ∧ i + m ≤ n ∧ (∀ k,k < m → l[i + k]? = some z) ∧ Later wo C lv at_ wx)
   case first =>
    go_wp2_with fail
    go_loopw [7] (fun t wi => ∃ m : Nat,t = .int .i64 m ∧ 1 ≤ m ∧ i + m ≤ n ∧ (∀ k,k < m → l[i + k]? = some z) ∧ Later wo C lv at_ wi) (fun t _ => n - (intOf t).toNat)
    case atStart => exact ⟨1,rfl,by omega,by omega,fun k hk => by rw [show k = 0 by omega];exact HZ.out,Ext.refl _ _,HCH.out⟩
    case round =>
     obtain ⟨m,rfl,hm1,hm2,hm3,hL⟩:=hrel
     have HL3:=Lib.hid hm3;have HL6:=Lib.hid hL;clear hm3 hL
     obtain ⟨w6,rfl⟩ : ∃ w6 : World,w6 = wr:=⟨_,rfl⟩
     have HC6:=Lib.hid (HCELL.out _ HL6.out.1)
     have HFIN : Hid (∀ nq : Nat,∃ m' : Nat,Value.int .i64 (m : Int) = .int .i64 m' ∧ 1 ≤ m' ∧ i + m' ≤ n ∧ (∀ k,k < m' → l[i + k]? = some z) ∧ Later wo C lv at_ (w6.drewN nq)):=fun nq =>
      ⟨m,rfl,hm1,hm2,HL3.out,HL6.out.1.drewN nq,HL6.out.2.drewN nq⟩
     have hw1 : IntKind.i64.wrap ((i : Int) + (m : Int)) = (i : Int) + (m : Int):=IntWalk.i64_in _ ⟨by omega,by omega⟩
     rcases Nat.lt_or_ge (i + m) n with hl5 | hl5
     ·have hb4 : decide ((i : Int) + (m : Int) < (n : Int)) = true:=by simp;omega
      have hiL : i + m < l.length:=by rw [HN.out];exact hl5
      obtain ⟨y,hy⟩ : ∃ y,l[i + m]? = some y:=⟨_,List.getElem?_eq_getElem hiL⟩
      have hc1:=HC6.out (i + m) y hy
      have hc2:=HC6.out i z HZ.out
      have HY:=Lib.hid hy;clear hy
      have ht1 : ((i : Int) + (m : Int)).toNat = i + m:=by omega
      have hg1 : (0 : Int) ≤ (i : Int) + (m : Int):=by omega
      by_cases heq : y = z
      ·have hb5 : ((y : Int) == (z : Int)) = true:=by simp [heq]
       have HE:=Lib.hid heq;clear heq
       go_wp2_with fail
       go_quiet (fail)
       clear hw1 ht1
       go_wp2_with fail
       go_roundw
       case rel =>
        refine ⟨m + 1,by go_num,by omega,by omega,fun k hk => ?_,HL6.out.1.drewN _,HL6.out.2.drewN _⟩
        rcases Nat.lt_or_ge k m with h | h
        ·exact HL3.out k h
        ·obtain rfl : k = m:=by omega
         rw [HY.out,HE.out]
       case measure => simp [intOf];omega
      ·have hb5 : ((y : Int) == (z : Int)) = false:=by
        simp only [beq_eq_false_iff_ne]
        exact fun h => heq (by omega)
       have HE:=Lib.hid heq;clear heq
       go_wp2_with fail
       go_quiet (fail)
       clear hw1 ht1
       go_wp2_with fail
       go_meet
       case rel => exact HFIN.out _
     ·have hb4 : decide ((i : Int) + (m : Int) < (n : Int)) = false:=by simp;omega
      go_wp2_with fail
      go_quiet (fail)
      clear hw1
      go_wp2_with fail
      go_meet
      case rel => exact HFIN.out _
   case rest =>
    obtain ⟨m,rfl,hm1,hm2,hm3,hx1,hch1⟩:=hcut
    have HM:=Lib.hid hm3;have HX1:=Lib.hid hx1;have HC1:=Lib.hid hch1;clear hm3 hx1 hch1
    obtain ⟨w1,rfl⟩ : ∃ w1 : World,w1 = wc:=⟨_,rfl⟩
    have hcz:=HCELL.out w1 HX1.out i z HZ.out
    go_upto_region 9 with (fail)
    go_cut [41] (fun t wx => ∃ (bt : Bool) (at2 : Nat),t = .bool bt ∧ (bt = true → z = 0 ∧ 11 ≤ m) ∧ at_ ≤ at2 ∧ at2 ≤ at_ + 1 ∧ Later wo C lv at2 wx)
    case first =>
     rcases Nat.lt_or_ge 0 z with hz0' | hz0'
     ·have hb1 : ((z : Int) == 0) = false:=by simp;omega
      go_wp2_with fail
      go_meet
      case rel => exact ⟨false,at_,rfl,(fun h => by cases h),by omega,by omega,HX1.out,HC1.out⟩
     ·have hb1 : ((z : Int) == 0) = true:=by simp;omega
      rcases Nat.lt_or_ge m 11 with hm11 | hm11
      ·have hb2 : decide ((11 : Int) ≤ (m : Int)) = false:=by simp;omega
       go_wp2_with fail
       go_meet
       case rel => exact ⟨false,at_,rfl,(fun h => by cases h),by omega,by omega,HX1.out,HC1.out⟩
      ·have hb2 : decide ((11 : Int) ≤ (m : Int)) = true:=by simp;omega
       go_wp2_with fail
       refine (next_at _ 3 rfl C lv at_ w1 HC1.out (by omega) (by omega) (by omega)).mono ?_
       rintro e w2 ⟨r,hr,rfl,hch2,hx2,_⟩
       have HL2 : Hid (Later wo C lv (at_ + 1) w2):=⟨HX1.out.trans hx2,hch2⟩
       clear hch2 hx2
       go_wp2_with fail
       go_meet
       case rel => exact ⟨_,at_ + 1,rfl,fun _ => ⟨by omega,by omega⟩,by omega,by omega,HL2.out⟩
    case rest =>
     obtain ⟨bt,at2,rfl,hbt,ha1,ha2,hx2,hch2⟩:=hcut
     have HX2:=Lib.hid hx2;have HC2:=Lib.hid hch2;clear hx2 hch2
     obtain ⟨w2,rfl⟩ : ∃ w2 : World,w2 = wc:=⟨_,rfl⟩
     have hcz2:=HCELL.out w2 HX2.out i z HZ.out
     clear hcz
     cases bt
     ·clear hbt
      go_upto_region 12 with (fail)
      go_cut [64] (fun t wx => ∃ (bt : Bool) (at3 : Nat),t = .bool bt ∧ (bt = true → z = 0 ∧ 3 ≤ m) ∧ at2 ≤ at3 ∧ at3 ≤ at2 + 1 ∧ Later wo C lv at3 wx)
      case first =>
       rcases Nat.lt_or_ge 0 z with hz0' | hz0'
       ·have hb1 : ((z : Int) == 0) = false:=by simp;omega
        go_wp2_with fail
        go_meet
        case rel => exact ⟨false,at2,rfl,(fun h => by cases h),by omega,by omega,HX2.out,HC2.out⟩
       ·have hb1 : ((z : Int) == 0) = true:=by simp;omega
        rcases Nat.lt_or_ge m 3 with hm11 | hm11
        ·have hb2 : decide ((3 : Int) ≤ (m : Int)) = false:=by simp;omega
         go_wp2_with fail
         go_meet
         case rel => exact ⟨false,at2,rfl,(fun h => by cases h),by omega,by omega,HX2.out,HC2.out⟩
        ·have hb2 : decide ((3 : Int) ≤ (m : Int)) = true:=by simp;omega
         go_wp2_with fail
         refine (next_at _ 3 rfl C lv at2 w2 HC2.out (by omega) (by omega) (by omega)).mono ?_
         rintro e w3 ⟨r,hr,rfl,hch3,hx3,_⟩
         have HL3 : Hid (Later wo C lv (at2 + 1) w3):=⟨HX2.out.trans hx3,hch3⟩
         clear hch3 hx3
         go_wp2_with fail
         go_meet
         case rel => exact ⟨_,at2 + 1,rfl,fun _ => ⟨by omega,by omega⟩,by omega,by omega,HL3.out⟩
      case rest =>
       obtain ⟨bt,at3,rfl,hbt,ha3,ha4,hx3,hch3⟩:=hcut
       have HX3:=Lib.hid hx3;have HC3:=Lib.hid hch3;clear hx3 hch3
       obtain ⟨w3,rfl⟩ : ∃ w3 : World,w3 = wc:=⟨_,rfl⟩
       have hcz3:=HCELL.out w3 HX3.out i z HZ.out
       clear hcz2
       cases bt
       ·clear hbt
        go_upto_region 15 with (fail)
        go_cut [87] (fun t wx => ∃ (bt : Bool) (at4 : Nat),t = .bool bt ∧ (bt = true → 1 ≤ i ∧ l[i - 1]? = some z ∧ 3 ≤ m) ∧ at3 ≤ at4 ∧ at4 ≤ at3 + 1 ∧ Later wo C lv at4 wx)
        case first =>
         rcases Nat.lt_or_ge 0 i with hi1 | hi1
         ·have hb1 : decide ((0 : Int) < (i : Int)) = true:=by simp;omega
          obtain ⟨y,hy⟩ : ∃ y,l[i - 1]? = some y:=⟨_,List.getElem?_eq_getElem (show i - 1 < l.length by omega)⟩
          have hcy:=HCELL.out w3 HX3.out (i - 1) y hy
          have HY:=Lib.hid hy;clear hy
          have hw1 : IntKind.i64.wrap ((i : Int) - 1) = (i : Int) - 1:=IntWalk.i64_in _ ⟨by omega,by omega⟩
          have ht1 : ((i : Int) - 1).toNat = i - 1:=by omega
          have hg1 : (0 : Int) ≤ (i : Int) - 1:=by omega
          have hg2 : (i : Int) - 1 < (n : Int):=by omega
          have hg3 : (1 : Int) ≤ (i : Int):=by omega
          by_cases heq : z = y
          ·have hb5 : ((z : Int) == (y : Int)) = true:=by simp [heq]
           have HE:=Lib.hid heq;clear heq
           rcases Nat.lt_or_ge m 3 with hm11 | hm11
           ·have hb2 : decide ((3 : Int) ≤ (m : Int)) = false:=by simp;omega
            go_wp2_with fail
            go_quiet (fail)
            clear hw1 ht1
            go_wp2_with fail
            go_meet
            case rel => exact ⟨false,at3,rfl,(fun h => by cases h),by omega,by omega,HX3.out.drewN _,HC3.out.drewN _⟩
           ·have hb2 : decide ((3 : Int) ≤ (m : Int)) = true:=by simp;omega
            refine region_tail 20 (by kernel_rfl) (by kernel_rfl) ?_
            intro w5 hw5
            have he5 : Ext (fun _ => False) w3 w5:=by rw [hw5];exact (Ext.refl _ _).drew
            have hcz5:=he5.cellSome (fun h => h) hcz3
            have hcy5:=he5.cellSome (fun h => h) hcy
            have HX5:=Lib.hid (HX3.out.trans (he5.mono (fun _ _ h => h.elim)))
            have HC5:=Lib.hid (HC3.out.ext he5 (fun h => h) (fun _ _ h => h))
            clear hw5 he5 hcz3 hcy
            simp only [List.take_succ_cons,List.take_zero,List.drop_succ_cons,List.drop_zero]
            repeat still_step
            refine wpStill_nil ?_
            clear hw1 ht1 hg1 hg2 hg3
            go_wp2_with fail
            refine (next_at _ 3 rfl C lv at3 w5 HC5.out (by omega) (by omega) (by omega)).mono ?_
            rintro e w6 ⟨r,hr,rfl,hch6,hx6,_⟩
            have HL6 : Hid (Later wo C lv (at3 + 1) w6):=⟨HX5.out.trans hx6,hch6⟩
            clear hch6 hx6
            go_wp2_with fail
            go_meet
            case rel => exact ⟨_,at3 + 1,rfl,(fun _ => ⟨by omega,by rw [HY.out,HE.out],by omega⟩),by omega,by omega,HL6.out⟩
          ·have hb5 : ((z : Int) == (y : Int)) = false:=by
            simp only [beq_eq_false_iff_ne]
            exact fun h => heq (by omega)
           clear heq
           go_wp2_with fail
           go_quiet (fail)
           clear hw1 ht1
           go_wp2_with fail
           go_meet
           case rel => exact ⟨false,at3,rfl,(fun h => by cases h),by omega,by omega,HX3.out.drewN _,HC3.out.drewN _⟩
         ·have hb1 : decide ((0 : Int) < (i : Int)) = false:=by simp;omega
          have hb1' : decide (0 < i) = false:=by simp;omega
          go_wp2_with fail
          go_quiet (fail)
          go_wp2_with fail
          go_meet
          case rel => exact ⟨false,at3,rfl,(fun h => by cases h),by omega,by omega,HX3.out.drewN _,HC3.out.drewN _⟩
        case rest =>
         obtain ⟨bt,at4,rfl,hbt,ha5,ha6,hx4,hch4⟩:=hcut
         have HX4:=Lib.hid hx4;have HC4:=Lib.hid hch4;clear hx4 hch4
         obtain ⟨w4,rfl⟩ : ∃ w4 : World,w4 = wc:=⟨_,rfl⟩
         have hcz4:=HCELL.out w4 HX4.out i z HZ.out
         clear hcz3
         cases bt
         ·clear hbt
          have hsz5:=HX4.out.size
          have HFIT:=Lib.hid (fits0 HZ.out hz15)
          have hvC : ∀ k,u5.ownBlock = some k → ¬ CM C k:=fun k hk e => by
           have h1:=(H.out.own.lt k hk).1
           have h2 : k = C:=e
           omega
          have HOWN:=Lib.hid (owns_ext H.out.own HX4.out hvC);clear hvC
          go_wp2_with (at_builtin;refine wpList_append_moved _ rfl _ _ 98 rfl w.heap.size 101 i0 _ 3 24 Tryz.underlying98 hi hz0 hz1 hz2 rfl (by decide) _ _ _ rfl (HOWN.out.alloc _) ⟨w4.heap.size,0,none⟩ 1 1 (tokCells (runTok ⟨z,0,0⟩)) rfl rfl ?a1 ?a2 hm hby ?a5 ?_)
          case a1 =>
           have h:=cells_new w4 #[.int .i64 (z : Int),.int .i64 0,.int .i64 0] 101
           have e : (tokCells (runTok ⟨z,0,0⟩)) = #[.int .i64 (z : Int),.int .i64 0,.int .i64 0].toList:=by simp [tokCells,runTok]
           rw [e]
           exact h
          case a2 => simp [tokCells,Value.oneCell']
          case a5 => simp;omega
          intro v' w9 ho hg hmv
          have HH:=Lib.hid (H.out.more HX4.out (by omega) (by omega) HC4.out hClt HLV.out HFIT.out.1 ho hg)
          clear ho hg hmv
          go_wp2
          go_roundw
          case rel => exact ⟨i + 1,rs ++ [(⟨z,0,0⟩ : Run)],by go_num,by have:=HH.out;rw [HFIT.out.2] at this;exact this⟩
          case measure => simp [intOf];omega
         ·have hbt':=hbt rfl
          have HBT:=Lib.hid hbt'
          have hb3:=hbt'.2.2
          have hb4:=hbt'.1
          clear hbt hbt'
          go_upto_region 16 with (fail)
          go_cut [7] (fun t wx => ∃ k : Nat,w4 = wx ∧ t = .int .i64 k ∧ k ≤ m ∧ k ≤ 6 ∧ 3 ≤ k)
          case first =>
           rcases Nat.lt_or_ge m 6 with h | h
           ·go_wp2_with fail
            all_goals first | (exfalso;omega) | skip
            go_meet
            case rel => exact ⟨m,rfl,rfl,by omega,by omega,by omega⟩
           ·go_wp2_with fail
            ·go_meet
             case rel => exact ⟨6,rfl,rfl,by omega,by omega,by omega⟩
            ·go_meet
             case rel => exact ⟨m,rfl,rfl,by omega,by omega,by omega⟩
          case rest =>
           obtain ⟨k,rfl,rfl,hk1,hk2,hk3⟩:=hcut
           have hsz5:=HX4.out.size
           have HFIT:=Lib.hid (fits16 HM.out HBT.out.1 HBT.out.2.1 hk3 hk2 hk1 (by rw [HN.out];exact hm2))
           have hvC : ∀ k,u5.ownBlock = some k → ¬ CM C k:=fun k hk e => by
            have h1:=(H.out.own.lt k hk).1
            have h2 : k = C:=e
            omega
           have HOWN:=Lib.hid (owns_ext H.out.own HX4.out hvC);clear hvC
           go_wp2_with (at_builtin;refine wpList_append_moved _ rfl _ _ 98 rfl w.heap.size 101 i0 _ 3 24 Tryz.underlying98 hi hz0 hz1 hz2 rfl (by decide) _ _ _ rfl (HOWN.out.alloc _) ⟨w4.heap.size,0,none⟩ 1 1 (tokCells (runTok ⟨16,k - 3,2⟩)) rfl rfl ?b1 ?b2 hm hby ?b5 ?_)
           case b1 =>
            have h:=cells_new w4 #[.int .i64 16,.int .i64 ((k : Int) - 3),.int .i64 2] 101
            have e : (tokCells (runTok ⟨16,k - 3,2⟩)) = #[.int .i64 16,.int .i64 ((k : Int) - 3),.int .i64 2].toList:=by simp [tokCells,runTok];omega
            rw [e]
            exact h
           case b2 => simp [tokCells,Value.oneCell']
           case b5 => simp;omega
           intro v' w9 ho hg hmv
           have HH:=Lib.hid (H.out.more HX4.out (by omega) (by omega) HC4.out hClt HLV.out HFIT.out.1 ho hg)
           clear ho hg hmv
           go_wp2
           go_roundw
           case rel => exact ⟨i + k,rs ++ [(⟨16,k - 3,2⟩ : Run)],by go_num,by have:=HH.out;rw [HFIT.out.2] at this;exact this⟩
           case measure => simp [intOf];omega
       ·have hbt':=hbt rfl
        have hb3:=hbt'.2
        have HBZ:=Lib.hid hbt'.1
        clear hbt hbt'
        go_upto_region 13 with (fail)
        go_cut [7] (fun t wx => ∃ k : Nat,w3 = wx ∧ t = .int .i64 k ∧ k ≤ m ∧ k ≤ 10 ∧ 3 ≤ k)
        case first =>
         rcases Nat.lt_or_ge m 10 with h | h
         ·go_wp2_with fail
          all_goals first | (exfalso;omega) | skip
          go_meet
          case rel => exact ⟨m,rfl,rfl,by omega,by omega,by omega⟩
         ·go_wp2_with fail
          ·go_meet
           case rel => exact ⟨10,rfl,rfl,by omega,by omega,by omega⟩
          ·go_meet
           case rel => exact ⟨m,rfl,rfl,by omega,by omega,by omega⟩
        case rest =>
         obtain ⟨k,rfl,rfl,hk1,hk2,hk3⟩:=hcut
         have hsz5:=HX3.out.size
         have HFIT:=Lib.hid (fits17 (by have:=HM.out;rw [HBZ.out] at this;exact this) hk3 hk2 hk1 (by rw [HN.out];exact hm2))
         have hvC : ∀ k,u5.ownBlock = some k → ¬ CM C k:=fun k hk e => by
          have h1:=(H.out.own.lt k hk).1
          have h2 : k = C:=e
          omega
         have HOWN:=Lib.hid (owns_ext H.out.own HX3.out hvC);clear hvC
         go_wp2_with (at_builtin;refine wpList_append_moved _ rfl _ _ 98 rfl w.heap.size 101 i0 _ 3 24 Tryz.underlying98 hi hz0 hz1 hz2 rfl (by decide) _ _ _ rfl (HOWN.out.alloc _) ⟨w3.heap.size,0,none⟩ 1 1 (tokCells (runTok ⟨17,k - 3,3⟩)) rfl rfl ?c1 ?c2 hm hby ?c5 ?_)
         case c1 =>
          have h:=cells_new w3 #[.int .i64 17,.int .i64 ((k : Int) - 3),.int .i64 3] 101
          have e : (tokCells (runTok ⟨17,k - 3,3⟩)) = #[.int .i64 17,.int .i64 ((k : Int) - 3),.int .i64 3].toList:=by simp [tokCells,runTok];omega
          rw [e]
          exact h
         case c2 => simp [tokCells,Value.oneCell']
         case c5 => simp;omega
         intro v' w9 ho hg hmv
         have HH:=Lib.hid (H.out.more HX3.out (by omega) (by omega) HC3.out hClt HLV.out HFIT.out.1 ho hg)
         clear ho hg hmv
         go_wp2
         go_roundw
         case rel => exact ⟨i + k,rs ++ [(⟨17,k - 3,3⟩ : Run)],by go_num,by have:=HH.out;rw [HFIT.out.2] at this;exact this⟩
         case measure => simp [intOf];omega
     ·have hbt':=hbt rfl
      have hb3:=hbt'.2
      have HBZ:=Lib.hid hbt'.1
      clear hbt hbt'
      go_upto_region 10 with (fail)
      go_cut [7] (fun t wx => ∃ k : Nat,w2 = wx ∧ t = .int .i64 k ∧ k ≤ m ∧ k ≤ 138 ∧ 11 ≤ k)
      case first =>
       rcases Nat.lt_or_ge m 138 with h | h
       ·go_wp2_with fail
        all_goals first | (exfalso;omega) | skip
        go_meet
        case rel => exact ⟨m,rfl,rfl,by omega,by omega,by omega⟩
       ·go_wp2_with fail
        ·go_meet
         case rel => exact ⟨138,rfl,rfl,by omega,by omega,by omega⟩
        ·go_meet
         case rel => exact ⟨m,rfl,rfl,by omega,by omega,by omega⟩
      case rest =>
       obtain ⟨k,rfl,rfl,hk1,hk2,hk3⟩:=hcut
       have hsz5:=HX2.out.size
       have HFIT:=Lib.hid (fits18 (by have:=HM.out;rw [HBZ.out] at this;exact this) hk3 hk2 hk1 (by rw [HN.out];exact hm2))
       have hvC : ∀ k,u5.ownBlock = some k → ¬ CM C k:=fun k hk e => by
        have h1:=(H.out.own.lt k hk).1
        have h2 : k = C:=e
        omega
       have HOWN:=Lib.hid (owns_ext H.out.own HX2.out hvC);clear hvC
       go_wp2_with (at_builtin;refine wpList_append_moved _ rfl _ _ 98 rfl w.heap.size 101 i0 _ 3 24 Tryz.underlying98 hi hz0 hz1 hz2 rfl (by decide) _ _ _ rfl (HOWN.out.alloc _) ⟨w2.heap.size,0,none⟩ 1 1 (tokCells (runTok ⟨18,k - 11,7⟩)) rfl rfl ?d1 ?d2 hm hby ?d5 ?_)
       case d1 =>
        have h:=cells_new w2 #[.int .i64 18,.int .i64 ((k : Int) - 11),.int .i64 7] 101
        have e : (tokCells (runTok ⟨18,k - 11,7⟩)) = #[.int .i64 18,.int .i64 ((k : Int) - 11),.int .i64 7].toList:=by simp [tokCells,runTok];omega
        rw [e]
        exact h
       case d2 => simp [tokCells,Value.oneCell']
       case d5 => simp;omega
       intro v' w9 ho hg hmv
       have HH:=Lib.hid (H.out.more HX2.out (by omega) (by omega) HC2.out hClt HLV.out HFIT.out.1 ho hg)
       clear ho hg hmv
       go_wp2
       go_roundw
       case rel => exact ⟨i + k,rs ++ [(⟨18,k - 11,7⟩ : Run)],by go_num,by have:=HH.out;rw [HFIT.out.2] at this;exact this⟩
       case measure => simp [intOf];omega
  ·go_wp2
   go_ret
   obtain rfl : i = n:=by omega
   have h1:=H.out
   rw [← HN.out] at h1
   exact ⟨_,rs,rfl,h1⟩
end Go.Proofs.YthpapbilhjobnaaGreatDoor
