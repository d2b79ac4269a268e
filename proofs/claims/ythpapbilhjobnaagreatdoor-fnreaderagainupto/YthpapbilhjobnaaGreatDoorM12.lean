/-
  Parts of the proofs over the reader and the encoder of streams, joined: Rh3 Ap Pu3 Wr1. Conditions: each theorem names its own.
-/
import Derived.Test.YthpapbilhjobnaaGreatDoorM01
import Derived.Test.YthpapbilhjobnaaGreatDoorM11
set_option linter.unusedVariables false
set_option linter.unusedSimpArgs false
namespace Go.Proofs.YthpapbilhjobnaaGreatDoor
open Go.RowKit Pu
theorem htRaise {w : World} {F : Nat} {N : Nat → Prop} {lens : List Nat} {mn e : Nat} (h : HT w F N F 5 lens mn) (hN : ¬ N F) : HT (w.setCell ⟨F,5,none⟩ (.int .i64 e)) F N F 5 lens e:=by
 obtain ⟨hR,hF,hmin,ch,lk,nl,nk,Lb,lcap,g,h1,h2,h3⟩:=h
 have hk : ∀ b o v,w.cell? ⟨b,o,none⟩ = some v → (b = F → o ≠ 5) → (w.setCell ⟨F,5,none⟩ (.int .i64 e)).cell? ⟨b,o,none⟩ = some v:=fun b o v hv hne => by
  rw [World.cell?_setCell_other w _ _ _ (fun e => by
   have e1 : b = F:=congrArg Addr.block e.symm
   have e2 : o = 5:=congrArg Addr.off e.symm
   exact hne e1 e2)]
  exact hv
 refine ⟨hR,hF,World.cell?_setCell_same _ _ _ hmin,ch,lk,nl,nk,Lb,lcap,g,h1,fun x hx => hk _ _ _ (h2 x hx) (fun _ => by omega),fun hs => ?_⟩
 obtain ⟨a,b,c,d,e,f⟩:=h3 hs
 refine ⟨a,b,c,hk _ _ _ d (fun _ => by omega),hk _ _ _ e (fun _ => by omega),fun v hv => ?_⟩
 obtain ⟨p,q,r,t⟩:=f v hv
 exact ⟨p,q,hk _ _ _ r (fun e => absurd e c),fun y hy => hk _ _ _ (t y hy) (fun e => absurd e q)⟩
theorem HD.raise {c : Array Value} (h : HD c 5) (e : Nat) : HD (c.setIfInBounds 5 (.int .i64 e)) 5:=by
 obtain ⟨⟨m,h1⟩,⟨f,h2⟩,⟨a,n,k,h3⟩,⟨k2,h4⟩⟩:=h
 exact ⟨⟨e,set_eq _ (get_lt h1)⟩,⟨f,h2.setOther _ (by omega)⟩,⟨a,n,k,by rw [set_ne _ _ (by decide)];exact h3⟩,⟨k2,by rw [set_ne _ _ (by decide)];exact h4⟩⟩
set_option maxRecDepth 100000 in
set_option maxHeartbeats 16000000 in
theorem readHuffman_any (x : Pl) (ap : Apart x) (lit dist lens : List Nat) (nc : Nat) (rs : List Run) (w : World) (c : Array Value) (BB Z : List Bool) (p : Nat) (f0 g0 : Nat → Nat) (hh : HeadOf lit dist lens nc rs) (h : LS x w c (headBits lit dist lens nc rs ++ Z) w c BB p f0 g0) (hsz : c.size = 1054) (hBB : BB.length < 8)
  (hbp : c[1035]? = some (.pointer (some ⟨x.Bb,0,none⟩))) (hcp : c[1036]? = some (.pointer (some ⟨x.Cb,0,none⟩))) (h5 : HD c 5) (h520 : HD c 520) (hhb : x.hb < w.heap.size) (hO : ∀ k,x.O k → k < w.heap.size) :
  Calls Tryz.prog 70 #[.pointer (some ⟨x.F,0,none⟩)] w (RHPost x w c lit dist Z):=by
 have HH:=Lib.hid hh;have HBP:=Lib.hid hbp;have HCP:=Lib.hid hcp;have H5:=Lib.hid h5;have H520:=Lib.hid h520
 obtain ⟨⟨hl1,hl2⟩,⟨hd1,hd2⟩,⟨hn1,hn2⟩,_,_,_,_,_,_,_,_,_⟩:=hh
 obtain ⟨nl,hnl⟩ : ∃ n,lit.length = n:=⟨_,rfl⟩
 obtain ⟨nd,hnd⟩ : ∃ n,dist.length = n:=⟨_,rfl⟩
 rw [hnl] at hl1 hl2
 rw [hnd] at hd1 hd2
 have HNL:=Lib.hid hnl;have HND:=Lib.hid hnd
 obtain ⟨R,hR⟩ : ∃ R,ordBits lens (ord.take nc) ++ (runsBits lens rs ++ Z) = R:=⟨_,rfl⟩
 have HR:=Lib.hid hR
 have hbits : headBits lit dist lens nc rs ++ Z = lsb ((nl - 257) + 32 * (nd - 1) + 1024 * (nc - 4)) 14 ++ R:=by
  rw [← lsb_three _ _ _ (by omega) (by omega) (by omega),← hR,← hnl,← hnd]
  simp [headBits]
 rw [hbits] at h
 have H:=Lib.hid h
 clear h hbits hbp hcp h5 h520 hR hnl hnd
 go_enter Tryz.func70,Tryz.ntmps70
 go_upto_block 0 with (fail)
 refine need70_0 x ap w w c c BB _ p H.out.tk hsz (by simp) (by omega) _ ?_ ?_
 rotate_left
 ·intro u2 u3 u19 u20 u21 u22 u23 u24 u25 u26 u27 u28 wx wy c3 B3 p3 hT3 hx he
  obtain ⟨rfl,rfl⟩:=he
  have HLS3:=Lib.hid (H.out.took ap hT3)
  clear hT3
  go_wp2_with fail
  go_ret
  exact HLS3.out.lse.post (Same.refl _ _) (Ext.refl _ _) H5.out H520.out hx
 intro u2 u3 u19 u20 u21 u22 u23 u24 u25 u26 u27 u28 w1 c1 B1 p1 hT1 hn1' hb1
 as_aux_lemma =>
  have HLS1:=Lib.hid (H.out.took ap hT1)
  obtain ⟨hc3,hc4⟩:=hT1.cells
  have hf1:=hT1.blk.free
  obtain ⟨vb,hvb⟩ : ∃ v,val B1 = v:=⟨_,rfl⟩
  obtain ⟨nb,hnb⟩ : ∃ v,B1.length = v:=⟨_,rfl⟩
  have hnbl : nb < 22:=by omega
  rw [hnb] at hc4 hn1'
  rw [hvb] at hc3
  have hvl : vb < 4194304:=by
   have:=val_lt B1
   rw [hvb,hnb] at this
   exact Nat.lt_of_lt_of_le this (Nat.le_trans (Nat.pow_le_pow_right (by omega) (show nb ≤ 22 by omega)) (by decide))
  have hbt:=(bits_take hT1.z (by rw [hnb];exact hn1')).1
  rw [hvb] at hbt
  obtain ⟨v1,hv1⟩ : ∃ v,vb / 32 = v:=⟨_,rfl⟩
  obtain ⟨v2,hv2⟩ : ∃ v,v1 / 32 = v:=⟨_,rfl⟩
  obtain ⟨v3,hv3⟩ : ∃ v,v2 / 16 = v:=⟨_,rfl⟩
  have e1 : (vb : Int) / 32 = (v1 : Int):=by omega
  have e2 : (v1 : Int) / 32 = (v2 : Int):=by omega
  have e3 : (v2 : Int) / 16 = (v3 : Int):=by omega
  have hand1 : bits BinOp.and IntKind.u32 (vb : Int) 31 = ((nl - 257 : Nat) : Int):=by
   have:=u32_low vb 5 (by omega) (by omega)
   rw [show vb % 2 ^ 5 = nl - 257 by omega] at this
   exact this
  have hand2 : bits BinOp.and IntKind.u32 (v1 : Int) 31 = ((nd - 1 : Nat) : Int):=by
   have:=u32_low v1 5 (by omega) (by omega)
   rw [show v1 % 2 ^ 5 = nd - 1 by omega] at this
   exact this
  have hand3 : bits BinOp.and IntKind.u32 (v2 : Int) 15 = ((nc - 4 : Nat) : Int):=by
   have:=u32_low v2 4 (by omega) (by omega)
   rw [show v2 % 2 ^ 4 = nc - 4 by omega] at this
   exact this
  have s1 : ((nl - 257 : Nat) : Int) + 257 = (nl : Int):=by omega
  have s2 : ((nd - 1 : Nat) : Int) + 1 = (nd : Int):=by omega
  have s3 : ((nc - 4 : Nat) : Int) + 4 = (nc : Int):=by omega
  have b1 : ¬ ((286 : Int) < (nl : Int)):=by omega
  have b2 : ¬ ((30 : Int) < (nd : Int)):=by omega
  have hn14 : (14 : Int) ≤ (nb : Int):=by omega
  have HT1:=Lib.hid hT1;have HVB:=Lib.hid hvb;have HNB:=Lib.hid hnb;have HB1:=Lib.hid hb1
  have HV1:=Lib.hid hv1;have HV2:=Lib.hid hv2;have HV3:=Lib.hid hv3
  clear hT1 hvb hnb hb1 hbt hv1 hv2 hv3
  go_upto_block 2 with (fail)
  have hn8 : (nb : Int) - 14 = ((nb - 14 : Nat) : Int):=by omega
  have hs4 : 5 ≤ c1.size:=by have:=get_lt HT1.out.bits.nb;omega
  obtain ⟨w2,hw2⟩ : ∃ y,(((w1.setCell ⟨x.F,3,none⟩ (.int .u32 (v1 : Int))).setCell ⟨x.F,3,none⟩ (.int .u32 (v2 : Int))).setCell ⟨x.F,3,none⟩ (.int .u32 (v3 : Int))).setCell ⟨x.F,4,none⟩ (.int .u64 ((nb : Int) - 14)) = y:=⟨_,rfl⟩
  have hU:=HLS1.out.tk.used (w':=w2) (c':=(((c1.setIfInBounds 3 (.int .u32 (v1 : Int))).setIfInBounds 3 (.int .u32 (v2 : Int))).setIfInBounds 3 (.int .u32 (v3 : Int))).setIfInBounds 4 (.int .u64 ((nb : Int) - 14)))
   (by rw [HNB.out];exact hn1') ap (by rw [← hw2];exact ((((HT1.out.blk.set 3 _).set 3 _).set 3 _).set 4 _)) (((((Same.refl _ c1).set (.inl rfl) _).set (.inl rfl) _).set (.inl rfl) _).set (.inr rfl) _) (by rw [← hw2];exact ((((Ext.refl _ _).only _).only _).only _).only _)
   (by
     have h1:=HV1.out;have h2:=HV2.out;have h3:=HV3.out
     rw [set_ne _ _ (by decide),set_eq _ (by simp;omega),HVB.out,show vb / 2 ^ 14 = v3 by omega]) (by rw [set_eq _ (by simp;omega),HNB.out,hn8])
  have HLS2:=Lib.hid (HLS1.out.took ap hU.1)
  rw [hw2]
  obtain ⟨c2,hc2⟩ : ∃ y,(((c1.setIfInBounds 3 (.int .u32 (v1 : Int))).setIfInBounds 3 (.int .u32 (v2 : Int))).setIfInBounds 3 (.int .u32 (v3 : Int))).setIfInBounds 4 (.int .u64 ((nb : Int) - 14)) = y:=⟨_,rfl⟩
  rw [hc2] at HLS2
  have hB2 : (B1.drop 14).length < 8:=by rw [List.length_drop,HNB.out];have:=HB1.out;rw [HNB.out] at this;omega
  clear hU hw2 hc2 hc3 hc4 hf1 e1 e2 e3 hand1 hand2 hand3 s1 s2 s3 b1 b2 hn14 hn8 hs4
  rw [← HR.out] at HLS2
  obtain ⟨B2,hB2e⟩ : ∃ y,B1.drop 14 = y:=⟨_,rfl⟩
  rw [hB2e] at HLS2 hB2
  clear hB2e
  refine head_lens x ap nc lens w _ c c2 B2 _ p1 f0 g0 HLS2.out hsz HCP.out hB2 HH.out.le (by omega) _ ?_ ?_
  rotate_left
  ·intro u2 u7 u8 u92 u93 u94 u95 u96 u97 u98 u99 u100 u101 u102 u103 u104 u105 u106 u107 u108 u109 u110 u111 u112 u113 u114 u115 u116 u117 u118 u119 u120 u121 u122 u123 u124 u125 u126 u127 u128 u129 u130 u131 u132 u133 u134 u135 wx c3 Y3 B3 p3 g3 hL3 hx he
   subst he
   have HL3:=Lib.hid hL3
   clear hL3
   go_wp2_with fail
   go_ret
   exact HL3.out.lse.post (Same.refl _ _) (Ext.refl _ _) H5.out H520.out hx
  intro u2 u7 u8 u92 u93 u94 u95 u96 u97 u98 u99 u100 u101 u102 u103 u104 u105 u106 u107 u108 u109 u110 u111 u112 u113 u114 u115 u116 u117 u118 u119 u120 u121 u122 u123 u124 u125 u126 u127 u128 u129 u130 u131 u132 u133 u134 u135 w3 c3 B3 p3 g3 hL3 hB3 hg3
  as_aux_lemma =>
   have HLS3:=Lib.hid hL3;have HG3:=Lib.hid hg3
   clear hL3 hg3
   go_upto_block 6 with (fail)
   refine head_rest x ap nc w _ c c3 B3 _ p3 f0 g3 HLS3.out hsz HCP.out (by omega) _ ?_
   intro u9 u137 u138 u139 u140 u141 u142 u143 u144 u145 u146 u147 u148 u149 w4 g4 hL4 hg4
   as_aux_lemma =>
    have hgl : ∀ s,s < 19 → g4 s = len lens s:=by
     intro s hs
     obtain ⟨k,hk,hks⟩:=ord_surj s hs
     rw [hg4 k s hks]
     by_cases e : nc ≤ k
     ·rw [if_pos e,HH.out.rest k s e hks]
     ·rw [if_neg e];exact HG3.out k s (by omega) hks
    have HLS4 : Hid (LS x w c (runsBits lens rs ++ Z) w4 c3 B3 p3 f0 (len lens)):=Lib.hid (by
     refine ⟨hL4.tk,hL4.same,hL4.ext,hL4.bb,?_,hL4.g7⟩
     rw [arr_congr 19 g4 (len lens) (fun j hj => (hgl j hj).symm)]
     exact hL4.cb)
    clear hL4 hg4 hgl
    go_upto_region 30 with (fail)
    go_cut [160] (fun s160 wx => s160 = .bool false ∧ ∃ c5,LS x wx c5 (runsBits lens rs ++ Z) wx c5 B3 p3 f0 (len lens) ∧ Same SB c c5 ∧ Ext x.M4 w wx ∧ HD c5 5 ∧ HD c5 520 ∧ HT wx x.F x.N x.F 5 lens (mnOf lens))
    case first =>
     as_aux_lemma =>
      have hcc : w4.cell? ⟨x.F,1036,none⟩ = some (.pointer (some ⟨x.Cb,0,none⟩)):=by rw [HLS4.out.tk.blk.cell,HLS4.out.same.2 1036 (BM_low (by omega))];exact HCP.out
      refine region_tail2 9 (by kernel_rfl) (by kernel_rfl) ?_
      intro w5 hw5
      have he5 : Ext (fun _ => False) w4 w5:=by rw [hw5];exact (Ext.refl _ _).drew
      have HLS5 : Hid (LS x w c (runsBits lens rs ++ Z) w5 c3 B3 p3 f0 (len lens)):=Lib.hid (by rw [hw5];exact HLS4.out.drew)
      clear hw5
      have hcc':=he5.cellSome (fun e => e) hcc
      clear hcc he5
      simp only [List.take_succ_cons,List.take_zero,List.drop_succ_cons,List.drop_zero]
      repeat still_step
      refine wpStill_nil ?_
      have hl19 : lens.length = 19:=HH.out.size
      have hNn : ∀ k,x.N k → k < w5.heap.size:=by
       have hz:=HLS5.out.ext.size
       intro k hk
       rcases hk with hk | hk | hk | hk | hk
       ·rw [hk];exact HLS5.out.tk.src.blk.lt
       ·omega
       ·rw [hk];exact HLS5.out.bb.lt
       ·rw [hk];exact HLS5.out.cb.lt
       ·have:=hO k hk;omega
      have HI:=init_any x.N x.F x.F 5 x.Cb 0 19 147 c3 lens w5 HLS5.out.tk.blk (H5.out.same HLS5.out.same (fun k a b => BM_low (by omega))) (fun j y hy => by
        have hj:=(List.getElem?_eq_some_iff.1 hy).1
        rw [List.length_map] at hj
        rw [Nat.zero_add,HLS5.out.cb.cell,arr_get 19 _ j (by omega)]
        rw [← hy]
        simp [IV,hj,len]) (Ne.symm ap.FC) HLS5.out.cb.lt (by omega) (fun y hy => by have:=HH.out.le y hy;omega) (.inl HH.out.good) (fun h => by rcases h with h | h | h | h | h;exact ap.FR h;exact ap.Fh h;exact ap.FB h;exact ap.FC h;exact ap.OF h) hNn HLS5.out.tk.blk.lt (fun _ => by omega)
      rw [hl19] at HI
      have HII:=Lib.hid HI
      clear HI hNn hcc'
      go_wp2_with fail
      refine HII.out.mono ?_
      rintro e w6 ⟨rfl,c6,hb6,hs6,hd6,ht6,he6⟩
      have hL6:=HLS5.out.inited ap hb6 (hs6.mono (fun k h => by omega)) he6
      have HL6:=Lib.hid hL6;have HS6:=Lib.hid hs6;have HD6:=Lib.hid hd6;have HT6:=Lib.hid ht6;have HE6:=Lib.hid he6
      clear hL6 hb6 hs6 hd6 ht6 he6
      go_wp2_with fail
      go_meet
      case rel =>
       exact ⟨rfl,c6,HL6.out,(HLS5.out.same.mono (fun _ e => Or.inl e)).trans (HS6.out.mono (fun k h => Or.inr (by omega))),HLS5.out.ext.trans (HE6.out.mono (fun _ _ e => .inl e)),HD6.out,(H520.out.same HLS5.out.same (fun k a b => BM_low (by omega))).same HS6.out (fun k a b => by omega),HT6.out⟩
    obtain ⟨w5,rfl⟩ : ∃ y : World,y = wc:=⟨_,rfl⟩
    obtain ⟨rfl,c5,hL5,hS5,hE5,hD5,hD520,hT5⟩:=hcut
    have HL5:=Lib.hid hL5;have HS5:=Lib.hid hS5;have HE5:=Lib.hid hE5;have HD5:=Lib.hid hD5;have HD520:=Lib.hid hD520;have HT5:=Lib.hid hT5
    clear hL5 hS5 hE5 hD5 hD520 hT5
    go_upto_block 8 with (fail)
    have hsum : (nl : Int) + (nd : Int) = ((nl + nd : Nat) : Int):=by omega
    have hsz5 : c5.size = 1054:=by rw [HS5.out.1];exact hsz
    have HBP5 : Hid (c5[1035]? = some (.pointer (some ⟨x.Bb,0,none⟩))):=Lib.hid (by rw [HS5.out.2 1035 (by unfold SB BM;omega)];exact HBP.out)
    have hmn7 : mnOf lens ≤ 15:=by
     have h1:=(mnOf_le_mx lens).1
     have h2:=mxOf_le lens 7 HH.out.le
     omega
    rw [hsum]
    clear hsum
    refine head_runs x ap (nl + nd) (mnOf lens) (lit ++ dist) lens rs w5 w5 c5 c5 B3 Z p3 f0 (len lens) HL5.out hsz5 HBP5.out HT5.out HH.out.good (fun s hs => mn_le_len hs) hmn7 (by rw [HH.out.size];omega) (by have:=HH.out.fit;rw [HNL.out,HND.out] at this;exact this) (by rw [List.length_append,HNL.out,HND.out]) (by omega) HH.out.coded hB3 ?_ _ ?_ ?_
    ·intro y hy
     rcases List.mem_append.1 hy with h | h
     ·exact HH.out.glit.mem y h
     ·rcases HH.out.gdist with h1 | h1
      ·exact h1.mem y h
      ·obtain ⟨s,hs,he⟩:=List.getElem_of_mem h
       have:=h1 s
       rw [len_eq hs,he] at this
       omega
    rotate_left
    ·intro u2 u10 u12 u13 u14 u15 u16 u17 u18 u169 u170 u171 u172 u173 u174 u175 u176 u177 u178 u179 u180 u181 u182 u183 u184 u185 u186 u187 u188 u189 u190 u191 u192 u193 u194 u195 u196 u197 u198 u199 u200 u201 u202 u203 u204 u205 u206 u207 u208 u209 u210 u211 u212 u213 u214 u215 u216 u217 u218 u219 u220 u221 u222 u223 u224 u225 u226 u227 u228 u229 u230 u231 u232 u233 u234 u235 u236 u237 u238 u239 u240 u241 u242 u243 u244 u245 u246 u247 u248 u249 u250 u251 u252 u253 u254 u255 u256 u257 u258 u259 u260 u261 u262 u263 u264 u265 u266 u267 u268 u269 u270 u271 u272 u273 u274 u275 u276 u277 u278 u279 u280 u281 wx c6 p6 hL6 hx he
     subst he
     have HL6:=Lib.hid hL6
     clear hL6
     go_wp2_with fail
     go_ret
     exact HL6.out.post HS5.out HE5.out HD5.out HD520.out hx
    intro u2 u10 u12 u13 u14 u15 u16 u17 u18 u169 u170 u171 u172 u173 u174 u175 u176 u177 u178 u179 u180 u181 u182 u183 u184 u185 u186 u187 u188 u189 u190 u191 u192 u193 u194 u195 u196 u197 u198 u199 u200 u201 u202 u203 u204 u205 u206 u207 u208 u209 u210 u211 u212 u213 u214 u215 u216 u217 u218 u219 u220 u221 u222 u223 u224 u225 u226 u227 u228 u229 u230 u231 u232 u233 u234 u235 u236 u237 u238 u239 u240 u241 u242 u243 u244 u245 u246 u247 u248 u249 u250 u251 u252 u253 u254 u255 u256 u257 u258 u259 u260 u261 u262 u263 u264 u265 u266 u267 u268 u269 u270 u271 u272 u273 u274 u275 u276 u277 u278 u279 u280 u281 w8 c8 B8 p8 f8 hL8 hB8 hf8
    as_aux_lemma =>
     have HL8:=Lib.hid hL8
     clear hL8
     have hfl : ∀ s,s < nl → f8 s = len lit s:=by
      intro s hs
      rw [hf8 s (by omega)]
      unfold len
      rw [List.getElem?_append_left (by rw [HNL.out];exact hs)]
     have hfd : ∀ s,s < nd → f8 (nl + s) = len dist s:=by
      intro s hs
      rw [hf8 _ (by omega)]
      unfold len
      rw [List.getElem?_append_right (by rw [HNL.out];omega),HNL.out,show nl + s - nl = s by omega]
     have HFL:=Lib.hid hfl;have HFD:=Lib.hid hfd
     clear hf8 hfl hfd
     have HNn : Hid (∀ k,x.N k → k < w8.heap.size):=Lib.hid (by
      have hz:=HE5.out.size
      have hz8:=HL8.out.ext.size
      intro k hk
      rcases hk with hk | hk | hk | hk | hk
      ·rw [hk];exact HL8.out.tk.src.blk.lt
      ·omega
      ·rw [hk];exact HL8.out.bb.lt
      ·rw [hk];exact HL8.out.cb.lt
      ·have:=hO k hk;omega)
     go_upto_region 73 with (fail)
     refine head_tables x ap nl nd lit dist w5 w8 c5 c8 B8 Z p8 f8 (len lens) HL8.out HBP5.out HD5.out HD520.out HNL.out HND.out (by omega) (by omega) (by omega) HH.out.glit HH.out.gdist HFL.out HFD.out HNn.out _ ?_
     intro u282 u283 u284 u285 u286 u287 u288 u289 u290 u291 u292 u293 u294 u295 u296 u297 u298 u299 u300 u301 u302 u303 u304 u305 u306 u307 u308 u309 u310 w9 h310 h9
     subst h310
     as_aux_lemma =>
      obtain ⟨c9,hL9,hS9,hE9,hD9,hD920,hT9,hT920⟩:=h9
      have HL9:=Lib.hid hL9;have HS9:=Lib.hid hS9;have HE9:=Lib.hid hE9;have HD9:=Lib.hid hD9;have HD920:=Lib.hid hD920;have HT9:=Lib.hid hT9;have HT920:=Lib.hid hT920
      clear hL9 hS9 hE9 hD9 hD920 hT9 hT920
      have hcm : w9.cell? ⟨x.F,5,none⟩ = some (.int .i64 (mnOf lit)):=HT9.out.min
      have hcb : w9.cell? ⟨x.F,1035,none⟩ = some (.pointer (some ⟨x.Bb,0,none⟩)):=by rw [HL9.out.tk.blk.cell,HS9.out.2 1035 (by unfold SB BM;omega)];exact HBP5.out
      obtain ⟨eb,heb⟩ : ∃ y,len lit 256 = y:=⟨_,rfl⟩
      have hce : w9.cell? ⟨x.Bb,256,none⟩ = some (.int .i64 eb):=by rw [HL9.out.bb.cell,arr_get 316 _ 256 (by omega),HFL.out 256 (by omega),heb]
      have heb0 : 0 < eb:=by rw [← heb];exact HH.out.eob
      have hmle : mnOf lit ≤ eb:=by rw [← heb];exact mn_le_len HH.out.eob
      have heb15 : eb ≤ 15:=by rw [← heb];exact len_le HH.out.glit.mem 256
      have hff:=HL9.out.tk.blk.free
      obtain ⟨ml,hml⟩ : ∃ y,mnOf lit = y:=⟨_,rfl⟩
      rw [hml] at hcm hmle
      have HEB:=Lib.hid heb;have HML:=Lib.hid hml
      have hmd15 : mnOf dist ≤ 15:=by
       have h1:=(mnOf_le_mx dist).1
       have h2:=mxOf_le dist 15 (fun y hy => by
        rcases HH.out.gdist with h | h
        ·exact h.mem y hy
        ·obtain ⟨s,hs,he⟩:=List.getElem_of_mem hy
         have:=h s
         rw [len_eq hs,he] at this
         omega)
       omega
      clear heb hml
      rcases Nat.lt_or_ge ml eb with hlt | hge
      ·have hli : (ml : Int) < (eb : Int):=by omega
       go_wp2_with fail
       go_quiet (fail)
       go_wp2_with fail
       go_ret
       have hL:=(HL9.out.drewN nq).inited ap (w':=(w9.drewN nq).setCell ⟨x.F,5,none⟩ (.int .i64 eb)) (c':=c9.setIfInBounds 5 (.int .i64 eb)) ((HL9.out.tk.blk.drewN nq).set 5 _) ((Same.refl _ c9).set (by omega) _) ((Ext.refl _ _).only _)
       have hs : Same SB c9 (c9.setIfInBounds 5 (.int .i64 eb)):=(Same.refl SB c9).set (Or.inr (by omega)) _
       have he : Ext x.M4 w9 ((w9.drewN nq).setCell ⟨x.F,5,none⟩ (.int .i64 eb)):=((Ext.refl x.M4 w9).drewN nq).setCell (p:=⟨x.F,5,none⟩) (fun _ => .inl rfl) _
       have hd5 : HT (w9.drewN nq) x.F x.N x.F 5 lit (mnOf lit):=HT9.out.kept fun b o v hv _ _ => hv
       have hd52 : HT ((w9.drewN nq).setCell ⟨x.F,5,none⟩ (.int .i64 eb)) x.F x.N x.F 520 dist (mnOf dist):=htKept2 HT920.out fun b o v hv hn hf => by
        rw [World.cell?_setCell_other _ _ _ _ (fun e => by
         have e1 : b = x.F:=congrArg Addr.block e.symm
         have e2 : o = 5:=congrArg Addr.off e.symm
         have:=hf e1
         omega)]
        exact hv
       refine ⟨_,p8,hL.tk.res,(HS5.out.trans HS9.out).trans hs,(HE5.out.trans HE9.out).trans he,⟨_,hL.bb⟩,⟨_,hL.cb⟩,HD9.out.raise eb,HD920.out.same ((Same.refl (fun k => k = 5) c9).set rfl _) (fun k a b => by omega),.inl ⟨rfl,B8,eb,mnOf dist,hL.tk,hB8,?_,by rw [HEB.out];exact Nat.le_refl _,hd52,fun s hs => mn_le_len hs,hmd15⟩⟩
       exact htRaise hd5 (fun h => by rcases h with h | h | h | h | h;exact ap.FR h;exact ap.Fh h;exact ap.FB h;exact ap.FC h;exact ap.OF h)
      ·have hli : ¬ ((ml : Int) < (eb : Int)):=by omega
       go_wp2_with fail
       go_quiet (fail)
       go_wp2_with fail
       go_ret
       have hL:=(HL9.out.drewN nq).anew
       exact ⟨c9,p8,hL.tk.res,HS5.out.trans HS9.out,(HE5.out.trans HE9.out).drewN nq,⟨_,hL.bb⟩,⟨_,hL.cb⟩,HD9.out,HD920.out,.inl ⟨rfl,B8,mnOf lit,mnOf dist,hL.tk,hB8,HT9.out.kept fun b o v hv _ _ => hv,by rw [HML.out,HEB.out];omega,HT920.out.kept fun b o v hv _ _ => hv,fun s hs => mn_le_len hs,hmd15⟩⟩
end Go.Proofs.YthpapbilhjobnaaGreatDoor
namespace Go.Proofs.YthpapbilhjobnaaGreatDoor
open Go.RowKit
def Moved (w : World) (v v' : Value) : Prop:=v'.ownBlock = v.ownBlock ∨ ∀ k,v'.ownBlock = some k → w.heap.size ≤ k
theorem cells_new (w : World) (c : Array Value) (t : TypeId) : ∀ j u,c.toList[j]? = some u → (w.alloc (.cells c t)).cell? ((⟨w.heap.size,0,none⟩ : Addr).add j) = some u:=by
 intro j u hu
 have h : (w.alloc (.cells c t)).cell? ⟨w.heap.size,j,none⟩ = c[j]?:=World.cell?_alloc_at c t _ j rfl
 have e : ((⟨w.heap.size,0,none⟩ : Addr).add j) = ⟨w.heap.size,j,none⟩:=by
  by_cases hj : j = 0
  ·subst hj;rfl
  ·simp [Addr.add,hj]
 rw [e,h]
 simpa using hu
section
variable {P : Program} (w : World)
theorem run_append_moved (base : Nat) (t ty e : TypeId) (i : TypeInfo) (z : Value) (size bytes : Nat) (ht : P.underlying t = some (.slice e)) (hi : P.info? e = some i) (hz : i.zero = some z)
  (hsize : i.size = size) (hby : i.bytes = bytes) (hzs : z.cells.size = size) (hsz : 0 < size)
  (v : Value) (n : Nat) (xs : List Value) (hown : w.ownsRow base e size v n xs)
  (a : Addr) (m c : Nat) (news : List Value) (hl : news.length = m * size) (hnews : ∀ j u,news[j]? = some u → w.cell? (a.add j) = some u) (h1 : ∀ u ∈ news,u.oneCell' = true)
  (h63 : n + m ≤ maxLen) (hbytes : (n + m) * bytes ≤ 140737488355328) (hbase : base ≤ w.heap.size) :
  ∃ v' w',(Builtin.append_ #[t,t] ty #[v,.slice (some a) m c]).run P w = .ok v' w' ∧ w'.ownsRow base e size v' (n + m) (xs ++ news) ∧ w.grownBy w' v.ownBlock ∧
   (v' = .slice none 0 0 ↔ v = .slice none 0 0 ∧ m = 0) ∧ Moved w v v':=by
 obtain ⟨v',w',hr,h2,h3,h4⟩:=run_append_own (P:=P) w base t ty e i z size bytes ht hi hz hsize hby hzs hsz v n xs hown a m c news hl hnews h1 h63 hbytes hbase
 refine ⟨v',w',hr,h2,h3,h4,?_⟩
 subst hsize
 subst hby
 have hsmall : n + m ≤ 9223372036854775807:=by simp only [maxLen] at h63;omega
 rcases hown.2 with ⟨rfl,rfl⟩ | ⟨g,cap,cur,rfl,hbg,hg,hnc,hcm,hcs,htake⟩
 ·have hx : xs = []:=List.eq_nil_of_length_eq_zero (by simpa using hown.1)
  subst hx
  by_cases hm : m = 0
  ·have:=h4.2 ⟨rfl,hm⟩
   subst this
   exact .inl rfl
  ·have hr2:=run_append_nil (P:=P) w t ty e i z ht hi hz a m c news hl hnews (by omega) (by omega) (by have hb:=hbytes;simp only [Nat.zero_add] at hb;omega)
   rw [hr2] at hr
   simp only [Result.ok.injEq] at hr
   rw [← hr.1]
   refine .inr fun k hk => ?_
   simp only [Value.ownBlock,Option.some.injEq] at hk
   omega
 ·by_cases hroom : n + m ≤ cap
  ·have hfit : n * i.size + news.length ≤ cur.size:=by rw [hl,hcs,← Nat.add_mul];exact Nat.mul_le_mul_right _ hroom
   have hr2:=run_append_room (P:=P) w t ty e i ht hi g n cap cur hg a m c news hl hnews h1 hroom hfit
   rw [hr2] at hr
   simp only [Result.ok.injEq] at hr
   rw [← hr.1]
   exact .inl rfl
  ·have holds : ∀ j u,xs[j]? = some u → w.cell? ((⟨g,0,none⟩ : Addr).add j) = some u:=hown.cells (g:=g) rfl
   have hr2:=run_append_grow (P:=P) w t ty e i z ht hi hz ⟨g,0,none⟩ n cap xs hown.1 holds a m c news hl hnews (by omega) (by omega) (growslice_fits (by omega) hbytes)
   rw [hr2] at hr
   simp only [Result.ok.injEq] at hr
   rw [← hr.1]
   refine .inr fun k hk => ?_
   simp only [Value.ownBlock,Option.some.injEq] at hk
   omega
theorem wpList_append_moved {ops : Array Oper} {rest : List Oper} {o : Oper} {a : Act} {Q : Exit → Act → World → Prop} (hgd : o.guard = none) (s x : Operand) (t : TypeId)
  (ho : o.op = .call { callee:=.builtin .append,args:=#[s,x],argTypes:=#[t,t] })
  (base : Nat) (e : TypeId) (i : TypeInfo) (z : Value) (size bytes : Nat) (ht : P.underlying t = some (.slice e)) (hi : P.info? e = some i) (hz : i.zero = some z)
  (hsize : i.size = size) (hby : i.bytes = bytes) (hzs : z.cells.size = size) (hsz : 0 < size)
  (v : Value) (n : Nat) (xs : List Value) (hs : a.eval s = v) (hown : w.ownsRow base e size v n xs)
  (ad : Addr) (m c : Nat) (news : List Value) (hx : a.eval x = .slice (some ad) m c) (hl : news.length = m * size) (hnews : ∀ j u,news[j]? = some u → w.cell? (ad.add j) = some u) (h1 : ∀ u ∈ news,u.oneCell' = true)
  (h63 : n + m ≤ maxLen) (hbytes : (n + m) * bytes ≤ 140737488355328) (hbase : base ≤ w.heap.size)
  (h : ∀ v' w',w'.ownsRow base e size v' (n + m) (xs ++ news) → w.grownBy w' v.ownBlock → Moved w v v' → wpList P ops Q rest (a.put o.dst v') w') : wpList P ops Q (o::rest) a w:=by
 refine wpList_plain hgd fun K hK => ?_
 obtain ⟨v',w',hr,h2,h3,_,h5⟩:=run_append_moved (P:=P) w base t o.type e i z size bytes ht hi hz hsize hby hzs hsz v n xs hown ad m c news hl hnews h1 h63 hbytes hbase
 unfold Oper.wp execOp
 simp only [ho,resolve,invoke,builtin,Sem.run_bind,Sem.run_pure,Result.andThen_ok,List.map_toArray,List.map_cons,List.map_nil,hs,hx,hr]
 exact hK _ _ (h v' w' h2 h3 h5)
end
end Go.Proofs.YthpapbilhjobnaaGreatDoor
namespace Go.Proofs.YthpapbilhjobnaaGreatDoor.Pu
def Fills (bs : List UInt8) (L : List Bool) : Prop:=L.length ≤ 8 * bs.length ∧ bitsOf bs = L ++ List.replicate (8 * bs.length - L.length) false
def Packed (bs : List UInt8) (L : List Bool) : Prop:=bs.length = (L.length + 7) / 8 ∧ Fills bs L
theorem bitsOf_zero : bitsOf [0] = List.replicate 8 false:=by decide
theorem Fills.more {bs : List UInt8} {L : List Bool} (h : Fills bs L) : Fills (bs ++ [0]) L:=by
 obtain ⟨h1,h2⟩:=h
 refine ⟨by simp;omega,?_⟩
 rw [bitsOf_append,h2,bitsOf_zero,List.append_assoc,List.replicate_append_replicate]
 congr 2
 simp;omega
theorem append_left_of_length {a b c d : List Bool} (h : a ++ b = c ++ d) (hl : a.length ≤ c.length) : ∃ e,c = a ++ e ∧ b = e ++ d:=by
 rcases List.append_eq_append_iff.1 h with ⟨e,h1,h2⟩ | ⟨e,h1,h2⟩
 ·exact ⟨e,h1,h2⟩
 ·have : e = []:=by
   have:=congrArg List.length h1
   simp at this
   exact List.eq_nil_of_length_eq_zero (by omega)
  subst this
  simp at h1 h2
  exact ⟨[],by simp [h1],by simp [h2]⟩
theorem lsb_split (x j : Nat) (l : List Bool) (k : Nat) (hl : l.length = j) (hk : j + k = 8) (hx : x < 256) (h : lsb x 8 = l ++ List.replicate k false) : x < 2 ^ j ∧ l = lsb x j:=by
 have hv:=congrArg val h
 rw [val_append_zeros,val_lsb,Nat.mod_eq_of_lt (by simpa using hx)] at hv
 have:=val_lt l
 rw [hl,← hv] at this
 refine ⟨this,?_⟩
 rw [hv,← hl,lsb_val]
theorem lsb_add (x j k : Nat) (b : Bool) (hx : x < 2 ^ j) (hk : j + 1 + k = 8) : lsb (x + b.toNat * 2 ^ j) 8 = lsb x j ++ [b] ++ List.replicate k false:=by
 refine val_inj (by simp;omega) ?_
 have hb : b.toNat ≤ 1:=by cases b <;> simp
 have hlt : x + b.toNat * 2 ^ j < 2 ^ (j + 1):=by
  rw [Nat.pow_succ]
  have : b.toNat * 2 ^ j ≤ 1 * 2 ^ j:=Nat.mul_le_mul_right _ hb
  omega
 have h8 : 2 ^ (j + 1) ≤ 2 ^ 8:=Nat.pow_le_pow_right (by omega) (by omega)
 rw [val_lsb,val_append_zeros,val_append,val_lsb,length_lsb,Nat.mod_eq_of_lt hx,Nat.mod_eq_of_lt (by omega)]
 simp only [val]
 rw [Nat.mul_comm]
 simp
theorem Fills.bit {bs : List UInt8} {L : List Bool} (h : Fills bs L) (hlt : L.length < 8 * bs.length) (b : Bool) (x y : UInt8)
  (hx : bs[L.length / 8]? = some x) (hy : y.toNat = x.toNat + b.toNat * 2 ^ (L.length % 8)) : Fills (bs.set (L.length / 8) y) (L ++ [b]):=by
 obtain ⟨h1,h2⟩:=h
 refine ⟨by simp;omega,?_⟩
 have hi : L.length / 8 < bs.length:=by omega
 have ex : bs[L.length / 8] = x:=by simpa [List.getElem?_eq_getElem hi] using hx
 have hbs : bs = bs.take (L.length / 8) ++ x::bs.drop (L.length / 8 + 1):=by
  rw [← ex,← List.drop_eq_getElem_cons hi,List.take_append_drop]
 have hset : bs.set (L.length / 8) y = bs.take (L.length / 8) ++ y::bs.drop (L.length / 8 + 1):=List.set_eq_take_append_cons_drop ..|>.trans (if_pos hi)
 rw [hset]
 have e1 : bitsOf bs = bitsOf (bs.take (L.length / 8)) ++ (lsb x.toNat 8 ++ bitsOf (bs.drop (L.length / 8 + 1))):=by
  conv => lhs;rw [hbs]
  rw [bitsOf_append];rfl
 have e2 : bitsOf (bs.take (L.length / 8) ++ y::bs.drop (L.length / 8 + 1)) = bitsOf (bs.take (L.length / 8)) ++ (lsb y.toNat 8 ++ bitsOf (bs.drop (L.length / 8 + 1))):=by
  rw [bitsOf_append];rfl
 rw [e2]
 rw [e1] at h2
 have hl1 : (bitsOf (bs.take (L.length / 8))).length = 8 * (L.length / 8):=by simp;omega
 obtain ⟨m,hL,hm⟩:=append_left_of_length h2 (by rw [hl1];omega)
 have hml : m.length = L.length % 8:=by
  have:=congrArg List.length hL
  simp only [List.length_append,hl1] at this
  omega
 have hsplit : List.replicate (8 * bs.length - L.length) false = List.replicate (8 - L.length % 8) false ++ List.replicate (8 * bs.length - L.length - (8 - L.length % 8)) false:=by
  rw [List.replicate_append_replicate];congr 1;omega
 rw [hsplit,← List.append_assoc] at hm
 obtain ⟨hx8,hrest⟩:=List.append_inj hm (by simp [hml];omega)
 obtain ⟨hxl,hmx⟩:=lsb_split x.toNat (L.length % 8) m (8 - L.length % 8) hml (by omega) x.toNat_lt hx8
 have hadd:=lsb_add x.toNat (L.length % 8) (8 - L.length % 8 - 1) b hxl (by omega)
 rw [hy,hadd,hrest,← hmx]
 conv => rhs;rw [hL]
 simp only [List.append_assoc]
 congr 1
 congr 1
 congr 1
 rw [List.replicate_append_replicate]
 congr 1
 simp
 have hLl:=congrArg List.length hL
 simp only [List.length_append,hl1] at hLl
 omega
theorem Packed.bit_in {bs : List UInt8} {L : List Bool} (h : Packed bs L) (h8 : L.length % 8 ≠ 0) (b : Bool) (x y : UInt8)
  (hx : bs[L.length / 8]? = some x) (hy : y.toNat = x.toNat + b.toNat * 2 ^ (L.length % 8)) : Packed (bs.set (L.length / 8) y) (L ++ [b]) :=
 ⟨by have:=h.1;simp;omega,h.2.bit (by have:=h.1;omega) b x y hx hy⟩
theorem Packed.bit_new {bs : List UInt8} {L : List Bool} (h : Packed bs L) (h8 : L.length % 8 = 0) (b : Bool) (y : UInt8)
  (hy : y.toNat = b.toNat) : Packed ((bs ++ [0]).set (L.length / 8) y) (L ++ [b]):=by
 have h1:=h.1
 refine ⟨by simp;omega,h.2.more.bit (by simp;omega) b 0 y ?_ (by simp [h8,hy])⟩
 rw [List.getElem?_append_right (by omega)]
 simp [show L.length / 8 - bs.length = 0 by omega]
theorem Packed.byte_lt {bs : List UInt8} {L : List Bool} (h : Fills bs L) (hlt : L.length < 8 * bs.length) (x : UInt8) (hx : bs[L.length / 8]? = some x) : x.toNat < 2 ^ (L.length % 8):=by
 obtain ⟨h1,h2⟩:=h
 have hi : L.length / 8 < bs.length:=by omega
 have ex : bs[L.length / 8] = x:=by simpa [List.getElem?_eq_getElem hi] using hx
 have hbs : bs = bs.take (L.length / 8) ++ x::bs.drop (L.length / 8 + 1):=by
  rw [← ex,← List.drop_eq_getElem_cons hi,List.take_append_drop]
 have e1 : bitsOf bs = bitsOf (bs.take (L.length / 8)) ++ (lsb x.toNat 8 ++ bitsOf (bs.drop (L.length / 8 + 1))):=by
  conv => lhs;rw [hbs]
  rw [bitsOf_append];rfl
 rw [e1] at h2
 have hl1 : (bitsOf (bs.take (L.length / 8))).length = 8 * (L.length / 8):=by simp;omega
 obtain ⟨m,hL,hm⟩:=append_left_of_length h2 (by rw [hl1];omega)
 have hml : m.length = L.length % 8:=by
  have:=congrArg List.length hL
  simp only [List.length_append,hl1] at this
  omega
 have hsplit : List.replicate (8 * bs.length - L.length) false = List.replicate (8 - L.length % 8) false ++ List.replicate (8 * bs.length - L.length - (8 - L.length % 8)) false:=by
  rw [List.replicate_append_replicate];congr 1;omega
 rw [hsplit,← List.append_assoc] at hm
 obtain ⟨hx8,hrest⟩:=List.append_inj hm (by simp [hml];omega)
 exact (lsb_split x.toNat (L.length % 8) m (8 - L.length % 8) hml (by omega) x.toNat_lt hx8).1
end Go.Proofs.YthpapbilhjobnaaGreatDoor.Pu
namespace Go.Proofs.YthpapbilhjobnaaGreatDoor
open Go.RowKit Pu
structure Wr (w : World) (W : Nat) (L : List Bool) (v : Value) : Prop where
 blk : Blk w W #[v,.int .i64 L.length] 67
 row : ∃ bs,w.ownsRow 0 5 1 v bs.length (bs.map U8) ∧ Packed bs L
 ne : v.ownBlock ≠ some W
def WM (W : Nat) (v : Value) : Nat → Prop:=fun k => k = W ∨ v.ownBlock = some k
def Wrote (w : World) (W : Nat) (L : List Bool) (v : Value) (w' : World) : Prop:=∃ v',Wr w' W L v' ∧ Ext (WM W v) w w' ∧ Moved w v v'
theorem and_one (n : Nat) (h : n < 4611686018427387904) : bits BinOp.and IntKind.i64 (n : Int) 1 = ((n % 2 : Nat) : Int):=by
 have:=bits_mask .i64 62 (by decide) (fun m h0 h1 => IntWalk.i64_in m (by constructor <;> omega)) 1 (by decide) (n : Int) (by omega) (by omega)
 simpa using this
theorem owns_slice {w : World} {base e n : Nat} {v : Value} {xs : List Value} (h : w.ownsRow base e 1 v n xs) (hn : 0 < n) : ∃ g cap,v = .slice (some ⟨g,0,none⟩) n cap ∧ n ≤ cap:=by
 rcases h.2 with ⟨_,h2⟩ | ⟨g,cap,cur,rfl,_,_,h3,_⟩
 ·omega
 ·exact ⟨g,cap,rfl,h3⟩
theorem byte_or (x : UInt8) (n k : Nat) (hx : x.toNat < 2 ^ k) (hk : k < 8) (hn : n < 2) :
  ∃ y : UInt8,bits BinOp.or IntKind.u8 (x.toNat : Int) ((n : Int) % 256 * 2 ^ k % 256) = (y.toNat : Int) ∧ y.toNat = x.toNat + n * 2 ^ k:=by
 have hp : 2 ^ k ≤ 2 ^ 7:=Nat.pow_le_pow_right (by omega) (by omega)
 have hnk : n * 2 ^ k ≤ 1 * 2 ^ k:=Nat.mul_le_mul_right _ (by omega)
 have hp2 : (2 : Int) ^ k = ((2 ^ k : Nat) : Int):=by simp
 have e1 : (n : Int) % 256 * 2 ^ k % 256 = ((n * 2 ^ k : Nat) : Int):=by
  rw [hp2]
  have : (n : Int) % 256 = (n : Int):=by omega
  rw [this,← Int.natCast_mul]
  omega
 have hx8:=x.toNat_lt
 have hor : n * 2 ^ k ||| x.toNat = n * 2 ^ k + x.toNat:=nat_join k (n * 2 ^ k) x.toNat (by simp) hx
 refine ⟨UInt8.ofNat (x.toNat + n * 2 ^ k),?_,?_⟩
 ·rw [e1,u8_or_nat _ _ (by omega) (by omega),Nat.or_comm,hor]
  rw [UInt8.toNat_ofNat']
  omega
 ·rw [UInt8.toNat_ofNat']
  omega
theorem wr_stores {w : World} {W g n cap k : Nat} {bs : List UInt8} {y : UInt8} (hblk : Blk w W #[.slice (some ⟨g,0,none⟩) n cap,.int .i64 k] 67)
  (hown : w.ownsRow 0 5 1 (.slice (some ⟨g,0,none⟩) n cap) n (bs.map U8)) (hne : g ≠ W) (i : Nat) :
  Blk ((w.setCell ⟨g,i,none⟩ (.int .u8 (y.toNat : Int))).setCell ⟨W,1,none⟩ (.int .i64 ((k : Int) + 1))).drew W #[.slice (some ⟨g,0,none⟩) n cap,.int .i64 ((k : Int) + 1)] 67 ∧
  ((w.setCell ⟨g,i,none⟩ (.int .u8 (y.toNat : Int))).setCell ⟨W,1,none⟩ (.int .i64 ((k : Int) + 1))).drew.ownsRow 0 5 1 (.slice (some ⟨g,0,none⟩) n cap) n ((bs.set i y).map U8):=by
 constructor
 ·have h:=((hblk.setOther ⟨g,i,none⟩ (.int .u8 (y.toNat : Int)) (by simpa using Ne.symm hne)).set 1 (.int .i64 ((k : Int) + 1))).drew
  simpa using h
 ·have h:=hown.stored i (.int .u8 (y.toNat : Int))
  have h2:=ownsRow_setCell_other h.1 (a:=⟨W,1,none⟩) (by simp [Value.ownBlock,hne]) (.int .i64 ((k : Int) + 1))
  rw [List.map_set]
  exact h2.drew
set_option maxHeartbeats 1000000 in
theorem bit_in (W g m cap k : Nat) (x y : UInt8) (n : Nat) (w : World)
  (hc0 : w.cell? ⟨W,0,none⟩ = some (.slice (some ⟨g,0,none⟩) m cap)) (hc1 : w.cell? ⟨W,1,none⟩ = some (.int .i64 k))
  (hcx : w.cell? ⟨g,k / 8,none⟩ = some (.int .u8 x.toNat))
  (hfg : ∀ o,w.frozen? ⟨g,o,none⟩ = false) (hfW : ∀ o,w.frozen? ⟨W,o,none⟩ = false) (hgW : g ≠ W) (hgW' : W ≠ g)
  (h8 : ¬ k % 8 = 0) (h8' : ((k : Int) % 8 == 0) = false) (hk : k ≤ 1099511627776) (hm : k / 8 < m)
  (HY : Hid (bits BinOp.or IntKind.u8 (x.toNat : Int) (bits BinOp.and IntKind.i64 (n : Int) 1 % 256 * 2 ^ (k % 8) % 256) = (y.toNat : Int))) :
  Calls Tryz.prog 29 #[.pointer (some ⟨W,0,none⟩),.int .i64 n] w fun e w' => e = .returned (.tuple #[]) ∧
   w' = ((w.setCell ⟨g,k / 8,none⟩ (.int .u8 (y.toNat : Int))).setCell ⟨W,1,none⟩ (.int .i64 ((k : Int) + 1))).drew:=by
 go_enter Tryz.func29,Tryz.ntmps29
 go_wp2
 go_region
 go_wp2
 go_end0
 exact ⟨rfl,by rw [HY.out]⟩
set_option maxHeartbeats 1000000 in
theorem bit_new (W k n nb : Nat) (v : Value) (xs : List Value) (w : World)
  (hc0 : w.cell? ⟨W,0,none⟩ = some v) (hc1 : w.cell? ⟨W,1,none⟩ = some (.int .i64 k))
  (hfW : ∀ o,w.frozen? ⟨W,o,none⟩ = false) (hWlt : W < w.heap.size) (HN : Hid (v.ownBlock ≠ some W))
  (HO : Hid (w.ownsRow 0 5 1 v nb xs)) (HX : Hid (k / 8 = nb)) (HL : Hid (xs.length = nb))
  (h8' : ((k : Int) % 8 == 0) = true) (hk : k ≤ 1099511627776) (hnb : nb ≤ 1099511627776) :
  Calls Tryz.prog 29 #[.pointer (some ⟨W,0,none⟩),.int .i64 n] w fun e w' => e = .returned (.tuple #[]) ∧
   ∃ g cap w1,w1.ownsRow 0 5 1 (.slice (some ⟨g,0,none⟩) (nb + 1) cap) (nb + 1) (xs ++ [.int .u8 0]) ∧ Ext (fun k => v.ownBlock = some k) w w1 ∧ (v.ownBlock = some g ∨ w.heap.size ≤ g) ∧
   w' = (((w1.setCell ⟨W,0,none⟩ (.slice (some ⟨g,0,none⟩) (nb + 1) cap)).setCell ⟨g,k / 8,none⟩ (.int .u8 (bits BinOp.or IntKind.u8 0 (bits BinOp.and IntKind.i64 (n : Int) 1 % 256)))).setCell ⟨W,1,none⟩ (.int .i64 ((k : Int) + 1))).drew:=by
 obtain ⟨i0,hi,hz0,hz1,hz2⟩:=info_parts Tryz.info5
 go_enter Tryz.func29,Tryz.ntmps29
 go_wp2_with (at_builtin;refine wpList_append_moved _ rfl _ _ 22 rfl 0 5 i0 (.int .u8 0) 1 1 Tryz.underlying22 hi hz0 hz1 hz2 rfl (by decide) _ _ _ rfl (HO.out.alloc _) ⟨w.heap.size,0,none⟩ 1 1 [.int .u8 0] rfl rfl ?c1 ?c2 ?c3 ?c4 ?c5 ?_)
 case c1 => exact cell_one_new _ _ _
 case c2 => simp [Value.oneCell']
 case c3 => simp only [maxLen];omega
 case c4 => omega
 case c5 => omega
 intro v' w1 hown1 hg1 hmv
 obtain ⟨g,cap,rfl,hcap⟩:=owns_slice hown1 (by omega)
 have hmv' : v.ownBlock = some g ∨ w.heap.size ≤ g:=by
  rcases hmv with h | h
  ·exact .inl h.symm
  ·have:=h g rfl
   simp at this
   exact .inr (by omega)
 have hgW : g ≠ W:=by
  intro e
  subst e
  rcases hmv' with h | h
  ·exact HN.out h
  ·omega
 have hgW' : W ≠ g:=Ne.symm hgW
 have hblk : w1.heap[W]? = w.heap[W]?:=by
  rw [hg1.block W (by simp;omega) (fun h => HN.out h.symm)]
  exact Below.heap_alloc _ _ _ hWlt
 have hd0 : w1.cell? ⟨W,0,none⟩ = some v:=by rw [World.cell?_of_block (w:=w) hblk];exact hc0
 have hd1 : w1.cell? ⟨W,1,none⟩ = some (.int .i64 k):=by rw [World.cell?_of_block (w:=w) hblk];exact hc1
 have hfd : ∀ o,w1.frozen? ⟨W,o,none⟩ = false:=fun o => by rw [World.frozen?_of_block (w:=w) hblk];exact hfW o
 have hdx : w1.cell? ⟨g,k / 8,none⟩ = some (.int .u8 0):=by
  rw [hown1.cellAt _ (by rw [HX.out];omega),List.getElem?_append_right (by rw [HX.out,HL.out];omega),HX.out,HL.out]
  simp
 have hfg : ∀ o,w1.frozen? ⟨g,o,none⟩ = false:=fun o => hown1.frozenAt o
 have hext : Ext (fun k => v.ownBlock = some k) w w1:=((Ext.refl _ w).alloc _).grown hg1 (fun k e _ => e)
 have hxm : k / 8 < nb + 1:=by rw [HX.out];omega
 have hk8 : k % 8 = 0:=by have h8:=h8';simp at h8;omega
 have HE:=Lib.hid hext;have HV:=Lib.hid hmv';have HW:=Lib.hid hown1;have HK8:=Lib.hid hk8
 clear hext hmv' hown1 hg1 hmv hblk hk8
 go_wp2
 go_region
 go_wp2
 go_end0
 refine ⟨rfl,g,cap,w1,HW.out,HE.out,HV.out,?_⟩
 simp [HK8.out]
theorem or_zero (n : Nat) (y : UInt8) (hy : y.toNat = n % 2) : bits BinOp.or IntKind.u8 0 (((n % 2 : Nat) : Int) % 256) = (y.toNat : Int):=by
 have e : (((n % 2 : Nat) : Int) % 256) = ((n % 2 : Nat) : Int):=by omega
 have:=u8_or_nat 0 (n % 2) (by omega) (by omega)
 rw [e,show (0 : Int) = ((0 : Nat) : Int) from rfl,this,hy]
 simp
theorem bit_any (W : Nat) (L : List Bool) (v : Value) (n : Nat) (w : World) (hw : Wr w W L v) (hL : L.length ≤ 1099511627776) (hn : n < 4611686018427387904) :
  Calls Tryz.prog 29 #[.pointer (some ⟨W,0,none⟩),.int .i64 n] w fun e w' => e = .returned (.tuple #[]) ∧ Wrote w W (L ++ [n % 2 == 1]) v w':=by
 obtain ⟨hblk,⟨bs,hown,hpk⟩,hne⟩:=hw
 have hand:=and_one n hn
 have hbl:=hpk.1
 have hc0 : w.cell? ⟨W,0,none⟩ = some v:=by rw [hblk.cell];rfl
 have hc1 : w.cell? ⟨W,1,none⟩ = some (.int .i64 L.length):=by rw [hblk.cell];rfl
 have hlen : (L ++ [n % 2 == 1]).length = L.length + 1:=by simp
 have hcast : (((L ++ [n % 2 == 1]).length : Nat) : Int) = (L.length : Int) + 1:=by simp
 by_cases h8 : L.length % 8 = 0
 ·obtain ⟨y,hy⟩ : ∃ y : UInt8,y.toNat = n % 2:=⟨UInt8.ofNat (n % 2),by rw [UInt8.toNat_ofNat'];omega⟩
  refine (bit_new W L.length n bs.length v (bs.map U8) w hc0 hc1 (fun o => hblk.free o) hblk.lt hne hown (show L.length / 8 = bs.length by omega) (show (bs.map U8).length = bs.length by simp) (by simp;omega) hL (by omega)).mono ?_
  rintro e w' ⟨rfl,g,cap,w1,hown1,hext,hmv,rfl⟩
  have hgW : g ≠ W:=by
   intro e
   subst e
   rcases hmv with h | h
   ·exact hne h
   ·have:=hblk.lt;omega
  have hb1 : Blk w1 W #[v,.int .i64 L.length] 67:=hblk.ext hext hne
  have hb2 : Blk (w1.setCell ⟨W,0,none⟩ (.slice (some ⟨g,0,none⟩) (bs.length + 1) cap)) W #[.slice (some ⟨g,0,none⟩) (bs.length + 1) cap,.int .i64 L.length] 67:=by
   simpa using hb1.set 0 (.slice (some ⟨g,0,none⟩) (bs.length + 1) cap)
  have hown2 : (w1.setCell ⟨W,0,none⟩ (.slice (some ⟨g,0,none⟩) (bs.length + 1) cap)).ownsRow 0 5 1 (.slice (some ⟨g,0,none⟩) (bs.length + 1) cap) (bs.length + 1) ((bs ++ [0]).map U8):=by
   have:=ownsRow_setCell_other hown1 (a:=⟨W,0,none⟩) (by simp [Value.ownBlock,hgW]) (.slice (some ⟨g,0,none⟩) (bs.length + 1) cap)
   simpa [U8] using this
  obtain ⟨hf1,hf2⟩:=wr_stores (y:=y) hb2 hown2 hgW (L.length / 8)
  rw [hand,or_zero n y hy]
  refine ⟨rfl,.slice (some ⟨g,0,none⟩) (bs.length + 1) cap,⟨?_,⟨(bs ++ [0]).set (L.length / 8) y,?_,hpk.bit_new h8 _ y ?_⟩,?_⟩,?_,?_⟩
  ·rw [hcast];exact hf1
  ·simpa using hf2
  ·rw [hy];rcases Nat.mod_two_eq_zero_or_one n with h | h <;> simp [h]
  ·simpa [Value.ownBlock] using hgW
  ·refine Ext.drew (Ext.setCell (Ext.setCell (Ext.setCell (hext.mono (fun i _ h => .inr h)) (fun _ => .inl rfl) _) (fun hlt => ?_) _) (fun _ => .inl rfl) _)
   rcases hmv with h | h
   ·exact .inr h
   ·exact absurd hlt (by simpa using h)
  ·rcases hmv with h | h
   ·exact .inl h.symm
   ·exact .inr fun k hk => by simp only [Value.ownBlock,Option.some.injEq] at hk;omega
 ·obtain ⟨g,cap,rfl,hcap⟩:=owns_slice hown (by omega)
  have hgW : g ≠ W:=fun e => hne (by simp [Value.ownBlock,e])
  have hi : L.length / 8 < bs.length:=by omega
  obtain ⟨x,hx⟩ : ∃ x,bs[L.length / 8]? = some x:=⟨_,List.getElem?_eq_getElem hi⟩
  obtain ⟨y,hy,hyv⟩:=byte_or x (n % 2) (L.length % 8) (Packed.byte_lt hpk.2 (by omega) x hx) (by omega) (by omega)
  have hcx : w.cell? ⟨g,L.length / 8,none⟩ = some (.int .u8 x.toNat):=by
   rw [hown.cellAt _ (by omega)];simp [hx,U8]
  refine (bit_in W g bs.length cap L.length x y n w hc0 hc1 hcx (fun o => hown.frozenAt o) (fun o => hblk.free o) hgW (Ne.symm hgW) h8 (by simp;omega) hL hi (by rw [hand];exact hy)).mono ?_
  rintro e w' ⟨rfl,rfl⟩
  obtain ⟨hf1,hf2⟩:=wr_stores (y:=y) hblk hown hgW (L.length / 8)
  refine ⟨rfl,_,⟨by rw [hcast];exact hf1,⟨bs.set (L.length / 8) y,by simpa using hf2,hpk.bit_in h8 _ x y hx ?_⟩,by simpa [Value.ownBlock] using hgW⟩,?_,.inl rfl⟩
  ·rw [hyv];congr 2;rcases Nat.mod_two_eq_zero_or_one n with h | h <;> simp [h]
  ·exact (((Ext.refl _ w).setCell (fun _ => .inr rfl) _).setCell (fun _ => .inl rfl) _).drew
end Go.Proofs.YthpapbilhjobnaaGreatDoor
