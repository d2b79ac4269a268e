/-
  Parts of the proofs over the reader and the encoder of streams, joined: If. Conditions: each theorem names its own.
-/
import Derived.Test.YthpapbilhjobnaaGreatDoorM05
import Derived.Test.YthpapbilhjobnaaGreatDoorM08
set_option linter.unusedVariables false
set_option linter.unusedSimpArgs false
namespace Go.Proofs.YthpapbilhjobnaaGreatDoor
open Go.RowKit Pu
variable {c0 c1 c2 c3 c4 c5 c6 c7 c8 c9 c10 c11 c12 c13 c14 c15 c16 c17 c18 c19 c20 c21 c22 c23 c24 c25 c26 c27 c28 c29 c30 c31 c32 c33 c34 c35 c36 c37 c38 c39 c40 c41 c42 c43 c44 c45 c46 c47 c48 c49 c50 c51 c52 c53 c54 c55 c56 c57 c58 c59 c60 c61 c62 c63 c64 c65 c66 c67 c68 c69 c70 c71 c72 c73 c74 c75 c76 c77 c78 c79 c80 c81 c82 c83 c84 c85 c86 c87 c88 c89 c90 c91 c92 c93 c94 c95 c96 c97 c98 c99 c100 c101 c102 c103 c104 c105 c106 c107 c108 c109 c110 c111 c112 c113 c114 c115 c116 c117 c118 c119 c120 c121 c122 c123 c124 c125 c126 c127 c128 c129 c130 c131 c132 c133 c134 c135 c136 c137 c138 c139 c140 c141 c142 c143 c144 c145 c146 c147 c148 c149 c150 c151 c152 c153 c154 c155 c156 c157 c158 c159 c160 c161 c162 c163 c164 c165 c166 c167 c168 c169 c170 c171 c172 c173 c174 c175 c176 c177 c178 c179 c180 c181 c182 c183 c184 c185 c186 c187 c188 c189 c190 c191 c192 c193 c194 c195 c196 c197 c198 c199 c200 c201 c202 c203 c204 c205 c206 c207 c208 c209 c210 c211 c212 c213 c214 c215 c216 c217 c218 c219 c220 c221 c222 c223 c224 c225 c226 c227 c228 c229 c230 c231 c232 c233 c234 c235 c236 c237 c238 c239 c240 c241 c242 c243 c244 c245 c246 c247 c248 c249 c250 c251 c252 c253 c254 c255 c256 c257 c258 c259 c260 c261 c262 c263 c264 c265 c266 c267 c268 c269 c270 c271 c272 c273 c274 c275 c276 c277 c278 c279 c280 c281 c282 c283 c284 c285 c286 c287 c288 c289 c290 c291 c292 c293 c294 c295 c296 c297 c298 c299 c300 c301 c302 c303 c304 c305 c306 c307 c308 c309 c310 c311 c312 c313 c314 c315 c316 : Value}
theorem i64_low (x k : Nat) (hx : x < 1152921504606846976) (hk : k < 60) : bits BinOp.and IntKind.i64 (x : Int) ((2 ^ k - 1 : Nat) : Int) = ((x % 2 ^ k : Nat) : Int):=by
 have h:=bits_mask .i64 62 (by decide) (fun m h0 h1 => IntWalk.i64_in m (by constructor <;> omega)) k (by omega) (x : Int) (by omega) (by omega)
 have e : ((2 ^ k - 1 : Nat) : Int) = (2 : Int) ^ k - 1:=by
  have:=Nat.two_pow_pos k
  rw [Int.natCast_sub this];simp
 rw [e,h];simp
theorem TB.short {w w' : World} {hb ho : Nat} {t : TypeId} {b11 : Nat} {c0 c c' : Array Value} {lens : List Nat} {v n r : Nat} {ch : Nat → Nat} {lk : Nat → Nat → Nat} {Lb : Nat} {g : Nat → Nat} (h : TB w hb ho t b11 c0 c lens (512 - linkOf lens) ch lk Lb g) (hbb : hb < b11)
  (hg : Pu.Good lens) {s : Nat} (h0 : 0 < len lens s) (h9 : len lens s ≤ 9) (hn : n = len lens s) (hr : r = val (codeBits lens s)) (hv : v = s * 16 + len lens s)
  (hB : Blk w' hb c' t) (hS : Same (fun k => ho + 1 ≤ k ∧ k < ho + 513) c c') (hC : CH c' ho (fun x => if x % 2 ^ n = r then v else ch x)) (he : Ext (fun k => k = hb) w w') :
  TB w' hb ho t b11 c0 c' lens (512 - linkOf lens) (fun x => if x % 2 ^ n = r then v else ch x) lk Lb g:=by
 subst hn hr hv
 refine ⟨hB,h.same.trans (hS.mono (fun k hk => by omega)),by rw [hS.2 _ (by omega)];exact h.min,hC,?_,?_,fun hl => ?_⟩
 ·obtain ⟨a,n,k,e⟩:=h.lkc
  exact ⟨a,n,k,by rw [hS.2 _ (by omega)];exact e⟩
 ·obtain ⟨k,e⟩:=h.mkc
  exact ⟨k,by rw [hS.2 _ (by omega)];exact e⟩
 ·obtain ⟨hl1,hl2,hl3,hl4,⟨L,hl5,hl6,hl7⟩,hl8⟩:=h.long hl
  have hlk:=linkOf_le hg hl
  have e512 : linkOf lens + (512 - linkOf lens) = 512:=by omega
  rw [e512] at hl1
  refine ⟨?_,by rw [hS.2 _ (by omega)];exact hl2,by rw [hS.2 _ (by omega)];exact hl3,hl4,⟨L,hl5.ext he (by omega),hl6,hl7⟩,fun v hv => ?_⟩
  ·rw [e512]
   exact LinkTo.short hg hl1 h0 h9 (fun x _ => rfl)
  ·obtain ⟨a,b,d⟩:=hl8 v hv
   exact ⟨a,b,d.ext he (by omega)⟩
theorem TB.longer {w w' : World} {hb ho : Nat} {t : TypeId} {b11 : Nat} {c0 c : Array Value} {lens : List Nat} {v : Nat} {ch f : Nat → Nat} {lk : Nat → Nat → Nat} {Lb : Nat} {g : Nat → Nat} (h : TB w hb ho t b11 c0 c lens (512 - linkOf lens) ch lk Lb g) (hbb : hb < b11)
  (hl : 9 < mxOf lens) (hv : v < 512 - linkOf lens) (hB : Blk w' (g v) (arw (2 ^ (mxOf lens - 9)) f) 36) (he : Ext (fun k => k = g v) w w') :
  TB w' hb ho t b11 c0 c lens (512 - linkOf lens) ch (fun u y => if u = v then f y else lk u y) Lb g:=by
 obtain ⟨hl1,hl2,hl3,hl4,⟨L,hl5,hl6,hl7⟩,hl8⟩:=h.long hl
 obtain ⟨a0,b0,d0⟩:=hl8 v hv
 refine ⟨h.blk.ext he (by omega),h.same,h.min,h.chh,h.lkc,h.mkc,fun _ => ⟨hl1,hl2,hl3,hl4,⟨L,hl5.ext he (by omega),hl6,hl7⟩,fun u hu => ?_⟩⟩
 obtain ⟨a,b,d⟩:=hl8 u hu
 refine ⟨a,b,?_⟩
 by_cases e : u = v
 ·subst e
  simp only [if_true];exact hB
 ·simp only [if_neg e]
  exact d.ext he (fun e2 => e (b0 u hu e2))
set_option maxRecDepth 100000 in
set_option maxHeartbeats 8000000 in
theorem init_codes (hb ho lb lo lcap n : Nat) (t : TypeId) (b11 : Nat) (c0 c : Array Value) (lens : List Nat) (ch : Nat → Nat) (Lb : Nat) (g : Nat → Nat) (w : World) (h : TB w hb ho t b11 c0 c lens (512 - linkOf lens) ch (fun _ _ => 0) Lb g)
  (hX : Blk w b11 (arr 16 (nxt lens 0)) 172) (hn : lens.length = n) (hn2 : n ≤ 320) (hg : Pu.Good lens) (hL : ∀ j x,(lens.map IV)[j]? = some x → w.cell? ⟨lb,lo + j,none⟩ = some x) (hbb : hb < b11) (hlb : lb ≠ hb) (hlb2 : lb < b11) (Q : Exit → Act → World → Prop)
  (hK : ∀ (u18 u19 u20 u21 u22 u23 u24 u25 u26 u27 u170 u171 u172 u173 u174 u175 u176 u177 u178 u179 u180 u181 u182 u183 u184 u185 u186 u187 u188 u189 u190 u191 u192 u193 u194 u195 u196 u197 u198 u199 u200 u201 u202 u203 u204 u205 u206 u207 u208 u209 u210 u211 u212 u213 u214 u215 u216 u217 u218 u219 u220 u221 u222 u223 u224 u225 u226 u227 u228 u229 u230 u231 u232 u233 u234 u235 u236 u237 u238 u239 u240 u241 u242 u243 u244 u245 u246 u247 u248 u249 u250 u251 u252 u253 u254 u255 u256 u257 u258 u259 u260 u261 u262 u263 u264 u265 u266 u267 u268 u269 u270 u271 u272 u273 u274 u275 u276 u277 : Value) (wx : World),(∃ c ch lk,TB wx hb ho t b11 c0 c lens (512 - linkOf lens) ch lk Lb g ∧ TabTo lens ch lk (linkOf lens) (2 ^ (mxOf lens - 9)) n) → Ext (fun k => k = hb ∨ b11 ≤ k) w wx → Q .normal ⟨List.toArray ((.pointer (some ⟨hb,ho,none⟩))::c1::c2::c3::c4::c5::c6::c7::c8::c9::c10::(.pointer (some ⟨b11,0,none⟩))::c12::c13::c14::c15::c16::c17::u18::u19::u20::u21::u22::u23::u24::u25::u26::u27::c28::c29::c30::c31::c32::c33::c34::c35::c36::c37::c38::c39::c40::c41::c42::c43::c44::c45::c46::c47::c48::c49::c50::c51::c52::c53::c54::c55::c56::c57::c58::c59::c60::c61::c62::c63::c64::c65::c66::c67::c68::c69::c70::c71::c72::c73::c74::c75::c76::c77::c78::c79::c80::c81::c82::c83::c84::c85::c86::c87::c88::c89::c90::c91::c92::c93::c94::c95::c96::c97::c98::c99::c100::c101::c102::c103::c104::c105::c106::c107::c108::c109::c110::c111::c112::c113::c114::c115::c116::c117::c118::c119::c120::c121::c122::c123::c124::c125::c126::c127::c128::c129::c130::c131::c132::c133::c134::c135::c136::c137::c138::c139::c140::c141::c142::c143::c144::c145::c146::c147::c148::c149::c150::c151::c152::c153::c154::c155::c156::c157::c158::c159::c160::c161::c162::c163::c164::c165::c166::c167::(.slice (some ⟨lb,lo,none⟩) n lcap)::(.int .i64 n)::u170::u171::u172::u173::u174::u175::u176::u177::u178::u179::u180::u181::u182::u183::u184::u185::u186::u187::u188::u189::u190::u191::u192::u193::u194::u195::u196::u197::u198::u199::u200::u201::u202::u203::u204::u205::u206::u207::u208::u209::u210::u211::u212::u213::u214::u215::u216::u217::u218::u219::u220::u221::u222::u223::u224::u225::u226::u227::u228::u229::u230::u231::u232::u233::u234::u235::u236::u237::u238::u239::u240::u241::u242::u243::u244::u245::u246::u247::u248::u249::u250::u251::u252::u253::u254::u255::u256::u257::u258::u259::u260::u261::u262::u263::u264::u265::u266::u267::u268::u269::u270::u271::u272::u273::u274::u275::u276::u277::c278::c279::c280::c281::c282::c283::c284::c285::c286::c287::c288::c289::c290::c291::c292::c293::c294::c295::c296::c297::c298::c299::c300::c301::c302::c303::c304::c305::c306::c307::c308::c309::c310::c311::c312::c313::c314::c315::c316::[]),[]⟩ wx) :
  Code.wp Tryz.prog (blk75 6) Q ⟨List.toArray ((.pointer (some ⟨hb,ho,none⟩))::c1::c2::c3::c4::c5::c6::c7::c8::c9::c10::(.pointer (some ⟨b11,0,none⟩))::c12::c13::c14::c15::c16::c17::c18::c19::c20::c21::c22::c23::c24::c25::c26::c27::c28::c29::c30::c31::c32::c33::c34::c35::c36::c37::c38::c39::c40::c41::c42::c43::c44::c45::c46::c47::c48::c49::c50::c51::c52::c53::c54::c55::c56::c57::c58::c59::c60::c61::c62::c63::c64::c65::c66::c67::c68::c69::c70::c71::c72::c73::c74::c75::c76::c77::c78::c79::c80::c81::c82::c83::c84::c85::c86::c87::c88::c89::c90::c91::c92::c93::c94::c95::c96::c97::c98::c99::c100::c101::c102::c103::c104::c105::c106::c107::c108::c109::c110::c111::c112::c113::c114::c115::c116::c117::c118::c119::c120::c121::c122::c123::c124::c125::c126::c127::c128::c129::c130::c131::c132::c133::c134::c135::c136::c137::c138::c139::c140::c141::c142::c143::c144::c145::c146::c147::c148::c149::c150::c151::c152::c153::c154::c155::c156::c157::c158::c159::c160::c161::c162::c163::c164::c165::c166::c167::(.slice (some ⟨lb,lo,none⟩) n lcap)::(.int .i64 n)::(.int .i64 0)::c171::c172::c173::c174::c175::c176::c177::c178::c179::c180::c181::c182::c183::c184::c185::c186::c187::c188::c189::c190::c191::c192::c193::c194::c195::c196::c197::c198::c199::c200::c201::c202::c203::c204::c205::c206::c207::c208::c209::c210::c211::c212::c213::c214::c215::c216::c217::c218::c219::c220::c221::c222::c223::c224::c225::c226::c227::c228::c229::c230::c231::c232::c233::c234::c235::c236::c237::c238::c239::c240::c241::c242::c243::c244::c245::c246::c247::c248::c249::c250::c251::c252::c253::c254::c255::c256::c257::c258::c259::c260::c261::c262::c263::c264::c265::c266::c267::c268::c269::c270::c271::c272::c273::c274::c275::c276::c277::c278::c279::c280::c281::c282::c283::c284::c285::c286::c287::c288::c289::c290::c291::c292::c293::c294::c295::c296::c297::c298::c299::c300::c301::c302::c303::c304::c305::c306::c307::c308::c309::c310::c311::c312::c313::c314::c315::c316::[]),[]⟩ w:=by
 have H:=Lib.hid h;have HX:=Lib.hid hX;have HNL:=Lib.hid hn;have HG:=Lib.hid hg;have HL:=Lib.hid hL;have HKK:=Lib.hid hK
 clear h hX hn hg hL hK
 conv => arg 2;whnf
 go_wp2_with fail
 obtain ⟨k0,hk0⟩ : ∃ k,n = k:=⟨_,rfl⟩
 have HK0:=Lib.hid hk0
 clear hk0
 go_loopg [170] k0 (fun k s170 wx => ∃ (j : Nat) (c : Array Value) (ch : Nat → Nat) (lk : Nat → Nat → Nat),s170 = .int .i64 j ∧ j ≤ n ∧ TB wx hb ho t b11 c0 c lens (512 - linkOf lens) ch lk Lb g ∧ TabTo lens ch lk (linkOf lens) (2 ^ (mxOf lens - 9)) j ∧ Blk wx b11 (arr 16 (nxt lens j)) 172 ∧ Ext (fun k => k = hb ∨ b11 ≤ k) w wx ∧ k = n - j)
 case atStart => exact ⟨0,c,ch,_,rfl,by omega,H.out,fun s hs => by omega,HX.out,Ext.refl _ _,HK0.out.symm⟩
 case round =>
  obtain ⟨j,c,ch,lk,rfl,hj,htb,htt,hxx,hex,hk⟩:=hrel
  obtain ⟨wo,rfl⟩ : ∃ wo : World,wo = wr:=⟨_,rfl⟩
  have HTB:=Lib.hid htb;have HTT:=Lib.hid htt;have HXX:=Lib.hid hxx;have HEX:=Lib.hid hex;have HK:=Lib.hid hk
  clear htb htt hex hk
  rcases Nat.lt_or_ge j n with hlt | hge
  ·have hjl : j < lens.length:=by rw [HNL.out];exact hlt
   have hlen:=len_eq hjl
   have hl15:=len_le HG.out.mem j
   obtain ⟨nn,hnn⟩ : ∃ x,len lens j = x:=⟨_,rfl⟩
   have hcl : wo.cell? ⟨lb,lo + j,none⟩ = some (.int .i64 nn) :=
    HEX.out.cellSome (by omega) (HL.out j (IV nn) (by simp [hjl,← hlen,hnn]))
   rw [hnn] at hl15
   have HNN:=Lib.hid hnn
   clear hnn hlen
   rcases Nat.eq_zero_or_pos nn with h0 | h0
   ·subst h0
    clear hxx
    go_wp2_with fail
    go_roundg (n - (j + 1))
    case measure => have:=HK.out;omega
    case rel =>
     refine ⟨j + 1,c,ch,lk,by go_num,by omega,HTB.out,HTT.out.skip HNN.out,?_,HEX.out,rfl⟩
     rw [arr_congr 16 (nxt lens j) (nxt lens (j + 1)) (fun i _ => nxt_skip hjl HNN.out i)]
     exact HXX.out
   ·have hnq : ((nn : Int) == 0) = false:=by simp;omega
    have hni : (nn : Int) < 16:=by omega
    have hni0 : (0 : Int) ≤ (nn : Int):=by omega
    obtain ⟨cd,hcd⟩ : ∃ x,codeOf lens j = x:=⟨_,rfl⟩
    have hcx : wo.cell? ⟨b11,nn,none⟩ = some (.int .i64 cd):=by
     have h1:=nxt_code (lens:=lens) (k:=j) (by rw [HNN.out];exact h0)
     rw [HNN.out,hcd] at h1
     rw [hxx.cell,arr_get 16 _ nn (by omega),h1]
    have hfx:=hxx.free
    have hcdl : cd < 2 ^ nn:=by rw [← hcd,← HNN.out];exact code_lt HG.out (by rw [HNN.out];exact h0)
    have hp15 : (2 : Nat) ^ nn ≤ 32768:=Nat.le_trans (Nat.pow_le_pow_right (by omega) hl15) (by decide)
    have hcd15 : cd < 32768:=by omega
    obtain ⟨rw_,hrw⟩ : ∃ x,val (msb cd 16) = x:=⟨_,rfl⟩
    have hrwl : rw_ < 65536:=by rw [← hrw];have:=val_lt (msb cd 16);simpa using this
    obtain ⟨r,hr⟩ : ∃ x,val (codeBits lens j) = x:=⟨_,rfl⟩
    have hrl : r < 2 ^ nn:=by rw [← hr,← HNN.out];have:=val_lt (codeBits lens j);rw [length_codeBits] at this;exact this
    have hrs : rw_ / 2 ^ (16 - nn) = r:=by
     rw [← hrw,← hr]
     unfold codeBits
     rw [hcd,HNN.out]
     exact rev_shift hcdl (by omega)
    obtain ⟨cv,hcv⟩ : ∃ x,j * 16 + nn = x:=⟨_,rfl⟩
    have hor : bits BinOp.or IntKind.i64 ((j : Int) * 16) (nn : Int) = (cv : Int):=by
     have h:=bits_join .i64 62 (by decide) (fun m h0 h1 => IntWalk.i64_in m (by constructor <;> omega)) 4 ((j : Int) * 16) (nn : Int) (by omega) (by omega) (by omega) (by omega) (by omega) (by omega)
     rw [h];omega
    have hcvl : cv < 100000:=by omega
    have HCX : Hid ((arr 16 (nxt lens j)).setIfInBounds nn (.int .i64 ((cd : Int) + 1)) = arr 16 (nxt lens (j + 1))):=Lib.hid (by
     have h1:=nxt_code (lens:=lens) (k:=j) (by rw [HNN.out];exact h0)
     rw [HNN.out,hcd] at h1
     have:=arr_set 16 (nxt lens j) (nxt lens (j + 1)) nn (cd + 1) (fun i hi => by
      rw [nxt_next (by rw [HNN.out];exact h0),HNN.out]
      by_cases e : i = nn
      ·rw [if_pos e,if_pos e,e,h1]
      ·rw [if_neg e,if_neg e])
     rw [← this];simp)
    have hrs2 : (rw_ : Int) / 2 ^ (16 - nn) = (r : Int):=by
     rw [← hrs];simp
    have hRv:=reverse16_any cd (by omega)
    rw [hrw] at hRv
    have HRV:=Lib.hid hRv
    have HR:=Lib.hid hr;have HRW:=Lib.hid hrw;have HCD:=Lib.hid hcd;have HCV:=Lib.hid hcv;have HRS:=Lib.hid hrs
    clear hr hrw hcd hcv hrs hRv hxx
    go_wp2_with fail
    refine (HRV.out _).mono ?_
    rintro e wa ⟨rfl,hea⟩
    have hr15 : r < 32768:=by omega
    have hE1 : Ext (fun k => k = b11) wo wa:=((Ext.refl (fun k => k = b11) wo).only _).trans (hea.mono (fun _ _ e => e.elim))
    have HTa : Hid (TB wa hb ho t b11 c0 c lens (512 - linkOf lens) ch lk Lb g):=Lib.hid (HTB.out.ext hE1 (by omega) (fun k hk => by omega))
    have HEa : Hid (Ext (fun k => k = hb ∨ b11 ≤ k) w wa):=Lib.hid (HEX.out.trans (hE1.mono (fun _ _ e => .inr (by omega))))
    have HXa : Hid (Blk wa b11 (arr 16 (nxt lens (j + 1))) 172):=Lib.hid (by
     rw [← HCX.out]
     exact (HXX.out.set nn _).ext hea (fun e => e))
    have HPOS : Hid (0 < len lens j):=Lib.hid (by rw [HNN.out];exact h0)
    clear hea hE1 hcl hcx hfx
    rcases Nat.lt_or_ge 9 nn with h9 | h9
    ·have h9i : ¬ ((nn : Int) ≤ 9):=by omega
     have hlong : 9 < mxOf lens:=by
      have h1:=mxOf_ge lens _ (List.getElem_mem hjl)
      rw [← len_eq hjl,HNN.out] at h1
      omega
     obtain ⟨hl1,hl2,hl3,hl4,⟨L,hl5,hl6,hl7⟩,hl8⟩:=HTa.out.long hlong
     have hm15:=mxOf_le lens 15 HG.out.mem
     obtain ⟨nk,hnk⟩ : ∃ x,2 ^ (mxOf lens - 9) = x:=⟨_,rfl⟩
     have hnk2 : nk ≤ 64:=by
      rw [← hnk]
      exact Nat.le_trans (Nat.pow_le_pow_right (by omega) (show mxOf lens - 9 ≤ 6 by omega)) (by decide)
     rw [hnk] at hl7 hl8
     have hge:=codeOf_shift_ge (lens:=lens) (s:=j) (by rw [HNN.out];exact h9)
     have hlt:=codeOf_shift_lt HG.out (s:=j) (by rw [HNN.out];exact h9)
     have hlow:=long_low (lens:=lens) (s:=j) (by rw [HNN.out];exact h9)
     rw [HR.out,HNN.out,HCD.out] at hlow
     rw [HNN.out,HCD.out] at hge hlt
     obtain ⟨pp,hpp⟩ : ∃ x,cd / 2 ^ (nn - 9) = x:=⟨_,rfl⟩
     obtain ⟨r2,hr2⟩ : ∃ x,val (msb cd (nn - 9)) = x:=⟨_,rfl⟩
     obtain ⟨r1,hr1⟩ : ∃ x,rev9 pp = x:=⟨_,rfl⟩
     rw [hpp] at hge hlt hlow
     rw [hr1,hr2] at hlow
     have hr1l : r1 < 512:=by rw [← hr1];exact rev9_lt pp
     have hr2l : r2 < 2 ^ (nn - 9):=by rw [← hr2];have:=val_lt (msb cd (nn - 9));simpa using this
     have hlink:=hl1 pp hge (by omega)
     rw [hr1] at hlink
     obtain ⟨v,hv⟩ : ∃ x,pp - linkOf lens = x:=⟨_,rfl⟩
     rw [hv] at hlink
     have hvl : v < 512 - linkOf lens:=by omega
     have hc1 : wa.cell? ⟨hb,ho + 1 + r1,none⟩ = some (.int .u32 ((v * 16 + 10 : Nat) : Int)):=by rw [HTa.out.blk.cell,HTa.out.chh r1 hr1l,hlink]
     have hc2 : wa.cell? ⟨hb,ho + 513,none⟩ = some (.slice (some ⟨Lb,0,none⟩) (512 - linkOf lens) (512 - linkOf lens)):=by rw [HTa.out.blk.cell];exact hl2
     obtain ⟨nl,hnl⟩ : ∃ x,512 - linkOf lens = x:=⟨_,rfl⟩
     obtain ⟨gv,hgv⟩ : ∃ x,g v = x:=⟨_,rfl⟩
     have hc3 : wa.cell? ⟨Lb,v,none⟩ = some (.slice (some ⟨gv,0,none⟩) nk nk):=by rw [hl5.cell,hl7 v hvl,hgv]
     have hg8:=(hl8 v hvl).2.2
     rw [hgv] at hg8
     rw [hnl] at hc2 hvl
     have hand : bits BinOp.and IntKind.i64 (r : Int) 511 = (r1 : Int):=by
      have:=i64_low r 9 (by omega) (by omega)
      rw [show r % 2 ^ 9 = r1 from hlow.1] at this
      exact this
     have hr1i : (r1 : Int) < 512:=by omega
     have hr1z : (0 : Int) ≤ (r1 : Int):=by omega
     obtain ⟨dv,hdv⟩ : ∃ x,v * 16 + 10 = x:=⟨_,rfl⟩
     rw [hdv] at hc1
     have hd16 : (dv : Int) / 16 = (v : Int):=by omega
     have hr5 : (r : Int) / 512 = (r2 : Int):=by have:=hlow.2;omega
     have HG8:=Lib.hid hg8;have HGV:=Lib.hid hgv;have HNL2:=Lib.hid hnl;have HV:=Lib.hid hv;have HPP:=Lib.hid hpp;have HR2:=Lib.hid hr2;have HNK:=Lib.hid hnk;have HLOW:=Lib.hid hlow;have HVL:=Lib.hid hvl
     have HLONG:=Lib.hid hlong
     clear hg8 hgv hnl hv hpp hr1 hr2 hnk hlow hlink hge hlt hl1 hl2 hl3 hl4 hl5 hl6 hl7 hl8 hdv hlong hm15
     have hvl' : (v : Int) < (nl : Int):=by have:=HVL.out;omega
     go_simp
     go_upto_block 10 with (fail)
     refine init_long gv nk nn cv r2 (lk v) _ HG8.out hl15 h9 hr2l hnk2 _ ?_
     intro u27 u255 u256 u257 u258 u259 u260 u261 u262 u263 u264 u265 u266 u267 u268 u269 u270 u271 u272 u273 u274 u275 u276 wx hps hpe
     have HPS:=Lib.hid hps;have HPE:=Lib.hid hpe
     clear hps hpe
     go_wp2_with fail
     go_roundg (n - (j + 1))
     case measure => have:=HK.out;omega
     case rel =>
      have hvv : v < 512 - linkOf lens:=by rw [HNL2.out];exact HVL.out
      have hgb:=(HTa.out.long HLONG.out)
      have hgl : b11 < gv:=by
       obtain ⟨_,_,_,h4,_,h8⟩:=hgb
       have:=(h8 v hvv).1
       rw [HGV.out] at this;omega
      have hT:=HTa.out.longer (w':=wx) (v:=v) (f:=fun x => if x % 2 ^ (nn - 9) = r2 then cv else lk v x) hbb HLONG.out hvv (by rw [HNK.out,HGV.out];exact HPS.out) (by rw [HGV.out];exact HPE.out)
      refine ⟨j + 1,c,ch,_,by go_num,by omega,hT,?_,HXa.out.ext HPE.out (by omega),HEa.out.trans (HPE.out.mono (fun k _ e => .inr (by omega))),rfl⟩
      refine HTT.out.long HG.out (by rw [HNN.out];exact h9) ?_ (fun u y _ _ => ?_)
      ·have h1:=mxOf_ge lens _ (List.getElem_mem hjl)
       rw [← len_eq hjl] at h1
       omega
      ·have hlow:=HLOW.out
       have h2 : val (codeBits lens j) / 512 = r2:=by rw [HR.out];exact hlow.2
       rw [HNN.out,h2,HCD.out,HPP.out,HV.out,HCV.out]
       by_cases e : u = v
       ·subst e
        by_cases e2 : y % 2 ^ (nn - 9) = r2
        ·simp [e2]
        ·simp [e2]
       ·simp [e]
    ·have h9i : (nn : Int) ≤ 9:=by omega
     go_simp
     go_upto_block 8 with (fail)
     refine init_short hb ho nn cv r t c ch _ HTa.out.blk HTa.out.chh h9 hrl _ ?_
     intro u23 u202 u203 u204 u205 u206 u207 u208 u209 u210 u211 u212 u213 u214 u215 u216 u217 u218 u219 u220 u221 u222 u223 u224 wx hps hpe
     obtain ⟨c',hb',hs',hc'⟩:=hps
     have HT2:=Lib.hid (HTa.out.short hbb HG.out HPOS.out (by rw [HNN.out];exact h9) HNN.out.symm HR.out.symm (by rw [HNN.out];exact HCV.out.symm) hb' hs' hc' hpe)
     have HPE:=Lib.hid hpe
     clear hb' hs' hc' hpe
     go_wp2_with fail
     go_roundg (n - (j + 1))
     case measure => have:=HK.out;omega
     case rel =>
      refine ⟨j + 1,c',_,lk,by go_num,by omega,HT2.out,?_,HXa.out.ext HPE.out (by omega),HEa.out.trans (HPE.out.mono (fun _ _ e => .inl e)),rfl⟩
      exact HTT.out.short HG.out HPOS.out (by rw [HNN.out];exact h9) (fun x _ => by rw [HNN.out,HR.out,HCV.out])
  ·go_wp2_with fail
   have hjn : j = n:=by omega
   rw [hjn] at HTT
   exact HKK.out _ _ _ _ _ _ _ _ _ _ _ _ _ _ _ _ _ _ _ _ _ _ _ _ _ _ _ _ _ _ _ _ _ _ _ _ _ _ _ _ _ _ _ _ _ _ _ _ _ _ _ _ _ _ _ _ _ _ _ _ _ _ _ _ _ _ _ _ _ _ _ _ _ _ _ _ _ _ _ _ _ _ _ _ _ _ _ _ _ _ _ _ _ _ _ _ _ _ _ _ _ _ _ _ _ _ _ _ _ _ _ _ _ _ _ _ _ _ _ ⟨c,ch,lk,HTB.out,HTT.out⟩ HEX.out
end Go.Proofs.YthpapbilhjobnaaGreatDoor
