/-
  Parts of the proofs over the reader and the encoder of streams, joined: Hb3 Hb7 Ic Id. Conditions: each theorem names its own.
-/
import Derived.Test.YthpapbilhjobnaaGreatDoorM01
import Derived.Test.YthpapbilhjobnaaGreatDoorM02
import Derived.Test.YthpapbilhjobnaaGreatDoorM05
import Derived.Test.YthpapbilhjobnaaGreatDoorM06
import Derived.Test.YthpapbilhjobnaaGreatDoorM07
import Derived.WalkMore
import Derived.Deep.RegionLaw
import Derived.Deep.LoopGhost
import Derived.Deep.CutBlock
import Derived.Deep.OwnRows
set_option linter.unusedVariables false
set_option linter.unusedSimpArgs false
namespace Go.Proofs.YthpapbilhjobnaaGreatDoor
open Go.RowKit Pu
variable {c0 c1 c2 c3 c4 c5 c6 c7 c8 c9 c10 c11 c12 c13 c14 c15 c16 c17 c18 c19 c20 c21 c22 c23 c24 c25 c26 c27 c28 c29 c30 c31 c32 c33 c34 c35 c36 c37 c38 c39 c40 c41 c42 c43 c44 c45 c46 c47 c48 c49 c50 c51 c52 c53 c54 c55 c56 c57 c58 c59 c60 c61 c62 c63 c64 c65 c66 c67 c68 c69 c70 c71 c72 c73 c74 c75 c76 c77 c78 c79 c80 c81 c82 c83 c84 c85 c86 c87 c88 c89 c90 c91 c92 c93 c94 c95 c96 c97 c98 c99 c100 c101 c102 c103 c104 c105 c106 c107 c108 c109 c110 c111 c112 c113 c114 c115 c116 c117 c118 c119 c120 c121 c122 c123 c124 c125 c126 c127 c128 c129 c130 c131 c132 c133 c134 c135 c136 c137 c138 c139 c140 c141 c142 c143 c144 c145 c146 c147 c148 c149 c150 c151 c152 c153 c154 c155 c156 c157 c158 c159 c160 c161 c162 c163 c164 c165 c166 c167 c168 c169 c170 c171 c172 c173 c174 c175 c176 c177 c178 c179 c180 c181 c182 c183 c184 c185 c186 c187 c188 c189 c190 c191 c192 c193 c194 c195 c196 c197 c198 c199 c200 c201 c202 c203 c204 c205 c206 c207 c208 c209 c210 c211 c212 c213 c214 c215 c216 c217 c218 c219 c220 c221 c222 c223 c224 c225 c226 c227 c228 c229 c230 c231 c232 c233 c234 c235 c236 c237 c238 c239 c240 c241 c242 c243 c244 c245 c246 c247 c248 c249 c250 c251 c252 c253 c254 c255 c256 c257 c258 c259 c260 c261 c262 c263 c264 c265 c266 c267 c268 c269 c270 c271 c272 c273 c274 c275 c276 c277 c278 c279 c280 c281 c282 c283 c284 c285 c286 c287 c288 c289 c290 c291 c292 c293 c294 c295 c296 c297 c298 c299 c300 c301 c302 c303 c304 c305 c306 c307 c308 c309 c310 c311 c312 c313 c314 c315 c316 c317 c318 c319 c320 c321 c322 c323 c324 c325 c326 c327 c328 c329 c330 c331 c332 c333 c334 c335 c336 c337 c338 c339 c340 c341 c342 c343 c344 c345 c346 c347 c348 c349 c350 c351 c352 c353 c354 c355 c356 c357 c358 c359 c360 c361 : Value}
set_option maxRecDepth 100000 in
set_option maxHeartbeats 16000000 in
theorem pass0_end (x : Pl) (ap : Apart x) (k : Blkc) (w0 w : World) (d0 d : Array Value) (q : Nat) (H hs : List UInt8) (wr rd : Nat) (full : Bool) (BB : List Bool) (p i : Nat) (h : S0 x k w0 d0 w d q H hs wr rd full [] BB p [] i) (Q : Exit → Act → World → Prop)
  (hR : ∀ (u2 u3 u4 u5 u6 u7 u8 u9 u18 u19 u20 u21 u22 u23 u24 u25 u26 u27 u28 u29 u30 u31 u32 u33 u34 u35 u36 u37 u38 u39 u40 u41 u42 u43 u44 u45 u46 u47 u48 u49 u50 u51 u52 u53 u54 u55 u56 u57 u58 u59 u60 u61 u62 u63 u64 u65 u66 u67 u68 u69 u70 u71 u72 u73 u74 u75 u76 u77 u78 u79 u80 u81 u82 u83 u84 u85 u86 u87 u88 u89 u90 u91 u92 u93 u94 u95 u96 u97 u98 u99 u100 u101 u102 u103 u104 u105 u106 u107 u108 u109 u110 u111 u112 u113 u114 u115 u116 u117 u118 u119 u120 u121 u122 u123 u124 u125 u126 u127 u128 u129 u130 u131 u132 u133 u134 u135 u136 u137 u138 u139 u140 u141 u142 u143 u144 u145 u146 u147 u148 u149 u150 u151 u152 u153 u154 u155 u156 u157 u158 u159 u160 u161 u162 u163 u164 u165 u166 u167 u168 u169 u170 u171 u172 u173 u174 u175 u176 u177 u178 u179 u180 u181 u182 u183 u184 u185 u186 u187 u188 u189 u190 u191 u192 u193 u194 u195 u196 u197 u198 u199 u200 u201 u202 u203 u204 u205 u206 u207 u208 u209 u210 u211 u212 u213 u214 u215 u216 u217 u218 u219 u220 u221 u222 u223 u224 u225 u226 u227 u228 u229 u230 u231 u232 u233 u234 u235 u236 u237 u238 u239 u240 u241 u242 u243 u244 u245 u246 u247 u248 u249 u250 u251 u252 u253 u254 u255 u256 u257 u258 u259 u260 u261 u262 u263 u264 u265 u266 u267 u268 u269 u270 u271 u272 u273 u274 u275 u276 u277 u278 u279 u280 u281 u282 u283 u284 u285 u286 u287 u288 u289 u290 u291 u292 u293 u294 u295 u296 u297 u298 u299 u300 u301 u302 u303 u304 u305 u306 u307 u308 u309 u310 u311 u312 u313 u314 u315 u316 u317 u318 u319 u320 u321 u322 u323 u324 u325 u326 u327 u328 u329 u330 u331 u332 u333 u334 u335 u336 u337 u338 u339 u340 u341 u342 u343 u344 u345 u346 u347 u348 u349 u350 u351 u352 u353 u354 u355 u356 u357 u358 u359 u360 u361 : Value) (wx : World),HBEnd x k w0 d0 q wx → Q .ret ⟨List.toArray ((.pointer (some ⟨x.F,0,none⟩))::c1::u2::u3::u4::u5::u6::u7::u8::u9::c10::c11::c12::c13::c14::c15::c16::c17::u18::u19::u20::u21::u22::u23::u24::u25::u26::u27::u28::u29::u30::u31::u32::u33::u34::u35::u36::u37::u38::u39::u40::u41::u42::u43::u44::u45::u46::u47::u48::u49::u50::u51::u52::u53::u54::u55::u56::u57::u58::u59::u60::u61::u62::u63::u64::u65::u66::u67::u68::u69::u70::u71::u72::u73::u74::u75::u76::u77::u78::u79::u80::u81::u82::u83::u84::u85::u86::u87::u88::u89::u90::u91::u92::u93::u94::u95::u96::u97::u98::u99::u100::u101::u102::u103::u104::u105::u106::u107::u108::u109::u110::u111::u112::u113::u114::u115::u116::u117::u118::u119::u120::u121::u122::u123::u124::u125::u126::u127::u128::u129::u130::u131::u132::u133::u134::u135::u136::u137::u138::u139::u140::u141::u142::u143::u144::u145::u146::u147::u148::u149::u150::u151::u152::u153::u154::u155::u156::u157::u158::u159::u160::u161::u162::u163::u164::u165::u166::u167::u168::u169::u170::u171::u172::u173::u174::u175::u176::u177::u178::u179::u180::u181::u182::u183::u184::u185::u186::u187::u188::u189::u190::u191::u192::u193::u194::u195::u196::u197::u198::u199::u200::u201::u202::u203::u204::u205::u206::u207::u208::u209::u210::u211::u212::u213::u214::u215::u216::u217::u218::u219::u220::u221::u222::u223::u224::u225::u226::u227::u228::u229::u230::u231::u232::u233::u234::u235::u236::u237::u238::u239::u240::u241::u242::u243::u244::u245::u246::u247::u248::u249::u250::u251::u252::u253::u254::u255::u256::u257::u258::u259::u260::u261::u262::u263::u264::u265::u266::u267::u268::u269::u270::u271::u272::u273::u274::u275::u276::u277::u278::u279::u280::u281::u282::u283::u284::u285::u286::u287::u288::u289::u290::u291::u292::u293::u294::u295::u296::u297::u298::u299::u300::u301::u302::u303::u304::u305::u306::u307::u308::u309::u310::u311::u312::u313::u314::u315::u316::u317::u318::u319::u320::u321::u322::u323::u324::u325::u326::u327::u328::u329::u330::u331::u332::u333::u334::u335::u336::u337::u338::u339::u340::u341::u342::u343::u344::u345::u346::u347::u348::u349::u350::u351::u352::u353::u354::u355::u356::u357::u358::u359::u360::u361::[]),[]⟩ wx) :
  Code.wp Tryz.prog (lab69 0) Q ⟨List.toArray ((.pointer (some ⟨x.F,0,none⟩))::c1::c2::c3::c4::c5::c6::c7::c8::c9::c10::c11::c12::c13::c14::c15::c16::c17::c18::c19::c20::c21::c22::c23::c24::c25::c26::c27::c28::c29::c30::c31::c32::c33::c34::c35::c36::c37::c38::c39::c40::c41::c42::c43::c44::c45::c46::c47::c48::c49::c50::c51::c52::c53::c54::c55::c56::c57::c58::c59::c60::c61::c62::c63::c64::c65::c66::c67::c68::c69::c70::c71::c72::c73::c74::c75::c76::c77::c78::c79::c80::c81::c82::c83::c84::c85::c86::c87::c88::c89::c90::c91::c92::c93::c94::c95::c96::c97::c98::c99::c100::c101::c102::c103::c104::c105::c106::c107::c108::c109::c110::c111::c112::c113::c114::c115::c116::c117::c118::c119::c120::c121::c122::c123::c124::c125::c126::c127::c128::c129::c130::c131::c132::c133::c134::c135::c136::c137::c138::c139::c140::c141::c142::c143::c144::c145::c146::c147::c148::c149::c150::c151::c152::c153::c154::c155::c156::c157::c158::c159::c160::c161::c162::c163::c164::c165::c166::c167::c168::c169::c170::c171::c172::c173::c174::c175::c176::c177::c178::c179::c180::c181::c182::c183::c184::c185::c186::c187::c188::c189::c190::c191::c192::c193::c194::c195::c196::c197::c198::c199::c200::c201::c202::c203::c204::c205::c206::c207::c208::c209::c210::c211::c212::c213::c214::c215::c216::c217::c218::c219::c220::c221::c222::c223::c224::c225::c226::c227::c228::c229::c230::c231::c232::c233::c234::c235::c236::c237::c238::c239::c240::c241::c242::c243::c244::c245::c246::c247::c248::c249::c250::c251::c252::c253::c254::c255::c256::c257::c258::c259::c260::c261::c262::c263::c264::c265::c266::c267::c268::c269::c270::c271::c272::c273::c274::c275::c276::c277::c278::c279::c280::c281::c282::c283::c284::c285::c286::c287::c288::c289::c290::c291::c292::c293::c294::c295::c296::c297::c298::c299::c300::c301::c302::c303::c304::c305::c306::c307::c308::c309::c310::c311::c312::c313::c314::c315::c316::c317::c318::c319::c320::c321::c322::c323::c324::c325::c326::c327::c328::c329::c330::c331::c332::c333::c334::c335::c336::c337::c338::c339::c340::c341::c342::c343::c344::c345::c346::c347::c348::c349::c350::c351::c352::c353::c354::c355::c356::c357::c358::c359::c360::c361::[]),[]⟩ w:=by
 have HH:=Lib.hid h;have HRR:=Lib.hid hR
 obtain ⟨b1,o1,mn1,hl1,hl2,hl3⟩:=h.tabs.hl
 have ht:=h.dec.tk
 have hhl : w.cell? ⟨x.F,1050,none⟩ = some (.pointer (some ⟨b1,o1,none⟩)):=by rw [ht.blk.cell];exact hl1
 have hl15:=len_le h.tabs.glit.mem 256
 have HS:=Lib.hid (huffSym_tak (Z:=k.Y) ap (show Tak x w d (codeBits k.lit 256 ++ k.Y) w d BB p from ht) hl2 h.tabs.glit h.tabs.eob h.tabs.llen (by omega) (by omega) (by have:=h.hand;omega))
 have hcr:=ht.rdr
 have hce:=ht.ends
 have hhand:=h.hand
 clear h hR ht
 conv => arg 2;whnf
 go_wp2_with fail
 refine HS.out.mono ?_
 rintro e w1 hpost
 rcases hpost.tak ap hcr hce with ⟨d1,B1,p1,rfl,hT1,hb1⟩ | ⟨hx,rfl,d1,p1,hres,hs1,he1⟩
 ·have hB8 : B1.length < 8:=by omega
  have hW1:=HH.out.dec.w3.took ap hT1
  have hsz1 : d1.size = 1054:=by rw [hT1.same.1];exact HH.out.dec.sz
  have HF:=Lib.hid (finishBlock_any x ap w1 d1 k.fin hs wr rd full hsz1 hW1.dd hW1.lt (by rw [hT1.same.2 1047 (BM_low (by omega))];exact HH.out.fin) hT1.ends)
  have HT1:=Lib.hid hT1;have HW1:=Lib.hid hW1
  clear hpost hb1 hT1 hW1 HS
  go_wp2_with fail
  refine HF.out.mono ?_
  rintro e w2 ⟨rfl,d2,hs2,he2,h45,hfin⟩
  have HS2:=Lib.hid hs2;have HE2:=Lib.hid he2;have H45:=Lib.hid h45;have HFIN:=Lib.hid hfin
  clear hs2 he2 h45 hfin
  go_wp2_with fail
  refine HRR.out _ _ _ _ _ _ _ _ _ _ _ _ _ _ _ _ _ _ _ _ _ _ _ _ _ _ _ _ _ _ _ _ _ _ _ _ _ _ _ _ _ _ _ _ _ _ _ _ _ _ _ _ _ _ _ _ _ _ _ _ _ _ _ _ _ _ _ _ _ _ _ _ _ _ _ _ _ _ _ _ _ _ _ _ _ _ _ _ _ _ _ _ _ _ _ _ _ _ _ _ _ _ _ _ _ _ _ _ _ _ _ _ _ _ _ _ _ _ _ _ _ _ _ _ _ _ _ _ _ _ _ _ _ _ _ _ _ _ _ _ _ _ _ _ _ _ _ _ _ _ _ _ _ _ _ _ _ _ _ _ _ _ _ _ _ _ _ _ _ _ _ _ _ _ _ _ _ _ _ _ _ _ _ _ _ _ _ _ _ _ _ _ _ _ _ _ _ _ _ _ _ _ _ _ _ _ _ _ _ _ _ _ _ _ _ _ _ _ _ _ _ _ _ _ _ _ _ _ _ _ _ _ _ _ _ _ _ _ _ _ _ _ _ _ _ _ _ _ _ _ _ _ _ _ _ _ _ _ _ _ _ _ _ _ _ _ _ _ _ _ _ _ _ _ _ _ _ _ _ _ _ _ _ _ _ _ _ _ _ _ _ _ _ _ _ _ _ _ _ _ _ _ _ _ _ _ _ _ _ _ _ _ _ _ _ _ _ _ _ _ _ _ _ _ _ _ _ _ _ _ _ _ _ _ _ _ _ _ _ _ _ _ _ _ _ _ _ _ _ _ _ _ w2 ?_
  have hij : i = k.j:=HH.out.fit
  have hdd2 : Blk w2 x.F d2 147:=by
   rcases HFIN.out with ⟨_,h,_⟩ | ⟨_,_,⟨_,h,_⟩ | ⟨_,h,_⟩⟩ <;> exact h.blk
  have hT2 : Tak x w2 d2 k.Y w2 d2 B1 p1:=HT1.out.anew.wind ap hdd2 HS2.out (fun j hj => by unfold FBM;omega) (HE2.out.mono (fun _ _ e => .inl e))
  have hsm : Same HBM d0 d2:=(HH.out.same.trans (HT1.out.same.mono (fun _ e => BM_HBM e))).trans (HS2.out.mono (fun _ e => FBM_HBM e))
  have hex : Ext x.M3 w0 w2:=(HH.out.ext.trans (HT1.out.ext.mono (fun _ _ e => FM_M3 e))).trans (HE2.out.mono (fun _ _ e => .inl e))
  have hsz2 : d2.size = 1054:=by rw [HS2.out.1];exact hsz1
  have hhist : HistOk k.ok k.all k.j H:=by have:=HH.out.hist;rw [hij] at this;exact this
  have hbase : H.length + k.e = k.j + k.d:=by have:=HH.out.base;rw [hij] at this;exact this
  have herr : d1[1048]? = some .nilIface:=by rw [HT1.out.same.2 1048 (BM_low (by omega))];exact HH.out.err
  have hjs : JS d2 wr full:=HH.out.js.same (by rw [HS2.out.2 _ (by unfold FBM;omega),HT1.out.same.2 _ (BM_low (by omega))]) (by rw [HS2.out.2 _ (by unfold FBM;omega),HT1.out.same.2 _ (BM_low (by omega))]) (by rw [HS2.out.2 _ (by unfold FBM;omega),HT1.out.same.2 _ (BM_low (by omega))]) (Nat.le_refl _)
  rcases HFIN.out with ⟨f1,f2,f3,f4⟩ | ⟨f1,f2,⟨f3,f4,f5⟩ | ⟨f3,f4,f5⟩⟩
  ·exact .done ⟨hT2,⟨f2,HW1.out.win,HW1.out.lt,by unfold OutIs;rw [f4];exact HW1.out.out,HW1.out.len,HW1.out.tl⟩,hsz2⟩ hB8 hhist hbase HH.out.rest H45.out (.inl ⟨f1,rfl,by rw [f3];exact herr⟩) hsm hex hjs
  ·exact .done ⟨hT2,⟨f4,HW1.out.win,HW1.out.lt,by unfold OutIs;rw [f5];exact HW1.out.out,HW1.out.len,HW1.out.tl⟩,hsz2⟩ hB8 hhist hbase HH.out.rest H45.out (.inr ⟨f1,f3,f2⟩) hsm hex hjs
  ·obtain ⟨T,t1,t2,t3,t4⟩:=HW1.out.flush
   exact .done (T:=T) ⟨hT2,⟨f4,HW1.out.win,HW1.out.lt,.inr ⟨rd,32768 - rd,by rw [t1];exact f5,by have:=HW1.out.lt;omega,by omega,t2⟩,by omega,t3⟩,hsz2⟩ hB8 hhist hbase HH.out.rest H45.out (.inr ⟨f1,rfl,f2⟩) hsm hex hjs
 ·have hf1:=hres.blk.free
  have hsz1 : d1.size = 1054:=by rw [hs1.1];exact HH.out.dec.sz
  have hc48 : ∃ v,w1.cell? ⟨x.F,1048,none⟩ = some v:=⟨d1[1048]'(by omega),by rw [hres.blk.cell,Array.getElem?_eq_getElem]⟩
  obtain ⟨v48,hc48⟩:=hc48
  have HRES:=Lib.hid hres;have HS1:=Lib.hid hs1;have HE1:=Lib.hid he1
  clear hpost hres hs1 he1 HS
  go_wp2_with fail
  exact HRR.out _ _ _ _ _ _ _ _ _ _ _ _ _ _ _ _ _ _ _ _ _ _ _ _ _ _ _ _ _ _ _ _ _ _ _ _ _ _ _ _ _ _ _ _ _ _ _ _ _ _ _ _ _ _ _ _ _ _ _ _ _ _ _ _ _ _ _ _ _ _ _ _ _ _ _ _ _ _ _ _ _ _ _ _ _ _ _ _ _ _ _ _ _ _ _ _ _ _ _ _ _ _ _ _ _ _ _ _ _ _ _ _ _ _ _ _ _ _ _ _ _ _ _ _ _ _ _ _ _ _ _ _ _ _ _ _ _ _ _ _ _ _ _ _ _ _ _ _ _ _ _ _ _ _ _ _ _ _ _ _ _ _ _ _ _ _ _ _ _ _ _ _ _ _ _ _ _ _ _ _ _ _ _ _ _ _ _ _ _ _ _ _ _ _ _ _ _ _ _ _ _ _ _ _ _ _ _ _ _ _ _ _ _ _ _ _ _ _ _ _ _ _ _ _ _ _ _ _ _ _ _ _ _ _ _ _ _ _ _ _ _ _ _ _ _ _ _ _ _ _ _ _ _ _ _ _ _ _ _ _ _ _ _ _ _ _ _ _ _ _ _ _ _ _ _ _ _ _ _ _ _ _ _ _ _ _ _ _ _ _ _ _ _ _ _ _ _ _ _ _ _ _ _ _ _ _ _ _ _ _ _ _ _ _ _ _ _ _ _ _ _ _ _ _ _ _ _ _ _ _ _ _ _ _ _ _ _ _ _ _ _ _ _ _ _ _ _ _ _ _ _ _ _ (HBEnd.err ap HRES.out (HH.out.dec.w3.moved ap HRES.out.blk HS1.out HE1.out) hsz1 _ (.inr ⟨hx,rfl⟩) HH.out.le (HH.out.same.trans (HS1.out.mono (fun _ e => BM_HBM e))) (HH.out.ext.trans (HE1.out.mono (fun _ _ e => FM_M3 e))))
theorem tokBits_lit (lit dist : List Nat) (t : Tok) (h : t.far = 0) : tokBits lit dist t = codeBits lit t.lit:=by simp [tokBits,h]
set_option maxRecDepth 100000 in
set_option maxHeartbeats 16000000 in
theorem pass0_lit (x : Pl) (ap : Apart x) (k : Blkc) (w0 w : World) (d0 d : Array Value) (q : Nat) (H hs : List UInt8) (wr rd : Nat) (full : Bool) (BB : List Bool) (p i : Nat) (t : Tok) (ts : List Tok) (h : S0 x k w0 d0 w d q H hs wr rd full [] BB p (t::ts) i) (hfar : t.far = 0) (Q : Exit → Act → World → Prop)
  (hR : ∀ (u2 u3 u4 u5 u6 u7 u8 u9 u18 u19 u20 u21 u22 u23 u24 u25 u26 u27 u28 u29 u30 u31 u32 u33 u34 u35 u36 u37 u38 u39 u40 u41 u42 u43 u44 u45 u46 u47 u48 u49 u50 u51 u52 u53 u54 u55 u56 u57 u58 u59 u60 u61 u62 u63 u64 u65 u66 u67 u68 u69 u70 u71 u72 u73 u74 u75 u76 u77 u78 u79 u80 u81 u82 u83 u84 u85 u86 u87 u88 u89 u90 u91 u92 u93 u94 u95 u96 u97 u98 u99 u100 u101 u102 u103 u104 u105 u106 u107 u108 u109 u110 u111 u112 u113 u114 u115 u116 u117 u118 u119 u120 u121 u122 u123 u124 u125 u126 u127 u128 u129 u130 u131 u132 u133 u134 u135 u136 u137 u138 u139 u140 u141 u142 u143 u144 u145 u146 u147 u148 u149 u150 u151 u152 u153 u154 u155 u156 u157 u158 u159 u160 u161 u162 u163 u164 u165 u166 u167 u168 u169 u170 u171 u172 u173 u174 u175 u176 u177 u178 u179 u180 u181 u182 u183 u184 u185 u186 u187 u188 u189 u190 u191 u192 u193 u194 u195 u196 u197 u198 u199 u200 u201 u202 u203 u204 u205 u206 u207 u208 u209 u210 u211 u212 u213 u214 u215 u216 u217 u218 u219 u220 u221 u222 u223 u224 u225 u226 u227 u228 u229 u230 u231 u232 u233 u234 u235 u236 u237 u238 u239 u240 u241 u242 u243 u244 u245 u246 u247 u248 u249 u250 u251 u252 u253 u254 u255 u256 u257 u258 u259 u260 u261 u262 u263 u264 u265 u266 u267 u268 u269 u270 u271 u272 u273 u274 u275 u276 u277 u278 u279 u280 u281 u282 u283 u284 u285 u286 u287 u288 u289 u290 u291 u292 u293 u294 u295 u296 u297 u298 u299 u300 u301 u302 u303 u304 u305 u306 u307 u308 u309 u310 u311 u312 u313 u314 u315 u316 u317 u318 u319 u320 u321 u322 u323 u324 u325 u326 u327 u328 u329 u330 u331 u332 u333 u334 u335 u336 u337 u338 u339 u340 u341 u342 u343 u344 u345 u346 u347 u348 u349 u350 u351 u352 u353 u354 u355 u356 u357 u358 u359 u360 u361 : Value) (wx : World),HBEnd x k w0 d0 q wx → Q .ret ⟨List.toArray ((.pointer (some ⟨x.F,0,none⟩))::c1::u2::u3::u4::u5::u6::u7::u8::u9::c10::c11::c12::c13::c14::c15::c16::c17::u18::u19::u20::u21::u22::u23::u24::u25::u26::u27::u28::u29::u30::u31::u32::u33::u34::u35::u36::u37::u38::u39::u40::u41::u42::u43::u44::u45::u46::u47::u48::u49::u50::u51::u52::u53::u54::u55::u56::u57::u58::u59::u60::u61::u62::u63::u64::u65::u66::u67::u68::u69::u70::u71::u72::u73::u74::u75::u76::u77::u78::u79::u80::u81::u82::u83::u84::u85::u86::u87::u88::u89::u90::u91::u92::u93::u94::u95::u96::u97::u98::u99::u100::u101::u102::u103::u104::u105::u106::u107::u108::u109::u110::u111::u112::u113::u114::u115::u116::u117::u118::u119::u120::u121::u122::u123::u124::u125::u126::u127::u128::u129::u130::u131::u132::u133::u134::u135::u136::u137::u138::u139::u140::u141::u142::u143::u144::u145::u146::u147::u148::u149::u150::u151::u152::u153::u154::u155::u156::u157::u158::u159::u160::u161::u162::u163::u164::u165::u166::u167::u168::u169::u170::u171::u172::u173::u174::u175::u176::u177::u178::u179::u180::u181::u182::u183::u184::u185::u186::u187::u188::u189::u190::u191::u192::u193::u194::u195::u196::u197::u198::u199::u200::u201::u202::u203::u204::u205::u206::u207::u208::u209::u210::u211::u212::u213::u214::u215::u216::u217::u218::u219::u220::u221::u222::u223::u224::u225::u226::u227::u228::u229::u230::u231::u232::u233::u234::u235::u236::u237::u238::u239::u240::u241::u242::u243::u244::u245::u246::u247::u248::u249::u250::u251::u252::u253::u254::u255::u256::u257::u258::u259::u260::u261::u262::u263::u264::u265::u266::u267::u268::u269::u270::u271::u272::u273::u274::u275::u276::u277::u278::u279::u280::u281::u282::u283::u284::u285::u286::u287::u288::u289::u290::u291::u292::u293::u294::u295::u296::u297::u298::u299::u300::u301::u302::u303::u304::u305::u306::u307::u308::u309::u310::u311::u312::u313::u314::u315::u316::u317::u318::u319::u320::u321::u322::u323::u324::u325::u326::u327::u328::u329::u330::u331::u332::u333::u334::u335::u336::u337::u338::u339::u340::u341::u342::u343::u344::u345::u346::u347::u348::u349::u350::u351::u352::u353::u354::u355::u356::u357::u358::u359::u360::u361::[]),[]⟩ wx)
  (hJ : ∀ (u2 u3 u4 u5 u6 u7 u8 u9 u18 u19 u20 u21 u22 u23 u24 u25 u26 u27 u28 u29 u30 u31 u32 u33 u34 u35 u36 u37 u38 u39 u40 u41 u42 u43 u44 u45 u46 u47 u48 u49 u50 u51 u52 u53 u54 u55 u56 u57 u58 u59 u60 u61 u62 u63 u64 u65 u66 u67 u68 u69 u70 u71 u72 u73 u74 u75 u76 u77 u78 u79 u80 u81 u82 u83 u84 u85 u86 u87 u88 u89 u90 u91 u92 u93 u94 u95 u96 u97 u98 u99 u100 u101 u102 u103 u104 u105 u106 u107 u108 u109 u110 u111 u112 u113 u114 u115 u116 u117 u118 u119 u120 u121 u122 u123 u124 u125 u126 u127 u128 u129 u130 u131 u132 u133 u134 u135 u136 u137 u138 u139 u140 u141 u142 u143 u144 u145 u146 u147 u148 u149 u150 u151 u152 u153 u154 u155 u156 u157 u158 u159 u160 u161 u162 u163 u164 u165 u166 u167 u168 u169 u170 u171 u172 u173 u174 u175 u176 u177 u178 u179 u180 u181 u182 u183 u184 u185 u186 u187 u188 u189 u190 u191 u192 u193 u194 u195 u196 u197 u198 u199 u200 u201 u202 u203 u204 u205 u206 u207 u208 u209 u210 u211 u212 u213 u214 u215 u216 u217 u218 u219 u220 u221 u222 u223 u224 u225 u226 u227 u228 u229 u230 u231 u232 u233 u234 u235 u236 u237 u238 u239 u240 u241 u242 u243 u244 u245 u246 u247 u248 u249 u250 u251 u252 u253 u254 u255 u256 u257 u258 u259 u260 u261 u262 u263 u264 u265 u266 u267 u268 u269 u270 u271 u272 u273 u274 u275 u276 u277 u278 u279 u280 u281 u282 u283 u284 u285 u286 u287 u288 u289 u290 u291 u292 u293 u294 u295 u296 u297 u298 u299 u300 u301 u302 u303 u304 u305 u306 u307 u308 u309 u310 u311 u312 u313 u314 u315 u316 u317 u318 u319 u320 u321 u322 u323 u324 u325 u326 u327 u328 u329 u330 u331 u332 u333 u334 u335 u336 u337 u338 u339 u340 u341 u342 u343 u344 u345 u346 u347 u348 u349 u350 u351 u352 u353 u354 u355 u356 u357 u358 u359 u360 u361 : Value) (wx : World) (d' : Array Value) (H' hs' : List UInt8) (wr' : Nat) (B' : List Bool) (p' i' : Nat),S0 x k w0 d0 wx d' q H' hs' wr' rd full [] B' p' ts i' → Q (.goto 0) ⟨List.toArray ((.pointer (some ⟨x.F,0,none⟩))::c1::u2::u3::u4::u5::u6::u7::u8::u9::c10::c11::c12::c13::c14::c15::c16::c17::u18::u19::u20::u21::u22::u23::u24::u25::u26::u27::u28::u29::u30::u31::u32::u33::u34::u35::u36::u37::u38::u39::u40::u41::u42::u43::u44::u45::u46::u47::u48::u49::u50::u51::u52::u53::u54::u55::u56::u57::u58::u59::u60::u61::u62::u63::u64::u65::u66::u67::u68::u69::u70::u71::u72::u73::u74::u75::u76::u77::u78::u79::u80::u81::u82::u83::u84::u85::u86::u87::u88::u89::u90::u91::u92::u93::u94::u95::u96::u97::u98::u99::u100::u101::u102::u103::u104::u105::u106::u107::u108::u109::u110::u111::u112::u113::u114::u115::u116::u117::u118::u119::u120::u121::u122::u123::u124::u125::u126::u127::u128::u129::u130::u131::u132::u133::u134::u135::u136::u137::u138::u139::u140::u141::u142::u143::u144::u145::u146::u147::u148::u149::u150::u151::u152::u153::u154::u155::u156::u157::u158::u159::u160::u161::u162::u163::u164::u165::u166::u167::u168::u169::u170::u171::u172::u173::u174::u175::u176::u177::u178::u179::u180::u181::u182::u183::u184::u185::u186::u187::u188::u189::u190::u191::u192::u193::u194::u195::u196::u197::u198::u199::u200::u201::u202::u203::u204::u205::u206::u207::u208::u209::u210::u211::u212::u213::u214::u215::u216::u217::u218::u219::u220::u221::u222::u223::u224::u225::u226::u227::u228::u229::u230::u231::u232::u233::u234::u235::u236::u237::u238::u239::u240::u241::u242::u243::u244::u245::u246::u247::u248::u249::u250::u251::u252::u253::u254::u255::u256::u257::u258::u259::u260::u261::u262::u263::u264::u265::u266::u267::u268::u269::u270::u271::u272::u273::u274::u275::u276::u277::u278::u279::u280::u281::u282::u283::u284::u285::u286::u287::u288::u289::u290::u291::u292::u293::u294::u295::u296::u297::u298::u299::u300::u301::u302::u303::u304::u305::u306::u307::u308::u309::u310::u311::u312::u313::u314::u315::u316::u317::u318::u319::u320::u321::u322::u323::u324::u325::u326::u327::u328::u329::u330::u331::u332::u333::u334::u335::u336::u337::u338::u339::u340::u341::u342::u343::u344::u345::u346::u347::u348::u349::u350::u351::u352::u353::u354::u355::u356::u357::u358::u359::u360::u361::[]),[]⟩ wx) :
  Code.wp Tryz.prog (lab69 0) Q ⟨List.toArray ((.pointer (some ⟨x.F,0,none⟩))::c1::c2::c3::c4::c5::c6::c7::c8::c9::c10::c11::c12::c13::c14::c15::c16::c17::c18::c19::c20::c21::c22::c23::c24::c25::c26::c27::c28::c29::c30::c31::c32::c33::c34::c35::c36::c37::c38::c39::c40::c41::c42::c43::c44::c45::c46::c47::c48::c49::c50::c51::c52::c53::c54::c55::c56::c57::c58::c59::c60::c61::c62::c63::c64::c65::c66::c67::c68::c69::c70::c71::c72::c73::c74::c75::c76::c77::c78::c79::c80::c81::c82::c83::c84::c85::c86::c87::c88::c89::c90::c91::c92::c93::c94::c95::c96::c97::c98::c99::c100::c101::c102::c103::c104::c105::c106::c107::c108::c109::c110::c111::c112::c113::c114::c115::c116::c117::c118::c119::c120::c121::c122::c123::c124::c125::c126::c127::c128::c129::c130::c131::c132::c133::c134::c135::c136::c137::c138::c139::c140::c141::c142::c143::c144::c145::c146::c147::c148::c149::c150::c151::c152::c153::c154::c155::c156::c157::c158::c159::c160::c161::c162::c163::c164::c165::c166::c167::c168::c169::c170::c171::c172::c173::c174::c175::c176::c177::c178::c179::c180::c181::c182::c183::c184::c185::c186::c187::c188::c189::c190::c191::c192::c193::c194::c195::c196::c197::c198::c199::c200::c201::c202::c203::c204::c205::c206::c207::c208::c209::c210::c211::c212::c213::c214::c215::c216::c217::c218::c219::c220::c221::c222::c223::c224::c225::c226::c227::c228::c229::c230::c231::c232::c233::c234::c235::c236::c237::c238::c239::c240::c241::c242::c243::c244::c245::c246::c247::c248::c249::c250::c251::c252::c253::c254::c255::c256::c257::c258::c259::c260::c261::c262::c263::c264::c265::c266::c267::c268::c269::c270::c271::c272::c273::c274::c275::c276::c277::c278::c279::c280::c281::c282::c283::c284::c285::c286::c287::c288::c289::c290::c291::c292::c293::c294::c295::c296::c297::c298::c299::c300::c301::c302::c303::c304::c305::c306::c307::c308::c309::c310::c311::c312::c313::c314::c315::c316::c317::c318::c319::c320::c321::c322::c323::c324::c325::c326::c327::c328::c329::c330::c331::c332::c333::c334::c335::c336::c337::c338::c339::c340::c341::c342::c343::c344::c345::c346::c347::c348::c349::c350::c351::c352::c353::c354::c355::c356::c357::c358::c359::c360::c361::[]),[]⟩ w:=by
 have HH:=Lib.hid h;have HRR:=Lib.hid hR;have HJJ:=Lib.hid hJ
 obtain ⟨b1,o1,mn1,hl1,hl2,hl3⟩:=h.tabs.hl
 have ht:=h.dec.tk
 have hhl : w.cell? ⟨x.F,1050,none⟩ = some (.pointer (some ⟨b1,o1,none⟩)):=by rw [ht.blk.cell];exact hl1
 have hl15:=len_le h.tabs.glit.mem 256
 have hcd:=h.coded t (by simp)
 have hc0 : 0 < len k.lit t.lit:=by
  exact hcd.1 hfar
 have hbits : toksBits k.lit k.dist (t::ts) ++ (codeBits k.lit 256 ++ k.Y) = codeBits k.lit t.lit ++ (toksBits k.lit k.dist ts ++ (codeBits k.lit 256 ++ k.Y)):=by
  simp [toksBits,tokBits_lit _ _ _ hfar]
 rw [hbits] at ht
 have hv : t.lit ≤ 255:=by
  rcases h.fit.1 with ⟨_,c,_,e⟩ | ⟨e,_⟩
  ·have:=c.toNat_lt;omega
  ·omega
 have HS:=Lib.hid (huffSym_tak (mn:=mn1) ap ht hl2 h.tabs.glit hc0 h.tabs.llen (by omega) (by simp;omega) (by have:=h.hand;omega))
 have hcr:=ht.rdr
 have hce:=ht.ends
 have hhand:=h.hand
 obtain ⟨v,hve⟩ : ∃ v,t.lit = v:=⟨_,rfl⟩
 rw [hve] at HS hv hc0
 have HVE:=Lib.hid hve
 clear h hR ht hbits hcd hve hJ
 conv => arg 2;whnf
 go_wp2_with fail
 refine HS.out.mono ?_
 rintro e w1 hpost
 rcases hpost.tak ap hcr hce with ⟨d1,B1,p1,rfl,hT1,hb1⟩ | ⟨hx,rfl,d1,p1,hres,hs1,he1⟩
 ·have hB8 : B1.length < 8 + len k.lit 256:=by omega
  have hW1:=HH.out.dec.w3.took ap hT1
  have hsz1 : d1.size = 1054:=by rw [hT1.same.1];exact HH.out.dec.sz
  have hn : (UInt8.ofNat v).toNat = v:=by simp;omega
  have hWB:=writeByte_any x.F x.hb d1 hs wr rd full (UInt8.ofNat v) w1 hW1.dd hW1.lt
  rw [hn] at hWB
  have HWB:=Lib.hid hWB
  have HT1:=Lib.hid hT1;have HW1:=Lib.hid hW1;have HB8:=Lib.hid hB8
  have hv1 : (v : Int) < 256:=by omega
  have hv0 : (0 : Int) ≤ (v : Int):=by omega
  clear hpost hb1 hT1 hW1 HS hWB hn hB8
  go_wp2_with fail
  refine HWB.out.mono ?_
  rintro e w2 ⟨rfl,d2,hd2,hs2,he2⟩
  have HD2:=Lib.hid hd2;have HS2:=Lib.hid hs2;have HE2:=Lib.hid he2
  have HAV:=Lib.hid (availWrite_any x.F x.hb d2 _ _ rd full w2 hd2)
  clear hd2 hs2 he2
  go_wp2_with fail
  refine HAV.out.mono ?_
  rintro e w3 ⟨rfl,he3⟩
  have HE3:=Lib.hid he3
  clear he3
  obtain ⟨b,hb⟩ : ∃ b,UInt8.ofNat v = b:=⟨_,rfl⟩
  rw [hb] at HD2
  have hrun : t.run H = H ++ [b]:=by unfold Tok.run;rw [if_pos hfar,HVE.out,hb]
  have hstep : t.step = 1:=by unfold Tok.step;rw [if_pos hfar]
  have hht:=HH.out.hist.tok HH.out.fit.1
  rw [hrun,hstep] at hht
  have hfit:=HH.out.fit.2
  rw [hstep] at hfit
  have hwin : Win (hs.set wr b) (wr + 1) full (H ++ [b]):=HW1.out.win.byte HW1.out.lt b
  have hlen : (H ++ [b]).length = q + ((wr + 1) - rd):=by
   have:=HW1.out.len;have:=HW1.out.dd.rdle
   simp at *;omega
  have hT2 : Tak x w2 d2 (toksBits k.lit k.dist ts ++ (codeBits k.lit 256 ++ k.Y)) w2 d2 B1 p1:=HT1.out.anew.wind ap HD2.out.blk HS2.out (fun j hj => by omega) HE2.out
  have hT3:=(hT2.quiet HE3.out).anew
  have hsm : Same HBM d0 d2:=(HH.out.same.trans (HT1.out.same.mono (fun _ e => BM_HBM e))).trans (HS2.out.mono (fun j e => by unfold HBM;omega))
  have hex : Ext x.M3 w0 w3:=((HH.out.ext.trans (HT1.out.ext.mono (fun _ _ e => FM_M3 e))).trans (HE2.out.mono (fun _ _ e => by rcases e with e | e;exact .inl e;exact .inr (.inr e)))).trans (HE3.out.mono (fun _ _ e => e.elim))
  have hsz2 : d2.size = 1054:=by rw [HS2.out.1];exact hsz1
  have htabs : Tabs x w3 d2 k.lit k.dist:=((HH.out.tabs.stay HH.out.dec.tk.blk HT1.out.blk HT1.out.same (fun j a _ => BM_low a) ⟨BM_low (by omega),BM_low (by omega)⟩ HT1.out.ext (fun j hj => FM_N hj)).stay HT1.out.blk HD2.out.blk HS2.out (fun j a b => by omega) ⟨by omega,by omega⟩ HE2.out (fun j hj => by rcases hj with e | e;exact .inl e;exact .inr (.inr (.inl e)))).stay HD2.out.blk (HD2.out.blk.ext HE3.out (fun e => e)) (Same.refl (fun _ => False) d2) (fun _ _ _ e => e) ⟨fun e => e,fun e => e⟩ HE3.out (fun _ e => e.elim)
  have hfin : d2[1047]? = some (.bool k.fin):=by rw [HS2.out.2 _ (by omega),HT1.out.same.2 _ (BM_low (by omega))];exact HH.out.fin
  have herr : d2[1048]? = some .nilIface:=by rw [HS2.out.2 _ (by omega),HT1.out.same.2 _ (BM_low (by omega))];exact HH.out.err
  have hd3:=HD2.out.ext HE3.out (fun e => e) (fun e => e)
  have hbase : (H ++ [b]).length + k.e = i + 1 + k.d:=by have:=HH.out.base;simp;omega
  have hout : OutIs d2 x.hb (hs.set wr b) []:=HW1.out.out.none _ (HS2.out.2 1049 (by omega))
  rcases Nat.lt_or_ge (wr + 1) 32768 with hlt | hge
  ·have hq : (((32768 - (wr + 1) : Nat) : Int) == 0) = false:=by simp;omega
   have HS0 : Hid (S0 x k w0 d0 w3 d2 q (H ++ [b]) (hs.set wr b) (wr + 1) rd full [] B1 p1 ts (i + 1)):=Lib.hid
    ⟨⟨hT3,⟨hd3,hwin,hlt,hout,by simpa using hlen,by simp⟩,hsz2⟩,htabs,hfin,herr,HH.out.rest,hfit,fun r hr => HH.out.coded r (by simp [hr]),hht.1,hbase,HB8.out,hsm,hex,HH.out.js.same (by rw [HS2.out.2 _ (by omega),HT1.out.same.2 _ (BM_low (by omega))]) (by rw [HS2.out.2 _ (by omega),HT1.out.same.2 _ (BM_low (by omega))]) (by rw [HS2.out.2 _ (by omega),HT1.out.same.2 _ (BM_low (by omega))]) (hsize_up wr 1 full)⟩
   clear hrun hstep hht hfit hwin hlen hT2 hT3 hsm hex htabs hfin herr hd3 hbase hout
   obtain ⟨av,hav⟩ : ∃ y,32768 - (wr + 1) = y:=⟨_,rfl⟩
   rw [hav] at hq ⊢
   clear hav
   go_wp2_with fail
   refine wp_goto ?_
   exact HJJ.out _ _ _ _ _ _ _ _ _ _ _ _ _ _ _ _ _ _ _ _ _ _ _ _ _ _ _ _ _ _ _ _ _ _ _ _ _ _ _ _ _ _ _ _ _ _ _ _ _ _ _ _ _ _ _ _ _ _ _ _ _ _ _ _ _ _ _ _ _ _ _ _ _ _ _ _ _ _ _ _ _ _ _ _ _ _ _ _ _ _ _ _ _ _ _ _ _ _ _ _ _ _ _ _ _ _ _ _ _ _ _ _ _ _ _ _ _ _ _ _ _ _ _ _ _ _ _ _ _ _ _ _ _ _ _ _ _ _ _ _ _ _ _ _ _ _ _ _ _ _ _ _ _ _ _ _ _ _ _ _ _ _ _ _ _ _ _ _ _ _ _ _ _ _ _ _ _ _ _ _ _ _ _ _ _ _ _ _ _ _ _ _ _ _ _ _ _ _ _ _ _ _ _ _ _ _ _ _ _ _ _ _ _ _ _ _ _ _ _ _ _ _ _ _ _ _ _ _ _ _ _ _ _ _ _ _ _ _ _ _ _ _ _ _ _ _ _ _ _ _ _ _ _ _ _ _ _ _ _ _ _ _ _ _ _ _ _ _ _ _ _ _ _ _ _ _ _ _ _ _ _ _ _ _ _ _ _ _ _ _ _ _ _ _ _ _ _ _ _ _ _ _ _ _ _ _ _ _ _ _ _ _ _ _ _ _ _ _ _ _ _ _ _ _ _ _ _ _ _ _ _ _ _ _ _ _ _ _ _ _ _ _ _ _ _ _ _ _ _ _ _ _ w3 d2 _ _ _ B1 p1 _ HS0.out
  ·have hwe : wr + 1 = 32768:=by have:=HW1.out.lt;omega
   have hq : (((32768 - (wr + 1) : Nat) : Int) == 0) = true:=by simp;omega
   have hrd:=HW1.out.dd.rdle
   have HR:=Lib.hid (readFlush_any x.F x.hb d2 (hs.set wr b) (wr + 1) rd full w3 hd3 (by have:=HW1.out.lt;omega))
   obtain ⟨av,hav⟩ : ∃ y,32768 - (wr + 1) = y:=⟨_,rfl⟩
   rw [hav] at hq ⊢
   obtain ⟨fl,hfl⟩ : ∃ y,wr + 1 - rd = y:=⟨_,rfl⟩
   have HFL:=Lib.hid hfl
   have hfl1 : 1 ≤ fl:=by omega
   have HWIN:=Lib.hid hwin;have HLEN:=Lib.hid hlen;have HT3:=Lib.hid hT3;have HSM:=Lib.hid hsm;have HEXX:=Lib.hid hex;have HTABS:=Lib.hid htabs;have HFIN:=Lib.hid hfin;have HERR:=Lib.hid herr;have HBASE:=Lib.hid hbase;have HHT:=Lib.hid hht;have HFIT:=Lib.hid hfit
   clear hav hfl hrun hstep hht hfit hwin hlen hT2 hT3 hsm hex htabs hfin herr hd3 hbase hout
   go_wp2_with fail
   refine HR.out.mono ?_
   rintro e w4 ⟨d4,rfl,hd4,hs4,he4⟩
   rw [HFL.out]
   have hsz4 : d4.size = 1054:=by rw [hs4.1];exact hsz2
   have hb4:=hd4.blk
   have hfr4:=hb4.free
   have hc49 : ∃ v,w4.cell? ⟨x.F,1049,none⟩ = some v:=⟨d4[1049]'(by omega),by rw [hb4.cell,Array.getElem?_eq_getElem]⟩
   have hc45 : ∃ v,w4.cell? ⟨x.F,1045,none⟩ = some v:=⟨d4[1045]'(by omega),by rw [hb4.cell,Array.getElem?_eq_getElem]⟩
   have hc46 : ∃ v,w4.cell? ⟨x.F,1046,none⟩ = some v:=⟨d4[1046]'(by omega),by rw [hb4.cell,Array.getElem?_eq_getElem]⟩
   obtain ⟨y49,hc49⟩:=hc49
   obtain ⟨y45,hc45⟩:=hc45
   obtain ⟨y46,hc46⟩:=hc46
   have HD4:=Lib.hid hd4;have HS4:=Lib.hid hs4;have HE4:=Lib.hid he4
   clear hd4 hs4 he4 hb4
   go_wp2_with fail
   refine HRR.out _ _ _ _ _ _ _ _ _ _ _ _ _ _ _ _ _ _ _ _ _ _ _ _ _ _ _ _ _ _ _ _ _ _ _ _ _ _ _ _ _ _ _ _ _ _ _ _ _ _ _ _ _ _ _ _ _ _ _ _ _ _ _ _ _ _ _ _ _ _ _ _ _ _ _ _ _ _ _ _ _ _ _ _ _ _ _ _ _ _ _ _ _ _ _ _ _ _ _ _ _ _ _ _ _ _ _ _ _ _ _ _ _ _ _ _ _ _ _ _ _ _ _ _ _ _ _ _ _ _ _ _ _ _ _ _ _ _ _ _ _ _ _ _ _ _ _ _ _ _ _ _ _ _ _ _ _ _ _ _ _ _ _ _ _ _ _ _ _ _ _ _ _ _ _ _ _ _ _ _ _ _ _ _ _ _ _ _ _ _ _ _ _ _ _ _ _ _ _ _ _ _ _ _ _ _ _ _ _ _ _ _ _ _ _ _ _ _ _ _ _ _ _ _ _ _ _ _ _ _ _ _ _ _ _ _ _ _ _ _ _ _ _ _ _ _ _ _ _ _ _ _ _ _ _ _ _ _ _ _ _ _ _ _ _ _ _ _ _ _ _ _ _ _ _ _ _ _ _ _ _ _ _ _ _ _ _ _ _ _ _ _ _ _ _ _ _ _ _ _ _ _ _ _ _ _ _ _ _ _ _ _ _ _ _ _ _ _ _ _ _ _ _ _ _ _ _ _ _ _ _ _ _ _ _ _ _ _ _ _ _ _ _ _ _ _ _ _ _ _ _ _ _ ?_
   obtain ⟨T,wr5,fu5,t1,t2,t3,hW5⟩:=flushed_w3 (st:=0) HD4.out hsz4 HWIN.out (by omega) HLEN.out
   rw [HFL.out] at hW5 t1
   have hTk:=(((HT3.out.wind ap HD4.out.blk HS4.out (fun j hj => by omega) (HE4.out.mono (fun _ _ e => .inl e))).setF ap (k:=1049) (.slice (some ⟨x.hb,rd,none⟩) fl (32768 - rd)) (by omega)).setF ap (k:=1045) (fnV 69) (by omega)).setF ap (k:=1046) (.int .i64 0) (by omega)
   have hs5 : Same (fun j => j = 1038 ∨ j = 1039 ∨ j = 1040 ∨ j = 1045 ∨ j = 1046 ∨ j = 1049) d2 (((d4.setIfInBounds 1049 (.slice (some ⟨x.hb,rd,none⟩) fl (32768 - rd))).setIfInBounds 1045 (fnV 69)).setIfInBounds 1046 (.int .i64 0)) :=
    (((HS4.out.mono (fun j h => by omega)).set (by omega) _).set (by omega) _).set (by omega) _
   have he5 : Ext (fun j => j = x.F) w3 (((w4.setCell ⟨x.F,1049,none⟩ (.slice (some ⟨x.hb,rd,none⟩) fl (32768 - rd))).setCell ⟨x.F,1045,none⟩ (fnV 69)).setCell ⟨x.F,1046,none⟩ (.int .i64 0)):=((HE4.out.only _).only _).only _
   refine .toks (T:=T) ⟨⟨hTk,hW5,by simp;exact hsz4⟩,HTABS.out.stay HT3.out.blk hTk.blk hs5 (fun j a b => by omega) ⟨by omega,by omega⟩ he5 (fun _ e => .inl e),by rw [hs5.2 _ (by omega)];exact HFIN.out,by rw [hs5.2 _ (by omega)];exact HERR.out,HH.out.rest,HFIT.out,fun r hr => HH.out.coded r (by simp [hr]),HHT.out.1,HBASE.out,HB8.out,
    HSM.out.trans (hs5.mono (fun j h => by unfold HBM;omega)),HEXX.out.trans (he5.mono (fun _ _ e => .inl e)),.inl (set_eq _ (by simp;omega))⟩ (fun e => by rw [e] at t1;simp at t1;omega) (by rw [set_ne _ _ (by decide)];exact set_eq _ (by simp;omega)) (set_eq _ (by simp;omega))
 ·have hf1:=hres.blk.free
  have hsz1 : d1.size = 1054:=by rw [hs1.1];exact HH.out.dec.sz
  have hc48 : ∃ v,w1.cell? ⟨x.F,1048,none⟩ = some v:=⟨d1[1048]'(by omega),by rw [hres.blk.cell,Array.getElem?_eq_getElem]⟩
  obtain ⟨v48,hc48⟩:=hc48
  have HRES:=Lib.hid hres;have HS1:=Lib.hid hs1;have HE1:=Lib.hid he1
  clear hpost hres hs1 he1 HS
  go_wp2_with fail
  exact HRR.out _ _ _ _ _ _ _ _ _ _ _ _ _ _ _ _ _ _ _ _ _ _ _ _ _ _ _ _ _ _ _ _ _ _ _ _ _ _ _ _ _ _ _ _ _ _ _ _ _ _ _ _ _ _ _ _ _ _ _ _ _ _ _ _ _ _ _ _ _ _ _ _ _ _ _ _ _ _ _ _ _ _ _ _ _ _ _ _ _ _ _ _ _ _ _ _ _ _ _ _ _ _ _ _ _ _ _ _ _ _ _ _ _ _ _ _ _ _ _ _ _ _ _ _ _ _ _ _ _ _ _ _ _ _ _ _ _ _ _ _ _ _ _ _ _ _ _ _ _ _ _ _ _ _ _ _ _ _ _ _ _ _ _ _ _ _ _ _ _ _ _ _ _ _ _ _ _ _ _ _ _ _ _ _ _ _ _ _ _ _ _ _ _ _ _ _ _ _ _ _ _ _ _ _ _ _ _ _ _ _ _ _ _ _ _ _ _ _ _ _ _ _ _ _ _ _ _ _ _ _ _ _ _ _ _ _ _ _ _ _ _ _ _ _ _ _ _ _ _ _ _ _ _ _ _ _ _ _ _ _ _ _ _ _ _ _ _ _ _ _ _ _ _ _ _ _ _ _ _ _ _ _ _ _ _ _ _ _ _ _ _ _ _ _ _ _ _ _ _ _ _ _ _ _ _ _ _ _ _ _ _ _ _ _ _ _ _ _ _ _ _ _ _ _ _ _ _ _ _ _ _ _ _ _ _ _ _ _ _ _ _ _ _ _ _ _ _ _ _ _ _ _ _ (HBEnd.err ap HRES.out (HH.out.dec.w3.moved ap HRES.out.blk HS1.out HE1.out) hsz1 _ (.inr ⟨hx,rfl⟩) HH.out.le (HH.out.same.trans (HS1.out.mono (fun _ e => BM_HBM e))) (HH.out.ext.trans (HE1.out.mono (fun _ _ e => FM_M3 e))))
end Go.Proofs.YthpapbilhjobnaaGreatDoor
namespace Go.Proofs.YthpapbilhjobnaaGreatDoor
open Go.RowKit Pu
theorem letters (g : Nat → Value) : (List.range 361).map g = [g 0,g 1,g 2,g 3,g 4,g 5,g 6,g 7,g 8,g 9,g 10,g 11,g 12,g 13,g 14,g 15,g 16,g 17,g 18,g 19,g 20,g 21,g 22,g 23,g 24,g 25,g 26,g 27,g 28,g 29,g 30,g 31,g 32,g 33,g 34,g 35,g 36,g 37,g 38,g 39,g 40,g 41,g 42,g 43,g 44,g 45,g 46,g 47,g 48,g 49,g 50,g 51,g 52,g 53,g 54,g 55,g 56,g 57,g 58,g 59,g 60,g 61,g 62,g 63,g 64,g 65,g 66,g 67,g 68,g 69,g 70,g 71,g 72,g 73,g 74,g 75,g 76,g 77,g 78,g 79,g 80,g 81,g 82,g 83,g 84,g 85,g 86,g 87,g 88,g 89,g 90,g 91,g 92,g 93,g 94,g 95,g 96,g 97,g 98,g 99,g 100,g 101,g 102,g 103,g 104,g 105,g 106,g 107,g 108,g 109,g 110,g 111,g 112,g 113,g 114,g 115,g 116,g 117,g 118,g 119,g 120,g 121,g 122,g 123,g 124,g 125,g 126,g 127,g 128,g 129,g 130,g 131,g 132,g 133,g 134,g 135,g 136,g 137,g 138,g 139,g 140,g 141,g 142,g 143,g 144,g 145,g 146,g 147,g 148,g 149,g 150,g 151,g 152,g 153,g 154,g 155,g 156,g 157,g 158,g 159,g 160,g 161,g 162,g 163,g 164,g 165,g 166,g 167,g 168,g 169,g 170,g 171,g 172,g 173,g 174,g 175,g 176,g 177,g 178,g 179,g 180,g 181,g 182,g 183,g 184,g 185,g 186,g 187,g 188,g 189,g 190,g 191,g 192,g 193,g 194,g 195,g 196,g 197,g 198,g 199,g 200,g 201,g 202,g 203,g 204,g 205,g 206,g 207,g 208,g 209,g 210,g 211,g 212,g 213,g 214,g 215,g 216,g 217,g 218,g 219,g 220,g 221,g 222,g 223,g 224,g 225,g 226,g 227,g 228,g 229,g 230,g 231,g 232,g 233,g 234,g 235,g 236,g 237,g 238,g 239,g 240,g 241,g 242,g 243,g 244,g 245,g 246,g 247,g 248,g 249,g 250,g 251,g 252,g 253,g 254,g 255,g 256,g 257,g 258,g 259,g 260,g 261,g 262,g 263,g 264,g 265,g 266,g 267,g 268,g 269,g 270,g 271,g 272,g 273,g 274,g 275,g 276,g 277,g 278,g 279,g 280,g 281,g 282,g 283,g 284,g 285,g 286,g 287,g 288,g 289,g 290,g 291,g 292,g 293,g 294,g 295,g 296,g 297,g 298,g 299,g 300,g 301,g 302,g 303,g 304,g 305,g 306,g 307,g 308,g 309,g 310,g 311,g 312,g 313,g 314,g 315,g 316,g 317,g 318,g 319,g 320,g 321,g 322,g 323,g 324,g 325,g 326,g 327,g 328,g 329,g 330,g 331,g 332,g 333,g 334,g 335,g 336,g 337,g 338,g 339,g 340,g 341,g 342,g 343,g 344,g 345,g 346,g 347,g 348,g 349,g 350,g 351,g 352,g 353,g 354,g 355,g 356,g 357,g 358,g 359,g 360]:=by kernel_rfl
theorem letters_of (L : List Value) (h : L.length = 361) : ∃ g : Nat → Value,L = [g 0,g 1,g 2,g 3,g 4,g 5,g 6,g 7,g 8,g 9,g 10,g 11,g 12,g 13,g 14,g 15,g 16,g 17,g 18,g 19,g 20,g 21,g 22,g 23,g 24,g 25,g 26,g 27,g 28,g 29,g 30,g 31,g 32,g 33,g 34,g 35,g 36,g 37,g 38,g 39,g 40,g 41,g 42,g 43,g 44,g 45,g 46,g 47,g 48,g 49,g 50,g 51,g 52,g 53,g 54,g 55,g 56,g 57,g 58,g 59,g 60,g 61,g 62,g 63,g 64,g 65,g 66,g 67,g 68,g 69,g 70,g 71,g 72,g 73,g 74,g 75,g 76,g 77,g 78,g 79,g 80,g 81,g 82,g 83,g 84,g 85,g 86,g 87,g 88,g 89,g 90,g 91,g 92,g 93,g 94,g 95,g 96,g 97,g 98,g 99,g 100,g 101,g 102,g 103,g 104,g 105,g 106,g 107,g 108,g 109,g 110,g 111,g 112,g 113,g 114,g 115,g 116,g 117,g 118,g 119,g 120,g 121,g 122,g 123,g 124,g 125,g 126,g 127,g 128,g 129,g 130,g 131,g 132,g 133,g 134,g 135,g 136,g 137,g 138,g 139,g 140,g 141,g 142,g 143,g 144,g 145,g 146,g 147,g 148,g 149,g 150,g 151,g 152,g 153,g 154,g 155,g 156,g 157,g 158,g 159,g 160,g 161,g 162,g 163,g 164,g 165,g 166,g 167,g 168,g 169,g 170,g 171,g 172,g 173,g 174,g 175,g 176,g 177,g 178,g 179,g 180,g 181,g 182,g 183,g 184,g 185,g 186,g 187,g 188,g 189,g 190,g 191,g 192,g 193,g 194,g 195,g 196,g 197,g 198,g 199,g 200,g 201,g 202,g 203,g 204,g 205,g 206,g 207,g 208,g 209,g 210,g 211,g 212,g 213,g 214,g 215,g 216,g 217,g 218,g 219,g 220,g 221,g 222,g 223,g 224,g 225,g 226,g 227,g 228,g 229,g 230,g 231,g 232,g 233,g 234,g 235,g 236,g 237,g 238,g 239,g 240,g 241,g 242,g 243,g 244,g 245,g 246,g 247,g 248,g 249,g 250,g 251,g 252,g 253,g 254,g 255,g 256,g 257,g 258,g 259,g 260,g 261,g 262,g 263,g 264,g 265,g 266,g 267,g 268,g 269,g 270,g 271,g 272,g 273,g 274,g 275,g 276,g 277,g 278,g 279,g 280,g 281,g 282,g 283,g 284,g 285,g 286,g 287,g 288,g 289,g 290,g 291,g 292,g 293,g 294,g 295,g 296,g 297,g 298,g 299,g 300,g 301,g 302,g 303,g 304,g 305,g 306,g 307,g 308,g 309,g 310,g 311,g 312,g 313,g 314,g 315,g 316,g 317,g 318,g 319,g 320,g 321,g 322,g 323,g 324,g 325,g 326,g 327,g 328,g 329,g 330,g 331,g 332,g 333,g 334,g 335,g 336,g 337,g 338,g 339,g 340,g 341,g 342,g 343,g 344,g 345,g 346,g 347,g 348,g 349,g 350,g 351,g 352,g 353,g 354,g 355,g 356,g 357,g 358,g 359,g 360]:=by
 refine ⟨fun i => L.getD i .nilIface,?_⟩
 have : L = (List.range 361).map (fun i => L.getD i .nilIface):=by
  refine List.ext_getElem (by simp [h]) ?_
  intro n h1 h2
  simp [h1]
 exact this.trans (letters _)
def J69 (x : Pl) (k : Blkc) (w0 : World) (d0 : Array Value) (q n l : Nat) (a : Act) (w : World) : Prop :=
 ∃ L : List Value,a = ⟨List.toArray (.pointer (some ⟨x.F,0,none⟩)::L),[]⟩ ∧ L.length = 361 ∧ ∃ (d : Array Value) (H hs : List UInt8) (wr rd : Nat) (full : Bool) (BB : List Bool) (p : Nat) (ts : List Tok) (i : Nat),
  (l = 0 ∧ n = 2 * ts.length ∧ S0 x k w0 d0 w d q H hs wr rd full [] BB p ts i) ∨
  (∃ far m,l = 1 ∧ n = 2 * ts.length + 1 ∧ S1 x k w0 d0 w d q H hs wr rd full [] BB p ts i far m)
set_option maxRecDepth 100000 in
set_option maxHeartbeats 8000000 in
theorem pass69 (x : Pl) (ap : Apart x) (k : Blkc) (w0 : World) (d0 : Array Value) (q : Nat) (Q : Exit → Act → World → Prop) (hQ : ∀ a w,a.defers = [] → HBEnd x k w0 d0 q w → Q .ret a w) (n l : Nat) (a : Act) (w : World) (h : J69 x k w0 d0 q n l a w) :
  ∃ rest,findLabel sc69 l = some rest ∧ rest.wp Tryz.prog (jumps (fun l' a' w' => ∃ n',n' < n ∧ J69 x k w0 d0 q n' l' a' w') Q) a w:=by
 rcases h with ⟨L,rfl,hL,d,H,hs,wr,rd,full,BB,p,ts,i,⟨rfl,rfl,h⟩ | ⟨far,m,rfl,rfl,h⟩⟩
 ·obtain ⟨g,rfl⟩:=letters_of L hL
  refine ⟨lab69 0,lab0,?_⟩
  cases ts with
  | nil => exact pass0_end x ap k w0 w d0 d q H hs wr rd full BB p i h _ (fun (u2 u3 u4 u5 u6 u7 u8 u9 u18 u19 u20 u21 u22 u23 u24 u25 u26 u27 u28 u29 u30 u31 u32 u33 u34 u35 u36 u37 u38 u39 u40 u41 u42 u43 u44 u45 u46 u47 u48 u49 u50 u51 u52 u53 u54 u55 u56 u57 u58 u59 u60 u61 u62 u63 u64 u65 u66 u67 u68 u69 u70 u71 u72 u73 u74 u75 u76 u77 u78 u79 u80 u81 u82 u83 u84 u85 u86 u87 u88 u89 u90 u91 u92 u93 u94 u95 u96 u97 u98 u99 u100 u101 u102 u103 u104 u105 u106 u107 u108 u109 u110 u111 u112 u113 u114 u115 u116 u117 u118 u119 u120 u121 u122 u123 u124 u125 u126 u127 u128 u129 u130 u131 u132 u133 u134 u135 u136 u137 u138 u139 u140 u141 u142 u143 u144 u145 u146 u147 u148 u149 u150 u151 u152 u153 u154 u155 u156 u157 u158 u159 u160 u161 u162 u163 u164 u165 u166 u167 u168 u169 u170 u171 u172 u173 u174 u175 u176 u177 u178 u179 u180 u181 u182 u183 u184 u185 u186 u187 u188 u189 u190 u191 u192 u193 u194 u195 u196 u197 u198 u199 u200 u201 u202 u203 u204 u205 u206 u207 u208 u209 u210 u211 u212 u213 u214 u215 u216 u217 u218 u219 u220 u221 u222 u223 u224 u225 u226 u227 u228 u229 u230 u231 u232 u233 u234 u235 u236 u237 u238 u239 u240 u241 u242 u243 u244 u245 u246 u247 u248 u249 u250 u251 u252 u253 u254 u255 u256 u257 u258 u259 u260 u261 u262 u263 u264 u265 u266 u267 u268 u269 u270 u271 u272 u273 u274 u275 u276 u277 u278 u279 u280 u281 u282 u283 u284 u285 u286 u287 u288 u289 u290 u291 u292 u293 u294 u295 u296 u297 u298 u299 u300 u301 u302 u303 u304 u305 u306 u307 u308 u309 u310 u311 u312 u313 u314 u315 u316 u317 u318 u319 u320 u321 u322 u323 u324 u325 u326 u327 u328 u329 u330 u331 u332 u333 u334 u335 u336 u337 u338 u339 u340 u341 u342 u343 u344 u345 u346 u347 u348 u349 u350 u351 u352 u353 u354 u355 u356 u357 u358 u359 u360 u361 : Value) wx h' => hQ _ _ rfl h')
  | cons t ts =>
   by_cases hf : t.far = 0
   ·exact pass0_lit x ap k w0 w d0 d q H hs wr rd full BB p i t ts h hf _ (fun (u2 u3 u4 u5 u6 u7 u8 u9 u18 u19 u20 u21 u22 u23 u24 u25 u26 u27 u28 u29 u30 u31 u32 u33 u34 u35 u36 u37 u38 u39 u40 u41 u42 u43 u44 u45 u46 u47 u48 u49 u50 u51 u52 u53 u54 u55 u56 u57 u58 u59 u60 u61 u62 u63 u64 u65 u66 u67 u68 u69 u70 u71 u72 u73 u74 u75 u76 u77 u78 u79 u80 u81 u82 u83 u84 u85 u86 u87 u88 u89 u90 u91 u92 u93 u94 u95 u96 u97 u98 u99 u100 u101 u102 u103 u104 u105 u106 u107 u108 u109 u110 u111 u112 u113 u114 u115 u116 u117 u118 u119 u120 u121 u122 u123 u124 u125 u126 u127 u128 u129 u130 u131 u132 u133 u134 u135 u136 u137 u138 u139 u140 u141 u142 u143 u144 u145 u146 u147 u148 u149 u150 u151 u152 u153 u154 u155 u156 u157 u158 u159 u160 u161 u162 u163 u164 u165 u166 u167 u168 u169 u170 u171 u172 u173 u174 u175 u176 u177 u178 u179 u180 u181 u182 u183 u184 u185 u186 u187 u188 u189 u190 u191 u192 u193 u194 u195 u196 u197 u198 u199 u200 u201 u202 u203 u204 u205 u206 u207 u208 u209 u210 u211 u212 u213 u214 u215 u216 u217 u218 u219 u220 u221 u222 u223 u224 u225 u226 u227 u228 u229 u230 u231 u232 u233 u234 u235 u236 u237 u238 u239 u240 u241 u242 u243 u244 u245 u246 u247 u248 u249 u250 u251 u252 u253 u254 u255 u256 u257 u258 u259 u260 u261 u262 u263 u264 u265 u266 u267 u268 u269 u270 u271 u272 u273 u274 u275 u276 u277 u278 u279 u280 u281 u282 u283 u284 u285 u286 u287 u288 u289 u290 u291 u292 u293 u294 u295 u296 u297 u298 u299 u300 u301 u302 u303 u304 u305 u306 u307 u308 u309 u310 u311 u312 u313 u314 u315 u316 u317 u318 u319 u320 u321 u322 u323 u324 u325 u326 u327 u328 u329 u330 u331 u332 u333 u334 u335 u336 u337 u338 u339 u340 u341 u342 u343 u344 u345 u346 u347 u348 u349 u350 u351 u352 u353 u354 u355 u356 u357 u358 u359 u360 u361 : Value) wx h' => hQ _ _ rfl h') (fun (u2 u3 u4 u5 u6 u7 u8 u9 u18 u19 u20 u21 u22 u23 u24 u25 u26 u27 u28 u29 u30 u31 u32 u33 u34 u35 u36 u37 u38 u39 u40 u41 u42 u43 u44 u45 u46 u47 u48 u49 u50 u51 u52 u53 u54 u55 u56 u57 u58 u59 u60 u61 u62 u63 u64 u65 u66 u67 u68 u69 u70 u71 u72 u73 u74 u75 u76 u77 u78 u79 u80 u81 u82 u83 u84 u85 u86 u87 u88 u89 u90 u91 u92 u93 u94 u95 u96 u97 u98 u99 u100 u101 u102 u103 u104 u105 u106 u107 u108 u109 u110 u111 u112 u113 u114 u115 u116 u117 u118 u119 u120 u121 u122 u123 u124 u125 u126 u127 u128 u129 u130 u131 u132 u133 u134 u135 u136 u137 u138 u139 u140 u141 u142 u143 u144 u145 u146 u147 u148 u149 u150 u151 u152 u153 u154 u155 u156 u157 u158 u159 u160 u161 u162 u163 u164 u165 u166 u167 u168 u169 u170 u171 u172 u173 u174 u175 u176 u177 u178 u179 u180 u181 u182 u183 u184 u185 u186 u187 u188 u189 u190 u191 u192 u193 u194 u195 u196 u197 u198 u199 u200 u201 u202 u203 u204 u205 u206 u207 u208 u209 u210 u211 u212 u213 u214 u215 u216 u217 u218 u219 u220 u221 u222 u223 u224 u225 u226 u227 u228 u229 u230 u231 u232 u233 u234 u235 u236 u237 u238 u239 u240 u241 u242 u243 u244 u245 u246 u247 u248 u249 u250 u251 u252 u253 u254 u255 u256 u257 u258 u259 u260 u261 u262 u263 u264 u265 u266 u267 u268 u269 u270 u271 u272 u273 u274 u275 u276 u277 u278 u279 u280 u281 u282 u283 u284 u285 u286 u287 u288 u289 u290 u291 u292 u293 u294 u295 u296 u297 u298 u299 u300 u301 u302 u303 u304 u305 u306 u307 u308 u309 u310 u311 u312 u313 u314 u315 u316 u317 u318 u319 u320 u321 u322 u323 u324 u325 u326 u327 u328 u329 u330 u331 u332 u333 u334 u335 u336 u337 u338 u339 u340 u341 u342 u343 u344 u345 u346 u347 u348 u349 u350 u351 u352 u353 u354 u355 u356 u357 u358 u359 u360 u361 : Value) wx d' H' hs' wr' B' p' i' h' => ⟨2 * ts.length,by simp only [List.length_cons];omega,_,rfl,by kernel_rfl,d',H',hs',wr',rd,full,B',p',ts,i',.inl ⟨rfl,rfl,h'⟩⟩)
   ·exact pass0_copy x ap k w0 w d0 d q H hs wr rd full BB p i t ts h hf _ (fun (u2 u3 u4 u5 u6 u7 u8 u9 u18 u19 u20 u21 u22 u23 u24 u25 u26 u27 u28 u29 u30 u31 u32 u33 u34 u35 u36 u37 u38 u39 u40 u41 u42 u43 u44 u45 u46 u47 u48 u49 u50 u51 u52 u53 u54 u55 u56 u57 u58 u59 u60 u61 u62 u63 u64 u65 u66 u67 u68 u69 u70 u71 u72 u73 u74 u75 u76 u77 u78 u79 u80 u81 u82 u83 u84 u85 u86 u87 u88 u89 u90 u91 u92 u93 u94 u95 u96 u97 u98 u99 u100 u101 u102 u103 u104 u105 u106 u107 u108 u109 u110 u111 u112 u113 u114 u115 u116 u117 u118 u119 u120 u121 u122 u123 u124 u125 u126 u127 u128 u129 u130 u131 u132 u133 u134 u135 u136 u137 u138 u139 u140 u141 u142 u143 u144 u145 u146 u147 u148 u149 u150 u151 u152 u153 u154 u155 u156 u157 u158 u159 u160 u161 u162 u163 u164 u165 u166 u167 u168 u169 u170 u171 u172 u173 u174 u175 u176 u177 u178 u179 u180 u181 u182 u183 u184 u185 u186 u187 u188 u189 u190 u191 u192 u193 u194 u195 u196 u197 u198 u199 u200 u201 u202 u203 u204 u205 u206 u207 u208 u209 u210 u211 u212 u213 u214 u215 u216 u217 u218 u219 u220 u221 u222 u223 u224 u225 u226 u227 u228 u229 u230 u231 u232 u233 u234 u235 u236 u237 u238 u239 u240 u241 u242 u243 u244 u245 u246 u247 u248 u249 u250 u251 u252 u253 u254 u255 u256 u257 u258 u259 u260 u261 u262 u263 u264 u265 u266 u267 u268 u269 u270 u271 u272 u273 u274 u275 u276 u277 u278 u279 u280 u281 u282 u283 u284 u285 u286 u287 u288 u289 u290 u291 u292 u293 u294 u295 u296 u297 u298 u299 u300 u301 u302 u303 u304 u305 u306 u307 u308 u309 u310 u311 u312 u313 u314 u315 u316 u317 u318 u319 u320 u321 u322 u323 u324 u325 u326 u327 u328 u329 u330 u331 u332 u333 u334 u335 u336 u337 u338 u339 u340 u341 u342 u343 u344 u345 u346 u347 u348 u349 u350 u351 u352 u353 u354 u355 u356 u357 u358 u359 u360 u361 : Value) wx h' => hQ _ _ rfl h') (fun (u2 u3 u4 u5 u6 u7 u8 u9 u18 u19 u20 u21 u22 u23 u24 u25 u26 u27 u28 u29 u30 u31 u32 u33 u34 u35 u36 u37 u38 u39 u40 u41 u42 u43 u44 u45 u46 u47 u48 u49 u50 u51 u52 u53 u54 u55 u56 u57 u58 u59 u60 u61 u62 u63 u64 u65 u66 u67 u68 u69 u70 u71 u72 u73 u74 u75 u76 u77 u78 u79 u80 u81 u82 u83 u84 u85 u86 u87 u88 u89 u90 u91 u92 u93 u94 u95 u96 u97 u98 u99 u100 u101 u102 u103 u104 u105 u106 u107 u108 u109 u110 u111 u112 u113 u114 u115 u116 u117 u118 u119 u120 u121 u122 u123 u124 u125 u126 u127 u128 u129 u130 u131 u132 u133 u134 u135 u136 u137 u138 u139 u140 u141 u142 u143 u144 u145 u146 u147 u148 u149 u150 u151 u152 u153 u154 u155 u156 u157 u158 u159 u160 u161 u162 u163 u164 u165 u166 u167 u168 u169 u170 u171 u172 u173 u174 u175 u176 u177 u178 u179 u180 u181 u182 u183 u184 u185 u186 u187 u188 u189 u190 u191 u192 u193 u194 u195 u196 u197 u198 u199 u200 u201 u202 u203 u204 u205 u206 u207 u208 u209 u210 u211 u212 u213 u214 u215 u216 u217 u218 u219 u220 u221 u222 u223 u224 u225 u226 u227 u228 u229 u230 u231 u232 u233 u234 u235 u236 u237 u238 u239 u240 u241 u242 u243 u244 u245 u246 u247 u248 u249 u250 u251 u252 u253 u254 u255 u256 u257 u258 u259 u260 u261 u262 u263 u264 u265 u266 u267 u268 u269 u270 u271 u272 u273 u274 u275 u276 u277 u278 u279 u280 u281 u282 u283 u284 u285 u286 u287 u288 u289 u290 u291 u292 u293 u294 u295 u296 u297 u298 u299 u300 u301 u302 u303 u304 u305 u306 u307 u308 u309 u310 u311 u312 u313 u314 u315 u316 u317 u318 u319 u320 u321 u322 u323 u324 u325 u326 u327 u328 u329 u330 u331 u332 u333 u334 u335 u336 u337 u338 u339 u340 u341 u342 u343 u344 u345 u346 u347 u348 u349 u350 u351 u352 u353 u354 u355 u356 u357 u358 u359 u360 u361 : Value) wx d' B' p' i' h' => ⟨2 * ts.length + 1,by simp only [List.length_cons];omega,_,rfl,by kernel_rfl,d',H,hs,wr,rd,full,B',p',ts,i',.inr ⟨t.far,t.long,rfl,rfl,h'⟩⟩)
 ·obtain ⟨g,rfl⟩:=letters_of L hL
  refine ⟨lab69 1,lab1,?_⟩
  exact pass1 x ap k w0 w d0 d q H hs wr rd full BB p i far m ts h _ (fun (u9 u303 u304 u305 u306 u307 u308 u309 u310 u311 u312 u313 u314 u315 u316 u317 u318 u319 u320 u321 u322 u323 u324 u325 u326 u327 u328 u329 u330 u331 u332 u333 u334 u335 u336 u337 u338 u339 u340 u341 u342 u343 u344 u345 u346 u347 u348 u349 u350 u351 u352 u353 u354 u355 u356 u357 u358 u359 u360 u361 : Value) wx h' => hQ _ _ rfl h') (fun (u9 u303 u304 u305 u306 u307 u308 u309 u310 u311 u312 u313 u314 u315 u316 u317 u318 u319 u320 u321 u322 u323 u324 u325 u326 u327 u328 u329 u330 u331 u332 u333 u334 u335 u336 u337 u338 u339 u340 u341 u342 u343 u344 u345 u346 u347 u348 u349 u350 u351 u352 u353 u354 u355 u356 u357 u358 u359 u360 u361 : Value) wx d' H' hs' wr' B' p' i' h' => ⟨2 * ts.length,by omega,_,rfl,by kernel_rfl,d',H',hs',wr',rd,full,B',p',ts,i',.inl ⟨rfl,rfl,h'⟩⟩)
set_option maxRecDepth 100000 in
set_option maxHeartbeats 8000000 in
theorem huffBlock_any (x : Pl) (ap : Apart x) (k : Blkc) (w0 w : World) (d0 d : Array Value) (q : Nat) (H hs : List UInt8) (wr rd : Nat) (full : Bool) (BB : List Bool) (p : Nat) (ts : List Tok) (i : Nat)
  (h : (S0 x k w0 d0 w d q H hs wr rd full [] BB p ts i ∧ d[1046]? = some (.int .i64 0)) ∨ (∃ far m,S1 x k w0 d0 w d q H hs wr rd full [] BB p ts i far m ∧ d[1046]? = some (.int .i64 1))) :
  Calls Tryz.prog 69 #[.pointer (some ⟨x.F,0,none⟩)] w fun e w' => e = .returned (.tuple #[]) ∧ HBEnd x k w0 d0 q w':=by
 rcases h with ⟨h1,h2⟩ | ⟨far,m,h1,h2⟩
 ·have hc : w.cell? ⟨x.F,1046,none⟩ = some (.int .i64 0):=by rw [h1.dec.tk.blk.cell];exact h2
  have HH:=Lib.hid h1
  clear h1 h2
  go_enter Tryz.func69,Tryz.ntmps69
  refine wp_scope_all (c:=sc69) (J69 x k w0 d0 q) ?_ ?_
  ·conv => arg 2;whnf
   go_wp2_with fail
   refine wp_goto ?_
   exact ⟨_,_,rfl,by kernel_rfl,d,H,hs,wr,rd,full,BB,p,ts,i,.inl ⟨rfl,rfl,HH.out⟩⟩
  ·refine pass69 x ap k w0 d0 q _ ?_
   intro a w' hd hh
   exact ⟨hd,.tuple #[],by kernel_rfl,rfl,hh⟩
 ·have hc : w.cell? ⟨x.F,1046,none⟩ = some (.int .i64 1):=by rw [h1.dec.tk.blk.cell];exact h2
  have HH:=Lib.hid h1
  clear h1 h2
  go_enter Tryz.func69,Tryz.ntmps69
  refine wp_scope_all (c:=sc69) (J69 x k w0 d0 q) ?_ ?_
  ·conv => arg 2;whnf
   go_wp2_with fail
   refine wp_goto ?_
   exact ⟨_,_,rfl,by kernel_rfl,d,H,hs,wr,rd,full,BB,p,ts,i,.inr ⟨far,m,rfl,rfl,HH.out⟩⟩
  ·refine pass69 x ap k w0 d0 q _ ?_
   intro a w' hd hh
   exact ⟨hd,.tuple #[],by kernel_rfl,rfl,hh⟩
end Go.Proofs.YthpapbilhjobnaaGreatDoor
namespace Go.Proofs.YthpapbilhjobnaaGreatDoor
open Go.RowKit Pu
variable {c0 c1 c2 c3 c4 c5 c6 c7 c8 c9 c10 c11 c12 c13 c14 c15 c16 c17 c18 c19 c20 c21 c22 c23 c24 c25 c26 c27 c28 c29 c30 c31 c32 c33 c34 c35 c36 c37 c38 c39 c40 c41 c42 c43 c44 c45 c46 c47 c48 c49 c50 c51 c52 c53 c54 c55 c56 c57 c58 c59 c60 c61 c62 c63 c64 c65 c66 c67 c68 c69 c70 c71 c72 c73 c74 c75 c76 c77 c78 c79 c80 c81 c82 c83 c84 c85 c86 c87 c88 c89 c90 c91 c92 c93 c94 c95 c96 c97 c98 c99 c100 c101 c102 c103 c104 c105 c106 c107 c108 c109 c110 c111 c112 c113 c114 c115 c116 c117 c118 c119 c120 c121 c122 c123 c124 c125 c126 c127 c128 c129 c130 c131 c132 c133 c134 c135 c136 c137 c138 c139 c140 c141 c142 c143 c144 c145 c146 c147 c148 c149 c150 c151 c152 c153 c154 c155 c156 c157 c158 c159 c160 c161 c162 c163 c164 c165 c166 c167 c168 c169 c170 c171 c172 c173 c174 c175 c176 c177 c178 c179 c180 c181 c182 c183 c184 c185 c186 c187 c188 c189 c190 c191 c192 c193 c194 c195 c196 c197 c198 c199 c200 c201 c202 c203 c204 c205 c206 c207 c208 c209 c210 c211 c212 c213 c214 c215 c216 c217 c218 c219 c220 c221 c222 c223 c224 c225 c226 c227 c228 c229 c230 c231 c232 c233 c234 c235 c236 c237 c238 c239 c240 c241 c242 c243 c244 c245 c246 c247 c248 c249 c250 c251 c252 c253 c254 c255 c256 c257 c258 c259 c260 c261 c262 c263 c264 c265 c266 c267 c268 c269 c270 c271 c272 c273 c274 c275 c276 c277 c278 c279 c280 c281 c282 c283 c284 c285 c286 c287 c288 c289 c290 c291 c292 c293 c294 c295 c296 c297 c298 c299 c300 c301 c302 c303 c304 c305 c306 c307 c308 c309 c310 c311 c312 c313 c314 c315 c316 : Value}
structure TB (w : World) (hb ho : Nat) (t : TypeId) (b11 : Nat) (c0 c : Array Value) (lens : List Nat) (k : Nat) (ch : Nat → Nat) (lk : Nat → Nat → Nat) (Lb : Nat) (g : Nat → Nat) : Prop where
 blk : Blk w hb c t
 same : Same (fun k => ho ≤ k ∧ k < ho + 515) c0 c
 min : c[ho]? = some (.int .i64 (mnOf lens))
 chh : CH c ho ch
 lkc : ∃ a n k,c[ho + 513]? = some (.slice a n k)
 mkc : ∃ k : Int,c[ho + 514]? = some (.int .u32 k)
 long : 9 < mxOf lens → LinkTo ch (linkOf lens) (linkOf lens + k) ∧ c[ho + 513]? = some (.slice (some ⟨Lb,0,none⟩) (512 - linkOf lens) (512 - linkOf lens)) ∧ c[ho + 514]? = some (.int .u32 ((2 ^ (mxOf lens - 9) - 1 : Nat) : Int)) ∧ b11 < Lb ∧
  (∃ L,Blk w Lb L 174 ∧ L.size = 512 - linkOf lens ∧ ∀ v,v < k → L[v]? = some (.slice (some ⟨g v,0,none⟩) (2 ^ (mxOf lens - 9)) (2 ^ (mxOf lens - 9)))) ∧
  (∀ v,v < k → Lb < g v ∧ (∀ u,u < k → g u = g v → u = v) ∧ Blk w (g v) (arw (2 ^ (mxOf lens - 9)) (lk v)) 36)
theorem Tryz.info174 : (Tryz.prog.info? 174).map (fun i => (i.zero,i.size,i.bytes)) = some (some (.slice none 0 0),1,24):=by kernel_rfl
theorem Tryz.info36 : (Tryz.prog.info? 36).map (fun i => (i.zero,i.size,i.bytes)) = some (some (.int .u32 0),1,4):=by kernel_rfl
theorem made_arw (n : Nat) : madeCells #[Value.int .u32 0] n = arw n (fun _ => 0):=by
 apply Array.ext'
 rw [toList_madeCells_one]
 simp [arw,List.map_const']
theorem TB.ext {w w' : World} {hb ho : Nat} {t : TypeId} {b11 : Nat} {c0 c : Array Value} {lens : List Nat} {k : Nat} {ch : Nat → Nat} {lk : Nat → Nat → Nat} {Lb : Nat} {g : Nat → Nat} (h : TB w hb ho t b11 c0 c lens k ch lk Lb g) {M : Nat → Prop} (he : Ext M w w') (h1 : ¬ M hb) (h2 : ∀ k,b11 < k → ¬ M k) :
  TB w' hb ho t b11 c0 c lens k ch lk Lb g:=by
 refine ⟨h.blk.ext he h1,h.same,h.min,h.chh,h.lkc,h.mkc,fun h9 => ?_⟩
 obtain ⟨hl1,hl2,hl3,hl4,⟨L,hl5,hl6,hl7⟩,hl8⟩:=h.long h9
 refine ⟨hl1,hl2,hl3,hl4,⟨L,hl5.ext he (h2 _ hl4),hl6,hl7⟩,fun v hv => ?_⟩
 obtain ⟨a,b,d⟩:=hl8 v hv
 exact ⟨a,b,d.ext he (h2 _ (Nat.lt_trans hl4 a))⟩
theorem TB.link {w w' : World} {hb ho : Nat} {t : TypeId} {b11 : Nat} {c0 c : Array Value} {lens : List Nat} {k : Nat} {ch : Nat → Nat} {Lb : Nat} {g : Nat → Nat} (h : TB w hb ho t b11 c0 c lens k ch (fun _ _ => 0) Lb g) (h9 : 9 < mxOf lens) (hg : Pu.Good lens) (hk : k < 512 - linkOf lens) (hbL : hb < Lb)
  (hw : w' = (((w.setCell ⟨hb,ho + 1 + rev9 (linkOf lens + k),none⟩ (.int .u32 ((k : Int) * 16 + 10))).setCell ⟨Lb,k,none⟩ (.slice (some ⟨w.heap.size,0,none⟩) (2 ^ (mxOf lens - 9)) (2 ^ (mxOf lens - 9)))).alloc (.cells (arw (2 ^ (mxOf lens - 9)) (fun _ => 0)) 36)).drew) :
  ∃ c' ch' g',TB w' hb ho t b11 c0 c' lens (k + 1) ch' (fun _ _ => 0) Lb g':=by
 obtain ⟨hl1,hl2,hl3,hl4,⟨L,hl5,hl6,hl7⟩,hl8⟩:=h.long h9
 have hr:=rev9_lt (linkOf lens + k)
 have hlk:=linkOf_le hg h9
 have hsz:=get_lt (h.chh _ hr)
 have hbl:=h.blk.lt
 have hLl:=hl5.lt
 have hG : ∀ v,v < k → g v < w.heap.size:=fun v hv => (hl8 v hv).2.2.lt
 rw [show ((k : Int) * 16 + 10) = ((k * 16 + 10 : Nat) : Int) by omega] at hw
 subst hw
 refine ⟨c.setIfInBounds (ho + 1 + rev9 (linkOf lens + k)) (.int .u32 ((k * 16 + 10 : Nat) : Int)),fun x => if x = rev9 (linkOf lens + k) then k * 16 + 10 else ch x,fun v => if v = k then w.heap.size else g v,?_,?_,?_,?_,?_,?_,fun _ => ⟨?_,?_,?_,hl4,⟨L.setIfInBounds k (.slice (some ⟨w.heap.size,0,none⟩) (2 ^ (mxOf lens - 9)) (2 ^ (mxOf lens - 9))),?_,by simpa using hl6,?_⟩,?_⟩⟩
 ·exact (((h.blk.set _ _).setOther _ _ (Nat.ne_of_lt hbL)).alloc _).drew
 ·exact h.same.set (by omega) _
 ·rw [set_ne _ _ (by omega)];exact h.min
 ·exact h.chh.set hr (fun x _ => rfl)
 ·obtain ⟨a,n,k,e⟩:=h.lkc
  exact ⟨a,n,k,by rw [set_ne _ _ (by omega)];exact e⟩
 ·obtain ⟨k,e⟩:=h.mkc
  exact ⟨k,by rw [set_ne _ _ (by omega)];exact e⟩
 ·intro p hp1 hp2
  by_cases e : p = linkOf lens + k
  ·subst e
   refine Eq.trans (if_pos rfl) (by omega)
  ·refine Eq.trans (if_neg (fun e2 => e (rev9_inj (by omega) (by omega) e2))) ?_
   exact hl1 p hp1 (by omega)
 ·rw [set_ne _ _ (by omega)];exact hl2
 ·rw [set_ne _ _ (by omega)];exact hl3
 ·exact (((hl5.setOther _ _ (Nat.ne_of_gt hbL)).set k _).alloc _).drew
 ·intro v hv
  by_cases e : v = k
  ·subst e
   rw [Array.getElem?_setIfInBounds,if_pos rfl,if_pos (by omega),if_pos rfl]
  ·rw [Array.getElem?_setIfInBounds,if_neg (Ne.symm e),if_neg e]
   exact hl7 v (by omega)
 ·intro v hv
  by_cases e : v = k
  ·subst e
   simp only [if_true]
   refine ⟨hLl,fun u hu hgu => ?_,?_⟩
   ·by_cases e2 : u = v
    ·exact e2
    ·rw [if_neg e2] at hgu
     have:=hG u (by omega)
     omega
   ·have:=Blk.new ((w.setCell ⟨hb,ho + 1 + rev9 (linkOf lens + v),none⟩ (.int .u32 ((v * 16 + 10 : Nat) : Int))).setCell ⟨Lb,v,none⟩ (.slice (some ⟨w.heap.size,0,none⟩) (2 ^ (mxOf lens - 9)) (2 ^ (mxOf lens - 9)))) (arw (2 ^ (mxOf lens - 9)) (fun _ => 0)) 36
    have hz : ((w.setCell ⟨hb,ho + 1 + rev9 (linkOf lens + v),none⟩ (.int .u32 ((v * 16 + 10 : Nat) : Int))).setCell ⟨Lb,v,none⟩ (.slice (some ⟨w.heap.size,0,none⟩) (2 ^ (mxOf lens - 9)) (2 ^ (mxOf lens - 9)))).heap.size = w.heap.size:=by simp [World.setCell]
    rw [hz] at this
    exact this.drew
  ·simp only [if_neg e]
   obtain ⟨a1,a2,a3⟩:=hl8 v (by omega)
   have:=hG v (by omega)
   refine ⟨a1,fun u hu hgu => ?_,(((a3.setOther _ _ ?_).setOther _ _ ?_).alloc _).drew⟩
   ·by_cases e2 : u = k
    ·rw [if_pos e2] at hgu;omega
    ·rw [if_neg e2] at hgu
     exact a2 u (by omega) hgu
   ·exact Nat.ne_of_gt (Nat.lt_trans hbL a1)
   ·exact Nat.ne_of_gt a1
set_option maxRecDepth 100000 in
set_option maxHeartbeats 4000000 in
theorem init_links (hb ho nk L0 : Nat) (t : TypeId) (b11 : Nat) (c0 c : Array Value) (lens : List Nat) (ch : Nat → Nat) (Lb : Nat) (g : Nat → Nat) (w : World) (h : TB w hb ho t b11 c0 c lens 0 ch (fun _ _ => 0) Lb g)
  (hL0 : linkOf lens = L0) (hg : Pu.Good lens) (h9 : 9 < mxOf lens) (hnk : 2 ^ (mxOf lens - 9) = nk) (hbL : hb < Lb) (Q : Exit → Act → World → Prop)
  (hK : ∀ (u15 u16 u17 u127 u128 u129 u130 u131 u132 u133 u134 u135 u136 u137 u138 u139 u140 u141 u142 u143 u144 u145 u146 u147 u148 u149 u150 u151 u152 u153 u154 u155 u156 u157 u158 u159 u160 u161 u162 u163 u164 u165 u166 u167 : Value) (wx : World),(∃ c ch g,TB wx hb ho t b11 c0 c lens (512 - linkOf lens) ch (fun _ _ => 0) Lb g) → Ext (fun k => k = hb ∨ k = Lb) w wx → Q .normal ⟨List.toArray ((.pointer (some ⟨hb,ho,none⟩))::c1::c2::c3::c4::c5::c6::c7::c8::c9::c10::c11::c12::(.int .i64 nk)::(.int .i64 L0)::u15::u16::u17::c18::c19::c20::c21::c22::c23::c24::c25::c26::c27::c28::c29::c30::c31::c32::c33::c34::c35::c36::c37::c38::c39::c40::c41::c42::c43::c44::c45::c46::c47::c48::c49::c50::c51::c52::c53::c54::c55::c56::c57::c58::c59::c60::c61::c62::c63::c64::c65::c66::c67::c68::c69::c70::c71::c72::c73::c74::c75::c76::c77::c78::c79::c80::c81::c82::c83::c84::c85::c86::c87::c88::c89::c90::c91::c92::c93::c94::c95::c96::c97::c98::c99::c100::c101::c102::c103::c104::c105::c106::c107::c108::c109::c110::c111::c112::c113::c114::c115::c116::c117::c118::c119::c120::c121::c122::c123::c124::c125::c126::u127::u128::u129::u130::u131::u132::u133::u134::u135::u136::u137::u138::u139::u140::u141::u142::u143::u144::u145::u146::u147::u148::u149::u150::u151::u152::u153::u154::u155::u156::u157::u158::u159::u160::u161::u162::u163::u164::u165::u166::u167::c168::c169::c170::c171::c172::c173::c174::c175::c176::c177::c178::c179::c180::c181::c182::c183::c184::c185::c186::c187::c188::c189::c190::c191::c192::c193::c194::c195::c196::c197::c198::c199::c200::c201::c202::c203::c204::c205::c206::c207::c208::c209::c210::c211::c212::c213::c214::c215::c216::c217::c218::c219::c220::c221::c222::c223::c224::c225::c226::c227::c228::c229::c230::c231::c232::c233::c234::c235::c236::c237::c238::c239::c240::c241::c242::c243::c244::c245::c246::c247::c248::c249::c250::c251::c252::c253::c254::c255::c256::c257::c258::c259::c260::c261::c262::c263::c264::c265::c266::c267::c268::c269::c270::c271::c272::c273::c274::c275::c276::c277::c278::c279::c280::c281::c282::c283::c284::c285::c286::c287::c288::c289::c290::c291::c292::c293::c294::c295::c296::c297::c298::c299::c300::c301::c302::c303::c304::c305::c306::c307::c308::c309::c310::c311::c312::c313::c314::c315::c316::[]),[]⟩ wx) :
  Code.wp Tryz.prog (blk75 4) Q ⟨List.toArray ((.pointer (some ⟨hb,ho,none⟩))::c1::c2::c3::c4::c5::c6::c7::c8::c9::c10::c11::c12::(.int .i64 nk)::(.int .i64 L0)::(.int .u64 L0)::c16::c17::c18::c19::c20::c21::c22::c23::c24::c25::c26::c27::c28::c29::c30::c31::c32::c33::c34::c35::c36::c37::c38::c39::c40::c41::c42::c43::c44::c45::c46::c47::c48::c49::c50::c51::c52::c53::c54::c55::c56::c57::c58::c59::c60::c61::c62::c63::c64::c65::c66::c67::c68::c69::c70::c71::c72::c73::c74::c75::c76::c77::c78::c79::c80::c81::c82::c83::c84::c85::c86::c87::c88::c89::c90::c91::c92::c93::c94::c95::c96::c97::c98::c99::c100::c101::c102::c103::c104::c105::c106::c107::c108::c109::c110::c111::c112::c113::c114::c115::c116::c117::c118::c119::c120::c121::c122::c123::c124::c125::c126::c127::c128::c129::c130::c131::c132::c133::c134::c135::c136::c137::c138::c139::c140::c141::c142::c143::c144::c145::c146::c147::c148::c149::c150::c151::c152::c153::c154::c155::c156::c157::c158::c159::c160::c161::c162::c163::c164::c165::c166::c167::c168::c169::c170::c171::c172::c173::c174::c175::c176::c177::c178::c179::c180::c181::c182::c183::c184::c185::c186::c187::c188::c189::c190::c191::c192::c193::c194::c195::c196::c197::c198::c199::c200::c201::c202::c203::c204::c205::c206::c207::c208::c209::c210::c211::c212::c213::c214::c215::c216::c217::c218::c219::c220::c221::c222::c223::c224::c225::c226::c227::c228::c229::c230::c231::c232::c233::c234::c235::c236::c237::c238::c239::c240::c241::c242::c243::c244::c245::c246::c247::c248::c249::c250::c251::c252::c253::c254::c255::c256::c257::c258::c259::c260::c261::c262::c263::c264::c265::c266::c267::c268::c269::c270::c271::c272::c273::c274::c275::c276::c277::c278::c279::c280::c281::c282::c283::c284::c285::c286::c287::c288::c289::c290::c291::c292::c293::c294::c295::c296::c297::c298::c299::c300::c301::c302::c303::c304::c305::c306::c307::c308::c309::c310::c311::c312::c313::c314::c315::c316::[]),[]⟩ w:=by
 have h15:=mxOf_le lens 15 hg.mem
 have hnk2 : 1 ≤ nk ∧ nk ≤ 64:=by
  rw [← hnk]
  exact ⟨Nat.two_pow_pos _,Nat.le_trans (Nat.pow_le_pow_right (by omega) (show mxOf lens - 9 ≤ 6 by omega)) (by decide)⟩
 have hl5 : L0 < 512:=by rw [← hL0];exact linkOf_le hg h9
 have H:=Lib.hid h;have HL0:=Lib.hid hL0;have HG:=Lib.hid hg;have H9:=Lib.hid h9;have HNK:=Lib.hid hnk;have HKK:=Lib.hid hK
 clear h hL0 hg h9 hnk h15 hK
 conv => arg 2;whnf
 go_wp2_with fail
 obtain ⟨k0,hk0⟩ : ∃ k,512 - L0 = k:=⟨_,rfl⟩
 have HK0:=Lib.hid hk0
 clear hk0
 go_loopg [15] k0 (fun k s15 wx => ∃ (j : Nat) (c : Array Value) (ch g : Nat → Nat),s15 = .int .u64 j ∧ L0 ≤ j ∧ j ≤ 512 ∧ TB wx hb ho t b11 c0 c lens (j - L0) ch (fun _ _ => 0) Lb g ∧ Ext (fun k => k = hb ∨ k = Lb) w wx ∧ k = 512 - j)
 case atStart => exact ⟨L0,c,ch,g,rfl,Nat.le_refl _,by omega,by rw [Nat.sub_self];exact H.out,Ext.refl _ _,HK0.out.symm⟩
 case round =>
  obtain ⟨j,c,ch,g,rfl,hj1,hj2,htb,hex,hk⟩:=hrel
  obtain ⟨wo,rfl⟩ : ∃ wo : World,wo = wr:=⟨_,rfl⟩
  have HTB:=Lib.hid htb;have HEX:=Lib.hid hex;have HK:=Lib.hid hk
  clear htb hex hk
  rcases Nat.lt_or_ge j 512 with hlt | hge
  ·obtain ⟨hl1,hl2,hl3,hl4,⟨L,hl5,hl6,hl7⟩,hl8⟩:=HTB.out.long H9.out
   obtain ⟨nl,hnl⟩ : ∃ x,512 - L0 = x:=⟨_,rfl⟩
   have hfr:=HTB.out.blk.free
   have hfl:=hl5.free
   have hcl : wo.cell? ⟨hb,ho + 513,none⟩ = some (.slice (some ⟨Lb,0,none⟩) nl nl):=by rw [HTB.out.blk.cell,hl2,HL0.out,hnl]
   obtain ⟨rv,hrv⟩ : ∃ x,rev9 j = x:=⟨_,rfl⟩
   have hrvl : rv < 512:=by rw [← hrv];exact rev9_lt j
   obtain ⟨rw_,hrw⟩ : ∃ x,val (msb j 16) = x:=⟨_,rfl⟩
   have hrwl : rw_ < 65536:=by rw [← hrw];have:=val_lt (msb j 16);simpa using this
   have hrs : rw_ / 128 = rv:=by
    rw [← hrw,← hrv]
    exact rev_shift (c:=j) (n:=9) (by omega) (by omega)
   have hrs2 : (rw_ : Int) / 128 = (rv : Int):=by omega
   have hrc:=HTB.out.chh rv hrvl
   have hcr : wo.cell? ⟨hb,ho + 1 + rv,none⟩ = some (.int .u32 (ch rv)):=by rw [HTB.out.blk.cell];exact hrc
   obtain ⟨off,hoff⟩ : ∃ x,j - L0 = x:=⟨_,rfl⟩
   have hoff2 : (j : Int) - (L0 : Int) = (off : Int):=by omega
   have hoffl : off < nl:=by omega
   have hor : bits BinOp.or IntKind.u64 ((off : Int) * 16) 10 = ((off * 16 + 10 : Nat) : Int):=by
    have:=u64_or_nat (off * 16) 10 (by omega) (by omega)
    rw [nat_join 4 (off * 16) 10 (by omega) (by omega)] at this
    rw [← this];simp
   have hcL : ∃ v,wo.cell? ⟨Lb,off,none⟩ = some v:=by
    refine ⟨L[off]'(by rw [hl6,HL0.out,hnl];exact hoffl),?_⟩
    rw [hl5.cell];simp
   obtain ⟨vL,hcL⟩:=hcL
   have hRv:=reverse16_any j (by omega)
   rw [hrw] at hRv
   have HRV:=Lib.hid hRv
   have HRW:=Lib.hid hrw;have HRVV:=Lib.hid hrv;have HOFF:=Lib.hid hoff;have HNL:=Lib.hid hnl
   have hjl : (j : Int) < 512:=by omega
   clear hrw hrv hrs hoff hrc hRv hl1 hl2 hl3 hl4 hl5 hl6 hl7 hl8 hnl
   go_wp2_with fail
   refine (HRV.out _).mono ?_
   rintro e wa ⟨rfl,hea⟩
   have hcl1:=hea.cellSome (fun e => e) hcl
   have hcr1:=hea.cellSome (fun e => e) hcr
   have hcL1:=hea.cellSome (fun e => e) hcL
   have hmk:=run_make_row' (P:=Tryz.prog) 174 36 (.int .u32 0) 4 Tryz.underlying174 Tryz.info36 rfl .i64 .i64 nk (by omega) (by omega)
   have htba:=HTB.out
   have HA:=Lib.hid hea
   have hLs : Lb < wa.heap.size:=World.block_lt_of_cell? _ _ hcL1
   have hbs : hb < wa.heap.size:=World.block_lt_of_cell? _ _ hcl1
   have hne1 : ¬ hb = Lb:=by omega
   have hne2 : ¬ Lb = hb:=by omega
   have hfr1 : ∀ i,wa.frozen? ⟨hb,i,none⟩ = false:=fun i => by rw [hea.frozen (World.block_lt_of_cell? _ _ hcl) (fun e => e)];exact hfr i
   have hfl1 : ∀ i,wa.frozen? ⟨Lb,i,none⟩ = false:=fun i => by rw [hea.frozen (World.block_lt_of_cell? _ _ hcL) (fun e => e)];exact hfl i
   clear hcl hcr hcL hfr hfl hea htba
   go_wp2_with fail
   go_region
   go_wp2_with fail
   rw [made_arw]
   go_roundg (512 - (j + 1))
   case measure => have:=HK.out;omega
   case rel =>
    have hTa:=HTB.out.ext HA.out (fun e => e) (fun _ _ e => e)
    rw [HOFF.out] at hTa
    have hj : linkOf lens + off = j:=by have:=HL0.out;have:=HOFF.out;omega
    obtain ⟨c',ch',g',hT⟩:=hTa.link H9.out HG.out (by have:=HL0.out;have:=HNL.out;omega) hbL (by rw [hj,HRVV.out,HNK.out])
    refine ⟨j + 1,c',ch',g',by go_num,by omega,by omega,?_,?_,rfl⟩
    ·rw [show j + 1 - L0 = off + 1 by have:=HOFF.out;omega]
     exact hT
    ·exact HEX.out.trans' (M':=fun k => k = hb ∨ k = Lb) ((((((Ext.refl (fun k => k = hb ∨ k = Lb) wo).trans (HA.out.mono (fun _ _ e => e.elim))).setCell (p:=⟨hb,ho + 1 + rv,none⟩) (fun _ => .inl rfl) _).setCell (p:=⟨Lb,off,none⟩) (fun _ => .inr rfl) _).alloc _).drew) (fun _ _ e => e)
  ·go_wp2_with fail
   refine HKK.out _ _ _ _ _ _ _ _ _ _ _ _ _ _ _ _ _ _ _ _ _ _ _ _ _ _ _ _ _ _ _ _ _ _ _ _ _ _ _ _ _ _ _ _ _ ⟨c,ch,g,?_⟩ HEX.out
   have hj : j = 512:=by omega
   have:=HTB.out
   rw [hj] at this
   rw [HL0.out]
   exact this
end Go.Proofs.YthpapbilhjobnaaGreatDoor
namespace Go.Proofs.YthpapbilhjobnaaGreatDoor
open Go.RowKit Pu
variable {c0 c1 c2 c3 c4 c5 c6 c7 c8 c9 c10 c11 c12 c13 c14 c15 c16 c17 c18 c19 c20 c21 c22 c23 c24 c25 c26 c27 c28 c29 c30 c31 c32 c33 c34 c35 c36 c37 c38 c39 c40 c41 c42 c43 c44 c45 c46 c47 c48 c49 c50 c51 c52 c53 c54 c55 c56 c57 c58 c59 c60 c61 c62 c63 c64 c65 c66 c67 c68 c69 c70 c71 c72 c73 c74 c75 c76 c77 c78 c79 c80 c81 c82 c83 c84 c85 c86 c87 c88 c89 c90 c91 c92 c93 c94 c95 c96 c97 c98 c99 c100 c101 c102 c103 c104 c105 c106 c107 c108 c109 c110 c111 c112 c113 c114 c115 c116 c117 c118 c119 c120 c121 c122 c123 c124 c125 c126 c127 c128 c129 c130 c131 c132 c133 c134 c135 c136 c137 c138 c139 c140 c141 c142 c143 c144 c145 c146 c147 c148 c149 c150 c151 c152 c153 c154 c155 c156 c157 c158 c159 c160 c161 c162 c163 c164 c165 c166 c167 c168 c169 c170 c171 c172 c173 c174 c175 c176 c177 c178 c179 c180 c181 c182 c183 c184 c185 c186 c187 c188 c189 c190 c191 c192 c193 c194 c195 c196 c197 c198 c199 c200 c201 c202 c203 c204 c205 c206 c207 c208 c209 c210 c211 c212 c213 c214 c215 c216 c217 c218 c219 c220 c221 c222 c223 c224 c225 c226 c227 c228 c229 c230 c231 c232 c233 c234 c235 c236 c237 c238 c239 c240 c241 c242 c243 c244 c245 c246 c247 c248 c249 c250 c251 c252 c253 c254 c255 c256 c257 c258 c259 c260 c261 c262 c263 c264 c265 c266 c267 c268 c269 c270 c271 c272 c273 c274 c275 c276 c277 c278 c279 c280 c281 c282 c283 c284 c285 c286 c287 c288 c289 c290 c291 c292 c293 c294 c295 c296 c297 c298 c299 c300 c301 c302 c303 c304 c305 c306 c307 c308 c309 c310 c311 c312 c313 c314 c315 c316 : Value}
set_option maxRecDepth 100000 in
set_option maxHeartbeats 4000000 in
theorem init_count (b5 lb lo lcap n : Nat) (lens : List Nat) (w : World) (hn : lens.length = n) (hn2 : n ≤ 320) (h15 : ∀ n ∈ lens,n ≤ 15) (hL : ∀ j x,(lens.map IV)[j]? = some x → w.cell? ⟨lb,lo + j,none⟩ = some x) (hb : Blk w b5 (arr 16 (fun _ => 0)) 172) (hne : lb ≠ b5)
  (Q : Exit → Act → World → Prop)
  (hK : ∀ (u6 u7 u9 u44 u45 u46 u47 u48 u49 u50 u51 u52 u53 u54 u55 u56 u57 u58 u59 u60 u61 u62 u63 u64 u65 u66 u67 : Value) (wx : World),u6 = .int .i64 (mnOf lens) → u7 = .int .i64 (mxOf lens) → Blk wx b5 (arr 16 (cnt lens)) 172 → Ext (fun k => k = b5) w wx → Q .normal ⟨List.toArray (c0::c1::c2::c3::c4::(.pointer (some ⟨b5,0,none⟩))::u6::u7::c8::u9::c10::c11::c12::c13::c14::c15::c16::c17::c18::c19::c20::c21::c22::c23::c24::c25::c26::c27::c28::c29::c30::c31::c32::c33::c34::c35::c36::c37::c38::c39::c40::c41::(.slice (some ⟨lb,lo,none⟩) n lcap)::(.int .i64 n)::u44::u45::u46::u47::u48::u49::u50::u51::u52::u53::u54::u55::u56::u57::u58::u59::u60::u61::u62::u63::u64::u65::u66::u67::c68::c69::c70::c71::c72::c73::c74::c75::c76::c77::c78::c79::c80::c81::c82::c83::c84::c85::c86::c87::c88::c89::c90::c91::c92::c93::c94::c95::c96::c97::c98::c99::c100::c101::c102::c103::c104::c105::c106::c107::c108::c109::c110::c111::c112::c113::c114::c115::c116::c117::c118::c119::c120::c121::c122::c123::c124::c125::c126::c127::c128::c129::c130::c131::c132::c133::c134::c135::c136::c137::c138::c139::c140::c141::c142::c143::c144::c145::c146::c147::c148::c149::c150::c151::c152::c153::c154::c155::c156::c157::c158::c159::c160::c161::c162::c163::c164::c165::c166::c167::c168::c169::c170::c171::c172::c173::c174::c175::c176::c177::c178::c179::c180::c181::c182::c183::c184::c185::c186::c187::c188::c189::c190::c191::c192::c193::c194::c195::c196::c197::c198::c199::c200::c201::c202::c203::c204::c205::c206::c207::c208::c209::c210::c211::c212::c213::c214::c215::c216::c217::c218::c219::c220::c221::c222::c223::c224::c225::c226::c227::c228::c229::c230::c231::c232::c233::c234::c235::c236::c237::c238::c239::c240::c241::c242::c243::c244::c245::c246::c247::c248::c249::c250::c251::c252::c253::c254::c255::c256::c257::c258::c259::c260::c261::c262::c263::c264::c265::c266::c267::c268::c269::c270::c271::c272::c273::c274::c275::c276::c277::c278::c279::c280::c281::c282::c283::c284::c285::c286::c287::c288::c289::c290::c291::c292::c293::c294::c295::c296::c297::c298::c299::c300::c301::c302::c303::c304::c305::c306::c307::c308::c309::c310::c311::c312::c313::c314::c315::c316::[]),[]⟩ wx) :
  Code.wp Tryz.prog (blk75 0) Q ⟨List.toArray (c0::c1::c2::c3::c4::(.pointer (some ⟨b5,0,none⟩))::(.int .i64 0)::(.int .i64 0)::c8::c9::c10::c11::c12::c13::c14::c15::c16::c17::c18::c19::c20::c21::c22::c23::c24::c25::c26::c27::c28::c29::c30::c31::c32::c33::c34::c35::c36::c37::c38::c39::c40::c41::(.slice (some ⟨lb,lo,none⟩) n lcap)::(.int .i64 n)::(.int .i64 0)::c45::c46::c47::c48::c49::c50::c51::c52::c53::c54::c55::c56::c57::c58::c59::c60::c61::c62::c63::c64::c65::c66::c67::c68::c69::c70::c71::c72::c73::c74::c75::c76::c77::c78::c79::c80::c81::c82::c83::c84::c85::c86::c87::c88::c89::c90::c91::c92::c93::c94::c95::c96::c97::c98::c99::c100::c101::c102::c103::c104::c105::c106::c107::c108::c109::c110::c111::c112::c113::c114::c115::c116::c117::c118::c119::c120::c121::c122::c123::c124::c125::c126::c127::c128::c129::c130::c131::c132::c133::c134::c135::c136::c137::c138::c139::c140::c141::c142::c143::c144::c145::c146::c147::c148::c149::c150::c151::c152::c153::c154::c155::c156::c157::c158::c159::c160::c161::c162::c163::c164::c165::c166::c167::c168::c169::c170::c171::c172::c173::c174::c175::c176::c177::c178::c179::c180::c181::c182::c183::c184::c185::c186::c187::c188::c189::c190::c191::c192::c193::c194::c195::c196::c197::c198::c199::c200::c201::c202::c203::c204::c205::c206::c207::c208::c209::c210::c211::c212::c213::c214::c215::c216::c217::c218::c219::c220::c221::c222::c223::c224::c225::c226::c227::c228::c229::c230::c231::c232::c233::c234::c235::c236::c237::c238::c239::c240::c241::c242::c243::c244::c245::c246::c247::c248::c249::c250::c251::c252::c253::c254::c255::c256::c257::c258::c259::c260::c261::c262::c263::c264::c265::c266::c267::c268::c269::c270::c271::c272::c273::c274::c275::c276::c277::c278::c279::c280::c281::c282::c283::c284::c285::c286::c287::c288::c289::c290::c291::c292::c293::c294::c295::c296::c297::c298::c299::c300::c301::c302::c303::c304::c305::c306::c307::c308::c309::c310::c311::c312::c313::c314::c315::c316::[]),[]⟩ w:=by
 have HNL:=Lib.hid hn;have H15:=Lib.hid h15;have HL:=Lib.hid hL;have HB:=Lib.hid hb;have HKK:=Lib.hid hK
 clear hn h15 hL hb hK
 conv => arg 2;whnf
 go_wp2_with fail
 obtain ⟨k0,hk0⟩ : ∃ k,n = k:=⟨_,rfl⟩
 have HK0:=Lib.hid hk0
 clear hk0
 go_loopg [6,7,44] k0 (fun k s6 s7 s44 wx => ∃ j : Nat,j ≤ n ∧ s44 = .int .i64 j ∧ s6 = .int .i64 (mnOf (lens.take j)) ∧ s7 = .int .i64 (mxOf (lens.take j)) ∧ Blk wx b5 (arr 16 (cts lens j)) 172 ∧ Ext (fun k => k = b5) w wx ∧ k = n - j)
 case atStart =>
  refine ⟨0,by omega,rfl,rfl,rfl,?_,Ext.refl _ _,HK0.out.symm⟩
  rw [arr_congr 16 (fun _ => 0) (cts lens 0) (fun j _ => by simp [cts])]
  exact HB.out
 case round =>
  obtain ⟨j,hj,rfl,rfl,rfl,hbk,hex,hk⟩:=hrel
  obtain ⟨wo,rfl⟩ : ∃ wo : World,wo = wr:=⟨_,rfl⟩
  have HBK:=Lib.hid hbk;have HEX:=Lib.hid hex;have HK:=Lib.hid hk
  rcases Nat.lt_or_ge j n with hlt | hge
  ·have hjl : j < lens.length:=by rw [HNL.out];exact hlt
   obtain ⟨x,hx⟩ : ∃ x,lens[j] = x:=⟨_,rfl⟩
   have hcl : wo.cell? ⟨lb,lo + j,none⟩ = some (.int .i64 x) :=
    HEX.out.cellSome hne (HL.out j (IV x) (by simp [hjl,hx]))
   have hx15 : x ≤ 15:=by rw [← hx];exact H15.out _ (List.getElem_mem hjl)
   have HMN : Hid (mnOf (lens.take (j + 1)) = mnStep (mnOf (lens.take j)) x):=Lib.hid (by rw [take_snoc_nat lens j hjl,mnOf_snoc,hx])
   have HMX : Hid (mxOf (lens.take (j + 1)) = mxStep (mxOf (lens.take j)) x):=Lib.hid (by rw [take_snoc_nat lens j hjl,mxOf_snoc,hx])
   obtain ⟨a,ha⟩ : ∃ x,mnOf (lens.take j) = x:=⟨_,rfl⟩
   obtain ⟨b,hbx⟩ : ∃ x,mxOf (lens.take j) = x:=⟨_,rfl⟩
   obtain ⟨ct,hct⟩ : ∃ v,cts lens j x = v:=⟨_,rfl⟩
   have hct2 : ct ≤ 320:=by rw [← hct];have:=cts_le lens j x;have:=HNL.out;omega
   have hcc : wo.cell? ⟨b5,x,none⟩ = some (.int .i64 ct):=by rw [hbk.cell,arr_get 16 _ x (by omega),hct]
   have hfc:=hbk.free
   have HX:=Lib.hid hx;have HCT:=Lib.hid hct
   rw [ha,hbx]
   rw [ha] at HMN
   rw [hbx] at HMX
   clear hx hct ha hbx hbk hex hk
   rcases Nat.eq_zero_or_pos x with h0 | h0
   ·subst h0
    go_wp2_with fail
    go_roundg (n - (j + 1))
    case measure => have:=HK.out;omega
    case rel =>
     have h1:=HMN.out;have h2:=HMX.out
     refine ⟨j + 1,by omega,by go_num,by rw [h1];simp [mnStep],by rw [h2];simp [mxStep],?_,HEX.out,rfl⟩
     rw [arr_congr 16 (cts lens j) (cts lens (j + 1)) (fun i _ => by rw [cts_next hjl,HX.out,if_neg (by omega)])]
     exact HBK.out
   ·have hxq : ((x : Int) == 0) = false:=by simp;omega
    have hxl : (x : Int) < 16:=by omega
    have hxl2 : (0 : Int) ≤ (x : Int):=by omega
    have HMN2 : Hid (∃ a',mnStep a x = a' ∧ ((a = 0 ∧ x = a') ∨ (a ≠ 0 ∧ x < a ∧ x = a') ∨ (a ≠ 0 ∧ a ≤ x ∧ a = a'))):=Lib.hid (by
     refine ⟨_,rfl,?_⟩
     unfold mnStep
     split <;> (try split) <;> (try split) <;> omega)
    have HMX2 : Hid (∃ b',mxStep b x = b' ∧ ((b < x ∧ x = b') ∨ (x ≤ b ∧ b = b'))):=Lib.hid (by
     refine ⟨_,rfl,?_⟩
     unfold mxStep
     split <;> omega)
    obtain ⟨a',ha1,ha2⟩:=HMN2.out
    obtain ⟨b',hb1,hb2⟩:=HMX2.out
    have HA1:=Lib.hid ha1;have HB1':=Lib.hid hb1
    have HCS : Hid ((arr 16 (cts lens j)).setIfInBounds x (.int .i64 ((ct : Int) + 1)) = arr 16 (cts lens (j + 1))):=Lib.hid (by
     have:=arr_set 16 (cts lens j) (cts lens (j + 1)) x (ct + 1) (fun i hi => by
      rw [cts_next hjl,HX.out]
      by_cases e : i = x
      ·rw [if_pos ⟨e,by omega⟩,if_pos e,e,HCT.out]
      ·rw [if_neg (fun h => e h.1),if_neg e])
     rw [← this];simp)
    clear ha1 hb1 HMN2 HMX2
    rcases ha2 with ⟨h1,rfl⟩ | ⟨h1,h2,rfl⟩ | ⟨h1,h2,rfl⟩
    all_goals rcases hb2 with ⟨h3,rfl⟩ | ⟨h3,rfl⟩
    all_goals
     first
      | (have h1q : ((a : Int) == 0) = true:=by simp;omega)
      | (have h1q : ((a : Int) == 0) = false:=by simp;omega)
     first
      | (have h2q : decide ((x : Int) < (a : Int)) = true:=by simp;omega)
      | (have h2q : decide ((x : Int) < (a : Int)) = false:=by simp;omega)
     go_wp2_with fail
     go_roundg (n - (j + 1))
     case measure => have:=HK.out;omega
     case rel =>
      refine ⟨j + 1,by omega,by go_num,by rw [HMN.out,HA1.out],by rw [HMX.out,HB1'.out],?_,HEX.out.trans ((Ext.refl _ wo).only _),rfl⟩
      rw [← HCS.out]
      exact HBK.out.set x _
  ·have hjn : j = n:=by omega
   go_wp2_with fail
   have ht : lens.take j = lens:=List.take_of_length_le (by rw [HNL.out];omega)
   rw [ht]
   refine HKK.out _ _ _ _ _ _ _ _ _ _ _ _ _ _ _ _ _ _ _ _ _ _ _ _ _ _ _ _ rfl rfl ?_ HEX.out
   rw [arr_congr 16 (cts lens j) (cnt lens) (fun i _ => by rw [hjn,← HNL.out,cts_end])]
   exact HBK.out
set_option maxRecDepth 100000 in
set_option maxHeartbeats 4000000 in
theorem init_first (b5 b11 mx mn : Nat) (lens : List Nat) (w : World) (hg : Pu.Good lens) (hmx : mxOf lens = mx) (hmn : mnOf lens = mn) (hB : Blk w b5 (arr 16 (cnt lens)) 172) (hb : Blk w b11 (arr 16 (fun _ => 0)) 172) (hne : b5 ≠ b11)
  (Q : Exit → Act → World → Prop)
  (hK : ∀ (u10 u12 u71 u72 u73 u74 u75 u76 u77 u78 u79 u80 u81 u82 u83 u84 u85 : Value) (wx : World),u10 = .int .i64 ((first lens mx + cnt lens mx : Nat) : Int) → Blk wx b11 (arr 16 (nxt lens 0)) 172 → Ext (fun k => k = b11) w wx → Q .normal ⟨List.toArray (c0::c1::c2::c3::c4::(.pointer (some ⟨b5,0,none⟩))::c6::(.int .i64 mx)::c8::c9::u10::(.pointer (some ⟨b11,0,none⟩))::u12::c13::c14::c15::c16::c17::c18::c19::c20::c21::c22::c23::c24::c25::c26::c27::c28::c29::c30::c31::c32::c33::c34::c35::c36::c37::c38::c39::c40::c41::c42::c43::c44::c45::c46::c47::c48::c49::c50::c51::c52::c53::c54::c55::c56::c57::c58::c59::c60::c61::c62::c63::c64::c65::c66::c67::c68::c69::c70::u71::u72::u73::u74::u75::u76::u77::u78::u79::u80::u81::u82::u83::u84::u85::c86::c87::c88::c89::c90::c91::c92::c93::c94::c95::c96::c97::c98::c99::c100::c101::c102::c103::c104::c105::c106::c107::c108::c109::c110::c111::c112::c113::c114::c115::c116::c117::c118::c119::c120::c121::c122::c123::c124::c125::c126::c127::c128::c129::c130::c131::c132::c133::c134::c135::c136::c137::c138::c139::c140::c141::c142::c143::c144::c145::c146::c147::c148::c149::c150::c151::c152::c153::c154::c155::c156::c157::c158::c159::c160::c161::c162::c163::c164::c165::c166::c167::c168::c169::c170::c171::c172::c173::c174::c175::c176::c177::c178::c179::c180::c181::c182::c183::c184::c185::c186::c187::c188::c189::c190::c191::c192::c193::c194::c195::c196::c197::c198::c199::c200::c201::c202::c203::c204::c205::c206::c207::c208::c209::c210::c211::c212::c213::c214::c215::c216::c217::c218::c219::c220::c221::c222::c223::c224::c225::c226::c227::c228::c229::c230::c231::c232::c233::c234::c235::c236::c237::c238::c239::c240::c241::c242::c243::c244::c245::c246::c247::c248::c249::c250::c251::c252::c253::c254::c255::c256::c257::c258::c259::c260::c261::c262::c263::c264::c265::c266::c267::c268::c269::c270::c271::c272::c273::c274::c275::c276::c277::c278::c279::c280::c281::c282::c283::c284::c285::c286::c287::c288::c289::c290::c291::c292::c293::c294::c295::c296::c297::c298::c299::c300::c301::c302::c303::c304::c305::c306::c307::c308::c309::c310::c311::c312::c313::c314::c315::c316::[]),[]⟩ wx) :
  Code.wp Tryz.prog (blk75 2) Q ⟨List.toArray (c0::c1::c2::c3::c4::(.pointer (some ⟨b5,0,none⟩))::c6::(.int .i64 mx)::c8::c9::(.int .i64 0)::(.pointer (some ⟨b11,0,none⟩))::(.int .i64 mn)::c13::c14::c15::c16::c17::c18::c19::c20::c21::c22::c23::c24::c25::c26::c27::c28::c29::c30::c31::c32::c33::c34::c35::c36::c37::c38::c39::c40::c41::c42::c43::c44::c45::c46::c47::c48::c49::c50::c51::c52::c53::c54::c55::c56::c57::c58::c59::c60::c61::c62::c63::c64::c65::c66::c67::c68::c69::c70::c71::c72::c73::c74::c75::c76::c77::c78::c79::c80::c81::c82::c83::c84::c85::c86::c87::c88::c89::c90::c91::c92::c93::c94::c95::c96::c97::c98::c99::c100::c101::c102::c103::c104::c105::c106::c107::c108::c109::c110::c111::c112::c113::c114::c115::c116::c117::c118::c119::c120::c121::c122::c123::c124::c125::c126::c127::c128::c129::c130::c131::c132::c133::c134::c135::c136::c137::c138::c139::c140::c141::c142::c143::c144::c145::c146::c147::c148::c149::c150::c151::c152::c153::c154::c155::c156::c157::c158::c159::c160::c161::c162::c163::c164::c165::c166::c167::c168::c169::c170::c171::c172::c173::c174::c175::c176::c177::c178::c179::c180::c181::c182::c183::c184::c185::c186::c187::c188::c189::c190::c191::c192::c193::c194::c195::c196::c197::c198::c199::c200::c201::c202::c203::c204::c205::c206::c207::c208::c209::c210::c211::c212::c213::c214::c215::c216::c217::c218::c219::c220::c221::c222::c223::c224::c225::c226::c227::c228::c229::c230::c231::c232::c233::c234::c235::c236::c237::c238::c239::c240::c241::c242::c243::c244::c245::c246::c247::c248::c249::c250::c251::c252::c253::c254::c255::c256::c257::c258::c259::c260::c261::c262::c263::c264::c265::c266::c267::c268::c269::c270::c271::c272::c273::c274::c275::c276::c277::c278::c279::c280::c281::c282::c283::c284::c285::c286::c287::c288::c289::c290::c291::c292::c293::c294::c295::c296::c297::c298::c299::c300::c301::c302::c303::c304::c305::c306::c307::c308::c309::c310::c311::c312::c313::c314::c315::c316::[]),[]⟩ w:=by
 have hmx15:=mxOf_le lens 15 hg.mem
 have hmn2:=mnOf_le_mx lens
 have hpos:=hg.end_.1
 rw [hmx] at hmx15 hmn2 hpos
 rw [hmn] at hmn2
 have hmn0 : 0 < mn:=by omega
 have hmn1 : mn ≤ mx:=hmn2.1
 have HG:=Lib.hid hg;have HMX:=Lib.hid hmx;have HMN:=Lib.hid hmn;have HB:=Lib.hid hB;have Hb:=Lib.hid hb;have HKK:=Lib.hid hK
 have HFL:=Lib.hid (fun j (h : j ≤ 15) => first_le hg j h)
 clear hg hmx hmn hB hb hK hmn2
 conv => arg 2;whnf
 go_wp2_with fail
 obtain ⟨k0,hk0⟩ : ∃ k,mx + 1 - mn = k:=⟨_,rfl⟩
 have HK0:=Lib.hid hk0
 clear hk0
 go_loopg [10,12] k0 (fun k s10 s12 wx => ∃ i cd : Nat,mn ≤ i ∧ i ≤ mx + 1 ∧ s12 = .int .i64 i ∧ s10 = .int .i64 cd ∧ first lens (i - 1) + cnt lens (i - 1) = cd ∧ Blk wx b11 (arr 16 (nxs lens i)) 172 ∧ Ext (fun k => k = b11) w wx ∧ k = mx + 1 - i)
 case atStart =>
  refine ⟨mn,0,Nat.le_refl _,by omega,rfl,rfl,?_,?_,Ext.refl _ _,HK0.out.symm⟩
  ·have:=HMN.out
   rw [first_below (by omega),cnt_below (by omega)]
  ·rw [arr_congr 16 (fun _ => 0) (nxs lens mn) (fun j _ => by rw [← HMN.out,nxs_start])]
   exact Hb.out
 case round =>
  obtain ⟨i,cd,hi1,hi2,rfl,rfl,hcd,hbk,hex,hk⟩:=hrel
  obtain ⟨wo,rfl⟩ : ∃ wo : World,wo = wr:=⟨_,rfl⟩
  have hcd2 : cd ≤ 65536:=by rw [← hcd];exact HFL.out _ (by omega)
  have HCD:=Lib.hid hcd;have HBK:=Lib.hid hbk;have HEX:=Lib.hid hex;have HK:=Lib.hid hk
  have hfc:=hbk.free
  clear hcd hex hk
  rcases Nat.lt_or_ge mx i with hgt | hle
  ·clear hbk
   go_wp2_with fail
   have hie : i = mx + 1:=by omega
   have hcd:=HCD.out
   rw [hie,show mx + 1 - 1 = mx by omega] at hcd
   refine HKK.out _ _ _ _ _ _ _ _ _ _ _ _ _ _ _ _ _ _ (by rw [hcd]) ?_ HEX.out
   rw [arr_congr 16 (nxs lens i) (nxt lens 0) (fun j _ => by rw [hie,← HMX.out,nxs_end])]
   exact HBK.out
  ·have hi16 : (i : Int) < 16:=by omega
   have hi0 : (0 : Int) ≤ (i : Int):=by omega
   have hcx : ∃ v,wo.cell? ⟨b11,i,none⟩ = some v:=⟨_,by rw [hbk.cell];exact arr_get 16 _ i (by omega)⟩
   obtain ⟨vx,hvx⟩:=hcx
   have hct : wo.cell? ⟨b5,i,none⟩ = some (.int .i64 (cnt lens i)):=HEX.out.cellSome hne (by rw [HB.out.cell];exact arr_get 16 _ i (by omega))
   have hcn : cnt lens i ≤ 65536:=by have:=HFL.out i (by omega);omega
   obtain ⟨ct,hctn⟩ : ∃ x,cnt lens i = x:=⟨_,rfl⟩
   rw [hctn] at hct hcn
   have HCT:=Lib.hid hctn
   have hne : ¬ b5 = b11:=hne
   clear hbk hctn
   go_wp2_with fail
   go_roundg (mx + 1 - (i + 1))
   case measure => have:=HK.out;omega
   case rel =>
    have hfs : first lens i = 2 * cd:=by
     rw [← HCD.out,← first_step]
     congr 1;omega
    refine ⟨i + 1,cd * 2 + ct,by omega,by omega,by go_num,by go_num,by rw [Nat.add_sub_cancel,HCT.out,hfs];omega,?_,HEX.out.trans ((Ext.refl _ wo).only _),rfl⟩
    rw [← arr_set 16 (nxs lens i) (nxs lens (i + 1)) i (2 * cd) (fun j _ => by rw [nxs_next lens (by omega) (by rw [HMX.out];exact hle),hfs])]
    have:=HBK.out.set i (.int .i64 ((cd : Int) * 2))
    rw [show ((2 * cd : Nat) : Int) = (cd : Int) * 2 by omega]
    exact this
end Go.Proofs.YthpapbilhjobnaaGreatDoor
