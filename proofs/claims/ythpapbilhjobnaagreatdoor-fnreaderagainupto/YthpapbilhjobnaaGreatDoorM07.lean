/-
  Parts of the proofs over the reader and the encoder of streams, joined: Hb5 Hb6. Conditions: each theorem names its own.
-/
import Derived.Test.YthpapbilhjobnaaGreatDoorM06
import Derived.WalkMore
set_option linter.unusedVariables false
set_option linter.unusedSimpArgs false
namespace Go.Proofs.YthpapbilhjobnaaGreatDoor
open Go.RowKit Pu
variable {c0 c1 c2 c3 c4 c5 c6 c7 c8 c9 c10 c11 c12 c13 c14 c15 c16 c17 c18 c19 c20 c21 c22 c23 c24 c25 c26 c27 c28 c29 c30 c31 c32 c33 c34 c35 c36 c37 c38 c39 c40 c41 c42 c43 c44 c45 c46 c47 c48 c49 c50 c51 c52 c53 c54 c55 c56 c57 c58 c59 c60 c61 c62 c63 c64 c65 c66 c67 c68 c69 c70 c71 c72 c73 c74 c75 c76 c77 c78 c79 c80 c81 c82 c83 c84 c85 c86 c87 c88 c89 c90 c91 c92 c93 c94 c95 c96 c97 c98 c99 c100 c101 c102 c103 c104 c105 c106 c107 c108 c109 c110 c111 c112 c113 c114 c115 c116 c117 c118 c119 c120 c121 c122 c123 c124 c125 c126 c127 c128 c129 c130 c131 c132 c133 c134 c135 c136 c137 c138 c139 c140 c141 c142 c143 c144 c145 c146 c147 c148 c149 c150 c151 c152 c153 c154 c155 c156 c157 c158 c159 c160 c161 c162 c163 c164 c165 c166 c167 c168 c169 c170 c171 c172 c173 c174 c175 c176 c177 c178 c179 c180 c181 c182 c183 c184 c185 c186 c187 c188 c189 c190 c191 c192 c193 c194 c195 c196 c197 c198 c199 c200 c201 c202 c203 c204 c205 c206 c207 c208 c209 c210 c211 c212 c213 c214 c215 c216 c217 c218 c219 c220 c221 c222 c223 c224 c225 c226 c227 c228 c229 c230 c231 c232 c233 c234 c235 c236 c237 c238 c239 c240 c241 c242 c243 c244 c245 c246 c247 c248 c249 c250 c251 c252 c253 c254 c255 c256 c257 c258 c259 c260 c261 c262 c263 c264 c265 c266 c267 c268 c269 c270 c271 c272 c273 c274 c275 c276 c277 c278 c279 c280 c281 c282 c283 c284 c285 c286 c287 c288 c289 c290 c291 c292 c293 c294 c295 c296 c297 c298 c299 c300 c301 c302 c303 c304 c305 c306 c307 c308 c309 c310 c311 c312 c313 c314 c315 c316 c317 c318 c319 c320 c321 c322 c323 c324 c325 c326 c327 c328 c329 c330 c331 c332 c333 c334 c335 c336 c337 c338 c339 c340 c341 c342 c343 c344 c345 c346 c347 c348 c349 c350 c351 c352 c353 c354 c355 c356 c357 c358 c359 c360 c361 : Value}
structure Mv (x : Pl) (w : World) (d : Array Value) (w' : World) (d' : Array Value) : Prop where
 same : Same BM d d'
 ext : Ext (FM x.F x.R) w w'
theorem Mv.trans {x : Pl} {w w1 w2 : World} {d d1 d2 : Array Value} (h : Mv x w d w1 d1) (k : Mv x w1 d1 w2 d2) : Mv x w d w2 d2:=⟨h.same.trans k.same,h.ext.trans k.ext⟩
theorem Tak.mv {x : Pl} {w w' : World} {d d' : Array Value} {Y BB : List Bool} {p : Nat} (h : Tak x w d Y w' d' BB p) : Mv x w d w' d':=⟨h.same,h.ext⟩
theorem S0.short {x : Pl} {k : Blkc} {w0 w w1 : World} {d0 d d1 : Array Value} {q : Nat} {H hs : List UInt8} {wr rd : Nat} {full : Bool} {BB : List Bool} {p i p1 : Nat} {ts : List Tok} (h : S0 x k w0 d0 w d q H hs wr rd full [] BB p ts i) (ap : Apart x) (hr : Res x w1 d1 p1) (hm : Mv x w d w1 d1) (v : Value)
  (hv : (¬ k.ok ∧ ∃ z : Int,v = .iface 159 (.int .i64 z)) ∨ (x.ext ≠ [] ∧ v = .iface 175 (.pointer (some x.U)))) : HBEnd x k w0 d0 q (w1.setCell ⟨x.F,1048,none⟩ v) :=
 HBEnd.err ap hr (h.dec.w3.moved ap hr.blk hm.same hm.ext) (by rw [hm.same.1];exact h.dec.sz) v hv h.le (h.same.trans (hm.same.mono (fun _ e => BM_HBM e))) (h.ext.trans (hm.ext.mono (fun _ _ e => FM_M3 e)))
theorem S0.tabs_at {x : Pl} {k : Blkc} {w0 w w1 : World} {d0 d d1 : Array Value} {q : Nat} {H hs : List UInt8} {wr rd : Nat} {full : Bool} {T : List UInt8} {BB : List Bool} {p i : Nat} {ts : List Tok} (h : S0 x k w0 d0 w d q H hs wr rd full T BB p ts i) (hb : Blk w1 x.F d1 147) (hm : Mv x w d w1 d1) : Tabs x w1 d1 k.lit k.dist :=
 h.tabs.stay h.dec.tk.blk hb hm.same (fun j a _ => BM_low a) ⟨BM_low (by omega),BM_low (by omega)⟩ hm.ext (fun j hj => FM_N hj)
set_option maxRecDepth 100000 in
set_option maxHeartbeats 32000000 in
theorem pass0_copy (x : Pl) (ap : Apart x) (k : Blkc) (w0 w : World) (d0 d : Array Value) (q : Nat) (H hs : List UInt8) (wr rd : Nat) (full : Bool) (BB : List Bool) (p i : Nat) (t : Tok) (ts : List Tok) (h : S0 x k w0 d0 w d q H hs wr rd full [] BB p (t::ts) i) (hfar : t.far ≠ 0) (Q : Exit → Act → World → Prop)
  (hR : ∀ (u2 u3 u4 u5 u6 u7 u8 u9 u18 u19 u20 u21 u22 u23 u24 u25 u26 u27 u28 u29 u30 u31 u32 u33 u34 u35 u36 u37 u38 u39 u40 u41 u42 u43 u44 u45 u46 u47 u48 u49 u50 u51 u52 u53 u54 u55 u56 u57 u58 u59 u60 u61 u62 u63 u64 u65 u66 u67 u68 u69 u70 u71 u72 u73 u74 u75 u76 u77 u78 u79 u80 u81 u82 u83 u84 u85 u86 u87 u88 u89 u90 u91 u92 u93 u94 u95 u96 u97 u98 u99 u100 u101 u102 u103 u104 u105 u106 u107 u108 u109 u110 u111 u112 u113 u114 u115 u116 u117 u118 u119 u120 u121 u122 u123 u124 u125 u126 u127 u128 u129 u130 u131 u132 u133 u134 u135 u136 u137 u138 u139 u140 u141 u142 u143 u144 u145 u146 u147 u148 u149 u150 u151 u152 u153 u154 u155 u156 u157 u158 u159 u160 u161 u162 u163 u164 u165 u166 u167 u168 u169 u170 u171 u172 u173 u174 u175 u176 u177 u178 u179 u180 u181 u182 u183 u184 u185 u186 u187 u188 u189 u190 u191 u192 u193 u194 u195 u196 u197 u198 u199 u200 u201 u202 u203 u204 u205 u206 u207 u208 u209 u210 u211 u212 u213 u214 u215 u216 u217 u218 u219 u220 u221 u222 u223 u224 u225 u226 u227 u228 u229 u230 u231 u232 u233 u234 u235 u236 u237 u238 u239 u240 u241 u242 u243 u244 u245 u246 u247 u248 u249 u250 u251 u252 u253 u254 u255 u256 u257 u258 u259 u260 u261 u262 u263 u264 u265 u266 u267 u268 u269 u270 u271 u272 u273 u274 u275 u276 u277 u278 u279 u280 u281 u282 u283 u284 u285 u286 u287 u288 u289 u290 u291 u292 u293 u294 u295 u296 u297 u298 u299 u300 u301 u302 u303 u304 u305 u306 u307 u308 u309 u310 u311 u312 u313 u314 u315 u316 u317 u318 u319 u320 u321 u322 u323 u324 u325 u326 u327 u328 u329 u330 u331 u332 u333 u334 u335 u336 u337 u338 u339 u340 u341 u342 u343 u344 u345 u346 u347 u348 u349 u350 u351 u352 u353 u354 u355 u356 u357 u358 u359 u360 u361 : Value) (wx : World),HBEnd x k w0 d0 q wx → Q .ret ⟨List.toArray ((.pointer (some ⟨x.F,0,none⟩))::c1::u2::u3::u4::u5::u6::u7::u8::u9::c10::c11::c12::c13::c14::c15::c16::c17::u18::u19::u20::u21::u22::u23::u24::u25::u26::u27::u28::u29::u30::u31::u32::u33::u34::u35::u36::u37::u38::u39::u40::u41::u42::u43::u44::u45::u46::u47::u48::u49::u50::u51::u52::u53::u54::u55::u56::u57::u58::u59::u60::u61::u62::u63::u64::u65::u66::u67::u68::u69::u70::u71::u72::u73::u74::u75::u76::u77::u78::u79::u80::u81::u82::u83::u84::u85::u86::u87::u88::u89::u90::u91::u92::u93::u94::u95::u96::u97::u98::u99::u100::u101::u102::u103::u104::u105::u106::u107::u108::u109::u110::u111::u112::u113::u114::u115::u116::u117::u118::u119::u120::u121::u122::u123::u124::u125::u126::u127::u128::u129::u130::u131::u132::u133::u134::u135::u136::u137::u138::u139::u140::u141::u142::u143::u144::u145::u146::u147::u148::u149::u150::u151::u152::u153::u154::u155::u156::u157::u158::u159::u160::u161::u162::u163::u164::u165::u166::u167::u168::u169::u170::u171::u172::u173::u174::u175::u176::u177::u178::u179::u180::u181::u182::u183::u184::u185::u186::u187::u188::u189::u190::u191::u192::u193::u194::u195::u196::u197::u198::u199::u200::u201::u202::u203::u204::u205::u206::u207::u208::u209::u210::u211::u212::u213::u214::u215::u216::u217::u218::u219::u220::u221::u222::u223::u224::u225::u226::u227::u228::u229::u230::u231::u232::u233::u234::u235::u236::u237::u238::u239::u240::u241::u242::u243::u244::u245::u246::u247::u248::u249::u250::u251::u252::u253::u254::u255::u256::u257::u258::u259::u260::u261::u262::u263::u264::u265::u266::u267::u268::u269::u270::u271::u272::u273::u274::u275::u276::u277::u278::u279::u280::u281::u282::u283::u284::u285::u286::u287::u288::u289::u290::u291::u292::u293::u294::u295::u296::u297::u298::u299::u300::u301::u302::u303::u304::u305::u306::u307::u308::u309::u310::u311::u312::u313::u314::u315::u316::u317::u318::u319::u320::u321::u322::u323::u324::u325::u326::u327::u328::u329::u330::u331::u332::u333::u334::u335::u336::u337::u338::u339::u340::u341::u342::u343::u344::u345::u346::u347::u348::u349::u350::u351::u352::u353::u354::u355::u356::u357::u358::u359::u360::u361::[]),[]⟩ wx)
  (hJ : ∀ (u2 u3 u4 u5 u6 u7 u8 u9 u18 u19 u20 u21 u22 u23 u24 u25 u26 u27 u28 u29 u30 u31 u32 u33 u34 u35 u36 u37 u38 u39 u40 u41 u42 u43 u44 u45 u46 u47 u48 u49 u50 u51 u52 u53 u54 u55 u56 u57 u58 u59 u60 u61 u62 u63 u64 u65 u66 u67 u68 u69 u70 u71 u72 u73 u74 u75 u76 u77 u78 u79 u80 u81 u82 u83 u84 u85 u86 u87 u88 u89 u90 u91 u92 u93 u94 u95 u96 u97 u98 u99 u100 u101 u102 u103 u104 u105 u106 u107 u108 u109 u110 u111 u112 u113 u114 u115 u116 u117 u118 u119 u120 u121 u122 u123 u124 u125 u126 u127 u128 u129 u130 u131 u132 u133 u134 u135 u136 u137 u138 u139 u140 u141 u142 u143 u144 u145 u146 u147 u148 u149 u150 u151 u152 u153 u154 u155 u156 u157 u158 u159 u160 u161 u162 u163 u164 u165 u166 u167 u168 u169 u170 u171 u172 u173 u174 u175 u176 u177 u178 u179 u180 u181 u182 u183 u184 u185 u186 u187 u188 u189 u190 u191 u192 u193 u194 u195 u196 u197 u198 u199 u200 u201 u202 u203 u204 u205 u206 u207 u208 u209 u210 u211 u212 u213 u214 u215 u216 u217 u218 u219 u220 u221 u222 u223 u224 u225 u226 u227 u228 u229 u230 u231 u232 u233 u234 u235 u236 u237 u238 u239 u240 u241 u242 u243 u244 u245 u246 u247 u248 u249 u250 u251 u252 u253 u254 u255 u256 u257 u258 u259 u260 u261 u262 u263 u264 u265 u266 u267 u268 u269 u270 u271 u272 u273 u274 u275 u276 u277 u278 u279 u280 u281 u282 u283 u284 u285 u286 u287 u288 u289 u290 u291 u292 u293 u294 u295 u296 u297 u298 u299 u300 u301 u302 u303 u304 u305 u306 u307 u308 u309 u310 u311 u312 u313 u314 u315 u316 u317 u318 u319 u320 u321 u322 u323 u324 u325 u326 u327 u328 u329 u330 u331 u332 u333 u334 u335 u336 u337 u338 u339 u340 u341 u342 u343 u344 u345 u346 u347 u348 u349 u350 u351 u352 u353 u354 u355 u356 u357 u358 u359 u360 u361 : Value) (wx : World) (d' : Array Value) (B' : List Bool) (p' i' : Nat),S1 x k w0 d0 wx d' q H hs wr rd full [] B' p' ts i' t.far t.long → Q (.goto 1) ⟨List.toArray ((.pointer (some ⟨x.F,0,none⟩))::c1::u2::u3::u4::u5::u6::u7::u8::u9::c10::c11::c12::c13::c14::c15::c16::c17::u18::u19::u20::u21::u22::u23::u24::u25::u26::u27::u28::u29::u30::u31::u32::u33::u34::u35::u36::u37::u38::u39::u40::u41::u42::u43::u44::u45::u46::u47::u48::u49::u50::u51::u52::u53::u54::u55::u56::u57::u58::u59::u60::u61::u62::u63::u64::u65::u66::u67::u68::u69::u70::u71::u72::u73::u74::u75::u76::u77::u78::u79::u80::u81::u82::u83::u84::u85::u86::u87::u88::u89::u90::u91::u92::u93::u94::u95::u96::u97::u98::u99::u100::u101::u102::u103::u104::u105::u106::u107::u108::u109::u110::u111::u112::u113::u114::u115::u116::u117::u118::u119::u120::u121::u122::u123::u124::u125::u126::u127::u128::u129::u130::u131::u132::u133::u134::u135::u136::u137::u138::u139::u140::u141::u142::u143::u144::u145::u146::u147::u148::u149::u150::u151::u152::u153::u154::u155::u156::u157::u158::u159::u160::u161::u162::u163::u164::u165::u166::u167::u168::u169::u170::u171::u172::u173::u174::u175::u176::u177::u178::u179::u180::u181::u182::u183::u184::u185::u186::u187::u188::u189::u190::u191::u192::u193::u194::u195::u196::u197::u198::u199::u200::u201::u202::u203::u204::u205::u206::u207::u208::u209::u210::u211::u212::u213::u214::u215::u216::u217::u218::u219::u220::u221::u222::u223::u224::u225::u226::u227::u228::u229::u230::u231::u232::u233::u234::u235::u236::u237::u238::u239::u240::u241::u242::u243::u244::u245::u246::u247::u248::u249::u250::u251::u252::u253::u254::u255::u256::u257::u258::u259::u260::u261::u262::u263::u264::u265::u266::u267::u268::u269::u270::u271::u272::u273::u274::u275::u276::u277::u278::u279::u280::u281::u282::u283::u284::u285::u286::u287::u288::u289::u290::u291::u292::u293::u294::u295::u296::u297::u298::u299::u300::u301::u302::u303::u304::u305::u306::u307::u308::u309::u310::u311::u312::u313::u314::u315::u316::u317::u318::u319::u320::u321::u322::u323::u324::u325::u326::u327::u328::u329::u330::u331::u332::u333::u334::u335::u336::u337::u338::u339::u340::u341::u342::u343::u344::u345::u346::u347::u348::u349::u350::u351::u352::u353::u354::u355::u356::u357::u358::u359::u360::u361::[]),[]⟩ wx) :
  Code.wp Tryz.prog (lab69 0) Q ⟨List.toArray ((.pointer (some ⟨x.F,0,none⟩))::c1::c2::c3::c4::c5::c6::c7::c8::c9::c10::c11::c12::c13::c14::c15::c16::c17::c18::c19::c20::c21::c22::c23::c24::c25::c26::c27::c28::c29::c30::c31::c32::c33::c34::c35::c36::c37::c38::c39::c40::c41::c42::c43::c44::c45::c46::c47::c48::c49::c50::c51::c52::c53::c54::c55::c56::c57::c58::c59::c60::c61::c62::c63::c64::c65::c66::c67::c68::c69::c70::c71::c72::c73::c74::c75::c76::c77::c78::c79::c80::c81::c82::c83::c84::c85::c86::c87::c88::c89::c90::c91::c92::c93::c94::c95::c96::c97::c98::c99::c100::c101::c102::c103::c104::c105::c106::c107::c108::c109::c110::c111::c112::c113::c114::c115::c116::c117::c118::c119::c120::c121::c122::c123::c124::c125::c126::c127::c128::c129::c130::c131::c132::c133::c134::c135::c136::c137::c138::c139::c140::c141::c142::c143::c144::c145::c146::c147::c148::c149::c150::c151::c152::c153::c154::c155::c156::c157::c158::c159::c160::c161::c162::c163::c164::c165::c166::c167::c168::c169::c170::c171::c172::c173::c174::c175::c176::c177::c178::c179::c180::c181::c182::c183::c184::c185::c186::c187::c188::c189::c190::c191::c192::c193::c194::c195::c196::c197::c198::c199::c200::c201::c202::c203::c204::c205::c206::c207::c208::c209::c210::c211::c212::c213::c214::c215::c216::c217::c218::c219::c220::c221::c222::c223::c224::c225::c226::c227::c228::c229::c230::c231::c232::c233::c234::c235::c236::c237::c238::c239::c240::c241::c242::c243::c244::c245::c246::c247::c248::c249::c250::c251::c252::c253::c254::c255::c256::c257::c258::c259::c260::c261::c262::c263::c264::c265::c266::c267::c268::c269::c270::c271::c272::c273::c274::c275::c276::c277::c278::c279::c280::c281::c282::c283::c284::c285::c286::c287::c288::c289::c290::c291::c292::c293::c294::c295::c296::c297::c298::c299::c300::c301::c302::c303::c304::c305::c306::c307::c308::c309::c310::c311::c312::c313::c314::c315::c316::c317::c318::c319::c320::c321::c322::c323::c324::c325::c326::c327::c328::c329::c330::c331::c332::c333::c334::c335::c336::c337::c338::c339::c340::c341::c342::c343::c344::c345::c346::c347::c348::c349::c350::c351::c352::c353::c354::c355::c356::c357::c358::c359::c360::c361::[]),[]⟩ w:=by
 have HH:=Lib.hid h;have HRR:=Lib.hid hR;have HJJ:=Lib.hid hJ
 obtain ⟨b1,o1,mn1,hl1,hl2,hl3⟩:=h.tabs.hl
 have ht:=h.dec.tk
 have hhl : w.cell? ⟨x.F,1050,none⟩ = some (.pointer (some ⟨b1,o1,none⟩)):=by rw [ht.blk.cell];exact hl1
 have hl15:=len_le h.tabs.glit.mem 256
 have hcd:=(h.coded t (by simp)).2 hfar
 obtain ⟨g1,g2,g3,g4,g5⟩ : 1 ≤ t.far ∧ t.far ≤ 32768 ∧ 3 ≤ t.long ∧ t.long ≤ 258 ∧ True:=by
  rcases h.fit.1 with ⟨e,_⟩ | ⟨e1,e2,e3,e4,e5,_⟩
  ·exact absurd e hfar
  ·exact ⟨e1,e3,e4,e5,trivial⟩
 obtain ⟨v1,v2,v3,v4⟩:=lsym_ok t.long g3 g4
 obtain ⟨y1,y2,y3⟩:=dsym_ok t.far g1 g2
 have hlx:=lextra_le _ v2
 have hlb:=lbase_le _ v2
 obtain ⟨v,hve⟩ : ∃ v,lsym t.long = v:=⟨_,rfl⟩
 obtain ⟨s,hse⟩ : ∃ s,dsym t.far = s:=⟨_,rfl⟩
 obtain ⟨R,hRe⟩ : ∃ R,toksBits k.lit k.dist ts ++ (codeBits k.lit 256 ++ k.Y) = R:=⟨_,rfl⟩
 rw [hve] at v1 v2 v3 v4 hlx hlb hcd
 rw [hse] at y1 y2 y3 hcd
 obtain ⟨mo,hmo⟩ : ∃ m,t.long - lbase v = m:=⟨_,rfl⟩
 obtain ⟨yo,hyo⟩ : ∃ m,t.far - dbase s = m:=⟨_,rfl⟩
 rw [hmo] at v4
 rw [hyo] at y3
 have hbits : toksBits k.lit k.dist (t::ts) ++ (codeBits k.lit 256 ++ k.Y) = codeBits k.lit v ++ (lsb mo (lextra v) ++ (codeBits k.dist s ++ (lsb yo (dextra s) ++ R))):=by
  rw [← hRe,← hmo,← hyo,← hve,← hse]
  simp [toksBits,tokBits,hfar]
 rw [hbits] at ht
 have HS:=Lib.hid (huffSym_tak (mn:=mn1) ap ht hl2 h.tabs.glit hcd.1 h.tabs.llen (by omega) (by have:=congrArg List.length hbits;simp at this ⊢;omega) (by have:=h.hand;omega))
 have hcr:=ht.rdr
 have hce:=ht.ends
 have hhand:=h.hand
 have hc0:=hcd.1
 have HVE:=Lib.hid hve;have HSE:=Lib.hid hse;have HRE:=Lib.hid hRe;have HMO:=Lib.hid hmo;have HYO:=Lib.hid hyo;have HDC:=Lib.hid hcd.2
 clear h hR ht hbits hcd hve hse hRe hmo hyo hJ
 conv => arg 2;whnf
 go_wp2_with fail
 refine HS.out.mono ?_
 rintro e w1 hpost
 rcases hpost.tak ap hcr hce with ⟨d1,B1,p1,rfl,hT1,hb1⟩ | ⟨hx,rfl,d1,p1,hres,hs1,he1⟩
 rotate_left
 ·have hf1:=hres.blk.free
  have hsz1 : d1.size = 1054:=by rw [hs1.1];exact HH.out.dec.sz
  have hc48 : ∃ v,w1.cell? ⟨x.F,1048,none⟩ = some v:=⟨d1[1048]'(by omega),by rw [hres.blk.cell,Array.getElem?_eq_getElem]⟩
  obtain ⟨v48,hc48⟩:=hc48
  have HRES:=Lib.hid hres;have HMV:=Lib.hid (Mv.mk hs1 he1)
  clear hpost hres hs1 he1 HS
  go_wp2_with fail
  exact HRR.out _ _ _ _ _ _ _ _ _ _ _ _ _ _ _ _ _ _ _ _ _ _ _ _ _ _ _ _ _ _ _ _ _ _ _ _ _ _ _ _ _ _ _ _ _ _ _ _ _ _ _ _ _ _ _ _ _ _ _ _ _ _ _ _ _ _ _ _ _ _ _ _ _ _ _ _ _ _ _ _ _ _ _ _ _ _ _ _ _ _ _ _ _ _ _ _ _ _ _ _ _ _ _ _ _ _ _ _ _ _ _ _ _ _ _ _ _ _ _ _ _ _ _ _ _ _ _ _ _ _ _ _ _ _ _ _ _ _ _ _ _ _ _ _ _ _ _ _ _ _ _ _ _ _ _ _ _ _ _ _ _ _ _ _ _ _ _ _ _ _ _ _ _ _ _ _ _ _ _ _ _ _ _ _ _ _ _ _ _ _ _ _ _ _ _ _ _ _ _ _ _ _ _ _ _ _ _ _ _ _ _ _ _ _ _ _ _ _ _ _ _ _ _ _ _ _ _ _ _ _ _ _ _ _ _ _ _ _ _ _ _ _ _ _ _ _ _ _ _ _ _ _ _ _ _ _ _ _ _ _ _ _ _ _ _ _ _ _ _ _ _ _ _ _ _ _ _ _ _ _ _ _ _ _ _ _ _ _ _ _ _ _ _ _ _ _ _ _ _ _ _ _ _ _ _ _ _ _ _ _ _ _ _ _ _ _ _ _ _ _ _ _ _ _ _ _ _ _ _ _ _ _ _ _ _ _ _ _ _ _ _ _ _ _ _ _ _ _ _ _ _ _ _ (HH.out.short ap HRES.out HMV.out _ (.inr ⟨hx,rfl⟩))
 have hB8 : B1.length < 8 + len k.lit 256:=by omega
 have HT1:=Lib.hid hT1.anew;have HM1:=Lib.hid hT1.mv
 have hsz1 : d1.size = 1054:=by rw [hT1.same.1];exact HH.out.dec.sz
 clear hpost hb1 hT1 HS
 go_upto_block 1 with (fail)
 refine block_length x.F v w1 v1 v2 _ ?_
 intro u4 u5 u33 u34 u35 u36 u37 u38 u39 u40 u41 u42 u43 u44 u45 u46 u47 u48 u49 u50 u51 u52 u53 u54 u55 u56 u57 u58 u59 u60 u61 u62 u63 u64 u65 u66 u67 u68 u69 u70 u71 u72 u73 u74 u75 u76 u77 u78 u79 u80 u81 u82 u83 u84 u85 u86 u87 u88 u89 u90 u91 u92 u93 u94 u95 u96 u97 u98 u99 u100 u101 u102 u103 u104 u105 u106 u107 u108 u109 u110 hu4 hu5
 subst hu4 hu5
 obtain ⟨ex,hexe⟩ : ∃ y,lextra v = y:=⟨_,rfl⟩
 obtain ⟨lb,hlbe⟩ : ∃ y,lbase v = y:=⟨_,rfl⟩
 rw [hexe,hlbe]
 rw [hexe] at hlx v4 HT1
 rw [hlbe] at hlb v3 HMO
 clear hexe hlbe
 go_upto_if 112 with (fail)
 refine block_more x ap ex lb mo w1 d1 B1 _ p1 HT1.out hsz1 hlx hlb v4 (by omega) _ ?_ ?_
 rotate_left
 ·intro u3 u5 u112 u113 u114 u115 u116 u117 u118 u119 u120 u121 u122 u123 u124 u125 u126 u127 u128 u129 u130 u131 u132 u133 u134 u135 u136 u137 u138 u139 u140 u141 u142 u143 u144 u145 u146 u147 u148 u149 u150 u151 u152 u153 wx wy d2 Y2 B2 p2 hT2 hx he
  have HT2:=Lib.hid hT2;have HE:=Lib.hid he
  clear hT2 he
  go_wp2_with fail
  rw [HE.out]
  exact HRR.out _ _ _ _ _ _ _ _ _ _ _ _ _ _ _ _ _ _ _ _ _ _ _ _ _ _ _ _ _ _ _ _ _ _ _ _ _ _ _ _ _ _ _ _ _ _ _ _ _ _ _ _ _ _ _ _ _ _ _ _ _ _ _ _ _ _ _ _ _ _ _ _ _ _ _ _ _ _ _ _ _ _ _ _ _ _ _ _ _ _ _ _ _ _ _ _ _ _ _ _ _ _ _ _ _ _ _ _ _ _ _ _ _ _ _ _ _ _ _ _ _ _ _ _ _ _ _ _ _ _ _ _ _ _ _ _ _ _ _ _ _ _ _ _ _ _ _ _ _ _ _ _ _ _ _ _ _ _ _ _ _ _ _ _ _ _ _ _ _ _ _ _ _ _ _ _ _ _ _ _ _ _ _ _ _ _ _ _ _ _ _ _ _ _ _ _ _ _ _ _ _ _ _ _ _ _ _ _ _ _ _ _ _ _ _ _ _ _ _ _ _ _ _ _ _ _ _ _ _ _ _ _ _ _ _ _ _ _ _ _ _ _ _ _ _ _ _ _ _ _ _ _ _ _ _ _ _ _ _ _ _ _ _ _ _ _ _ _ _ _ _ _ _ _ _ _ _ _ _ _ _ _ _ _ _ _ _ _ _ _ _ _ _ _ _ _ _ _ _ _ _ _ _ _ _ _ _ _ _ _ _ _ _ _ _ _ _ _ _ _ _ _ _ _ _ _ _ _ _ _ _ _ _ _ _ _ _ _ _ _ _ _ _ _ _ _ _ _ _ _ _ _ _ (HH.out.short ap HT2.out.res (HM1.out.trans HT2.out.mv) _ (.inr ⟨hx,rfl⟩))
 intro u3 u5 u112 u113 u114 u115 u116 u117 u118 u119 u120 u121 u122 u123 u124 u125 u126 u127 u128 u129 u130 u131 u132 u133 u134 u135 u136 u137 u138 u139 u140 u141 u142 u143 u144 u145 u146 u147 u148 u149 u150 u151 u152 u153 w2 d2 B2 p2 hT2 hb2 hu5
 subst hu5
 have hsum : lb + mo = t.long:=by have:=HMO.out;omega
 rw [hsum]
 have hB28 : B2.length < 8 + len k.lit 256:=by omega
 have HM2:=Lib.hid (HM1.out.trans hT2.mv);have HT2:=Lib.hid hT2.anew
 have hsz2 : d2.size = 1054:=by rw [hT2.same.1];exact hsz1
 have htab2:=HH.out.tabs_at hT2.blk HM2.out
 obtain ⟨lg,hlg⟩ : ∃ y,t.long = y:=⟨_,rfl⟩
 rw [hlg]
 have HLG:=Lib.hid hlg
 clear hT2 hb2 hsum hlg
 rcases htab2.hd with ⟨z1,z2⟩ | ⟨mn2,z1,z2,z3,z4,z5,z6⟩
 ·have hcd : w2.cell? ⟨x.F,1051,none⟩ = some (.pointer none):=by rw [HT2.out.blk.cell];exact z1
  have HT2' : Hid (Tak x w2 d2 (codeBits fixDistsP s ++ (lsb yo (dextra s) ++ R)) w2 d2 B2 p2):=Lib.hid (by have:=HT2.out;rw [z2] at this;exact this)
  clear z1
  go_upto_if 158 with (fail)
  refine block_far_fixed x ap s w2 d2 B2 _ p2 HT2'.out hsz2 (by omega) (by omega) _ ?_ ?_
  rotate_left
  ·intro u3 u6 u158 u159 u160 u161 u162 u163 u164 u165 u166 u167 u168 u169 u170 u171 u172 u173 u174 u175 u176 u177 u178 u179 u180 u181 u182 u183 u184 u185 u186 u187 u188 u189 u190 u191 u192 u193 u194 u195 u196 u197 u198 u199 u200 u201 u202 u203 u204 u205 u206 u207 u208 u209 wx wy d3 Y3 B3 p3 hT3 hx he
   have HT3:=Lib.hid hT3;have HE:=Lib.hid he
   clear hT3 he
   go_wp2_with fail
   rw [HE.out]
   exact HRR.out _ _ _ _ _ _ _ _ _ _ _ _ _ _ _ _ _ _ _ _ _ _ _ _ _ _ _ _ _ _ _ _ _ _ _ _ _ _ _ _ _ _ _ _ _ _ _ _ _ _ _ _ _ _ _ _ _ _ _ _ _ _ _ _ _ _ _ _ _ _ _ _ _ _ _ _ _ _ _ _ _ _ _ _ _ _ _ _ _ _ _ _ _ _ _ _ _ _ _ _ _ _ _ _ _ _ _ _ _ _ _ _ _ _ _ _ _ _ _ _ _ _ _ _ _ _ _ _ _ _ _ _ _ _ _ _ _ _ _ _ _ _ _ _ _ _ _ _ _ _ _ _ _ _ _ _ _ _ _ _ _ _ _ _ _ _ _ _ _ _ _ _ _ _ _ _ _ _ _ _ _ _ _ _ _ _ _ _ _ _ _ _ _ _ _ _ _ _ _ _ _ _ _ _ _ _ _ _ _ _ _ _ _ _ _ _ _ _ _ _ _ _ _ _ _ _ _ _ _ _ _ _ _ _ _ _ _ _ _ _ _ _ _ _ _ _ _ _ _ _ _ _ _ _ _ _ _ _ _ _ _ _ _ _ _ _ _ _ _ _ _ _ _ _ _ _ _ _ _ _ _ _ _ _ _ _ _ _ _ _ _ _ _ _ _ _ _ _ _ _ _ _ _ _ _ _ _ _ _ _ _ _ _ _ _ _ _ _ _ _ _ _ _ _ _ _ _ _ _ _ _ _ _ _ _ _ _ _ _ _ _ _ _ _ _ _ _ _ _ _ _ _ _ (HH.out.short ap HT3.out.res (HM2.out.trans HT3.out.mv) _ (.inr ⟨hx,rfl⟩))
  intro u3 u6 u158 u159 u160 u161 u162 u163 u164 u165 u166 u167 u168 u169 u170 u171 u172 u173 u174 u175 u176 u177 u178 u179 u180 u181 u182 u183 u184 u185 u186 u187 u188 u189 u190 u191 u192 u193 u194 u195 u196 u197 u198 u199 u200 u201 u202 u203 u204 u205 u206 u207 u208 u209 w3 d3 B3 p3 hT3 hb3 hu6
  subst hu6
  have hB38 : B3.length < 8 + len k.lit 256:=by omega
  have hsz3 : d3.size = 1054:=by rw [hT3.same.1];exact hsz2
  have HM3:=Lib.hid (HM2.out.trans hT3.mv);have HT3:=Lib.hid hT3.anew
  clear hT3 hb3 hcd
  go_upto_block 6 with (fail)
  refine block_distance x ap s yo w3 d3 B3 R p3 HT3.out hsz3 y1 y3 (by omega) _ ?_ ?_
  rotate_left
  ·intro u3 u6 u7 u8 u210 u211 u212 u213 u214 u215 u216 u217 u218 u219 u220 u221 u222 u223 u224 u225 u226 u227 u228 u229 u230 u231 u232 u233 u234 u235 u236 u237 u238 u239 u240 u241 u242 u243 u244 u245 u246 u247 u248 u249 u250 u251 u252 u253 u254 u255 u256 u257 u258 u259 u260 u261 u262 u263 u264 u265 u266 u267 u268 u269 u270 u271 u272 u273 u274 u275 u276 u277 u278 u279 u280 wx wy d4 Y4 B4 p4 hT4 hx he
   have HT4:=Lib.hid hT4;have HE:=Lib.hid he
   clear hT4 he
   go_wp2_with fail
   rw [HE.out]
   exact HRR.out _ _ _ _ _ _ _ _ _ _ _ _ _ _ _ _ _ _ _ _ _ _ _ _ _ _ _ _ _ _ _ _ _ _ _ _ _ _ _ _ _ _ _ _ _ _ _ _ _ _ _ _ _ _ _ _ _ _ _ _ _ _ _ _ _ _ _ _ _ _ _ _ _ _ _ _ _ _ _ _ _ _ _ _ _ _ _ _ _ _ _ _ _ _ _ _ _ _ _ _ _ _ _ _ _ _ _ _ _ _ _ _ _ _ _ _ _ _ _ _ _ _ _ _ _ _ _ _ _ _ _ _ _ _ _ _ _ _ _ _ _ _ _ _ _ _ _ _ _ _ _ _ _ _ _ _ _ _ _ _ _ _ _ _ _ _ _ _ _ _ _ _ _ _ _ _ _ _ _ _ _ _ _ _ _ _ _ _ _ _ _ _ _ _ _ _ _ _ _ _ _ _ _ _ _ _ _ _ _ _ _ _ _ _ _ _ _ _ _ _ _ _ _ _ _ _ _ _ _ _ _ _ _ _ _ _ _ _ _ _ _ _ _ _ _ _ _ _ _ _ _ _ _ _ _ _ _ _ _ _ _ _ _ _ _ _ _ _ _ _ _ _ _ _ _ _ _ _ _ _ _ _ _ _ _ _ _ _ _ _ _ _ _ _ _ _ _ _ _ _ _ _ _ _ _ _ _ _ _ _ _ _ _ _ _ _ _ _ _ _ _ _ _ _ _ _ _ _ _ _ _ _ _ _ _ _ _ _ _ _ _ _ _ _ _ _ _ _ _ _ _ _ _ (HH.out.short ap HT4.out.res (HM3.out.trans HT4.out.mv) _ (.inr ⟨hx,rfl⟩))
  intro u3 u6 u7 u8 u210 u211 u212 u213 u214 u215 u216 u217 u218 u219 u220 u221 u222 u223 u224 u225 u226 u227 u228 u229 u230 u231 u232 u233 u234 u235 u236 u237 u238 u239 u240 u241 u242 u243 u244 u245 u246 u247 u248 u249 u250 u251 u252 u253 u254 u255 u256 u257 u258 u259 u260 u261 u262 u263 u264 u265 u266 u267 u268 u269 u270 u271 u272 u273 u274 u275 u276 u277 u278 u279 u280 w4 d4 B4 p4 hT4 hb4 hu6
  subst hu6
  have hsum : dbase s + yo = t.far:=by have:=HYO.out;omega
  rw [hsum]
  have hB48 : B4.length < 8 + len k.lit 256:=by omega
  have HM4:=Lib.hid (HM3.out.trans hT4.mv);have HT4:=Lib.hid hT4.anew
  have hsz4 : d4.size = 1054:=by rw [hT4.same.1];exact hsz3
  have hW4:=HH.out.dec.w3.moved ap hT4.blk HM4.out.same HM4.out.ext
  obtain ⟨fa,hfa⟩ : ∃ y,t.far = y:=⟨_,rfl⟩
  rw [hfa]
  rw [hfa] at g1 g2
  have HFA:=Lib.hid hfa
  have HHS:=Lib.hid (histSize_any x.F x.hb d4 hs wr rd full w4 hW4.dd)
  obtain ⟨hz,hhz⟩ : ∃ y,hsize wr full = y:=⟨_,rfl⟩
  rw [hhz] at HHS
  have HHZ:=Lib.hid hhz
  have hf4:=hT4.blk.free
  obtain ⟨zo,hzo⟩:=hT4.off
  have hc48 : ∃ v,w4.cell? ⟨x.F,1048,none⟩ = some v:=⟨d4[1048]'(by omega),by rw [hT4.blk.cell,Array.getElem?_eq_getElem]⟩
  have hc52 : ∃ v,w4.cell? ⟨x.F,1052,none⟩ = some v:=⟨d4[1052]'(by omega),by rw [hT4.blk.cell,Array.getElem?_eq_getElem]⟩
  have hc53 : ∃ v,w4.cell? ⟨x.F,1053,none⟩ = some v:=⟨d4[1053]'(by omega),by rw [hT4.blk.cell,Array.getElem?_eq_getElem]⟩
  obtain ⟨v48,hc48⟩:=hc48
  obtain ⟨v52,hc52⟩:=hc52
  obtain ⟨v53,hc53⟩:=hc53
  have HW4:=Lib.hid hW4
  clear hT4 hb4 hsum hfa hhz hW4
  go_wp2_with fail
  refine HHS.out.mono ?_
  rintro e w5 ⟨rfl,rfl⟩
  rcases Nat.lt_or_ge hz fa with hgt | hle
  ·have hgi : (hz : Int) < (fa : Int):=by omega
   go_wp2_with fail
   refine HRR.out _ _ _ _ _ _ _ _ _ _ _ _ _ _ _ _ _ _ _ _ _ _ _ _ _ _ _ _ _ _ _ _ _ _ _ _ _ _ _ _ _ _ _ _ _ _ _ _ _ _ _ _ _ _ _ _ _ _ _ _ _ _ _ _ _ _ _ _ _ _ _ _ _ _ _ _ _ _ _ _ _ _ _ _ _ _ _ _ _ _ _ _ _ _ _ _ _ _ _ _ _ _ _ _ _ _ _ _ _ _ _ _ _ _ _ _ _ _ _ _ _ _ _ _ _ _ _ _ _ _ _ _ _ _ _ _ _ _ _ _ _ _ _ _ _ _ _ _ _ _ _ _ _ _ _ _ _ _ _ _ _ _ _ _ _ _ _ _ _ _ _ _ _ _ _ _ _ _ _ _ _ _ _ _ _ _ _ _ _ _ _ _ _ _ _ _ _ _ _ _ _ _ _ _ _ _ _ _ _ _ _ _ _ _ _ _ _ _ _ _ _ _ _ _ _ _ _ _ _ _ _ _ _ _ _ _ _ _ _ _ _ _ _ _ _ _ _ _ _ _ _ _ _ _ _ _ _ _ _ _ _ _ _ _ _ _ _ _ _ _ _ _ _ _ _ _ _ _ _ _ _ _ _ _ _ _ _ _ _ _ _ _ _ _ _ _ _ _ _ _ _ _ _ _ _ _ _ _ _ _ _ _ _ _ _ _ _ _ _ _ _ _ _ _ _ _ _ _ _ _ _ _ _ _ _ _ _ _ _ _ _ _ _ _ _ _ _ _ _ _ _ _ _ (HH.out.short ap HT4.out.res HM4.out _ (.inl ⟨fun o => ?_,_,rfl⟩))
   have hc:=(HH.out.hist.tok HH.out.fit.1).2 o
   rcases hc with hc | hc
   ·exact hfar hc
   ·have h2:=(HW4.out.win.far g2).2 (by rw [← HFA.out];exact hc)
    have h3:=HHZ.out
    omega
  ·have hgi : ¬ ((hz : Int) < (fa : Int)):=by omega
   go_wp2_with fail
   refine wp_goto ?_
   have hht:=HH.out.hist.tok HH.out.fit.1
   have hrun : t.run H = grow H t.far t.long:=by unfold Tok.run;rw [if_neg hfar]
   have hstep : t.step = t.long:=by unfold Tok.step;rw [if_neg hfar]
   rw [hrun,hstep] at hht
   have hfit:=HH.out.fit.2
   rw [hstep] at hfit
   have hTk:=(HT4.out.setF ap (k:=1052) (.int .i64 (lg : Int)) (by omega)).setF ap (k:=1053) (.int .i64 (fa : Int)) (by omega)
   have hW5:=(HW4.out.setF (j:=1052) (.int .i64 (lg : Int)) (by omega)).setF (j:=1053) (.int .i64 (fa : Int)) (by omega)
   have hs5 : Same (fun j => j = 1052 ∨ j = 1053) d4 ((d4.setIfInBounds 1052 (.int .i64 (lg : Int))).setIfInBounds 1053 (.int .i64 (fa : Int))):=((Same.refl _ _).set (.inl rfl) _).set (.inr rfl) _
   have he5 : Ext (fun j => j = x.F) w4 ((w4.setCell ⟨x.F,1052,none⟩ (.int .i64 (lg : Int))).setCell ⟨x.F,1053,none⟩ (.int .i64 (fa : Int))):=((Ext.refl _ _).only _).only _
   have hlow : ∀ j,1035 ≤ j → d4[j]? = d[j]?:=fun j hj => HM4.out.same.2 j (BM_low (by omega))
   rw [HRE.out.symm] at hTk
   refine HJJ.out _ _ _ _ _ _ _ _ _ _ _ _ _ _ _ _ _ _ _ _ _ _ _ _ _ _ _ _ _ _ _ _ _ _ _ _ _ _ _ _ _ _ _ _ _ _ _ _ _ _ _ _ _ _ _ _ _ _ _ _ _ _ _ _ _ _ _ _ _ _ _ _ _ _ _ _ _ _ _ _ _ _ _ _ _ _ _ _ _ _ _ _ _ _ _ _ _ _ _ _ _ _ _ _ _ _ _ _ _ _ _ _ _ _ _ _ _ _ _ _ _ _ _ _ _ _ _ _ _ _ _ _ _ _ _ _ _ _ _ _ _ _ _ _ _ _ _ _ _ _ _ _ _ _ _ _ _ _ _ _ _ _ _ _ _ _ _ _ _ _ _ _ _ _ _ _ _ _ _ _ _ _ _ _ _ _ _ _ _ _ _ _ _ _ _ _ _ _ _ _ _ _ _ _ _ _ _ _ _ _ _ _ _ _ _ _ _ _ _ _ _ _ _ _ _ _ _ _ _ _ _ _ _ _ _ _ _ _ _ _ _ _ _ _ _ _ _ _ _ _ _ _ _ _ _ _ _ _ _ _ _ _ _ _ _ _ _ _ _ _ _ _ _ _ _ _ _ _ _ _ _ _ _ _ _ _ _ _ _ _ _ _ _ _ _ _ _ _ _ _ _ _ _ _ _ _ _ _ _ _ _ _ _ _ _ _ _ _ _ _ _ _ _ _ _ _ _ _ _ _ _ _ _ _ _ _ _ _ _ _ _ _ _ _ _ _ _ _ _ _ _ _ _ _ B4 p4 (i + t.long) ⟨⟨hTk,hW5,by simp;exact hsz4⟩,(HH.out.tabs_at HT4.out.blk HM4.out).stay HT4.out.blk hTk.blk hs5 (fun j a b => by omega) ⟨by omega,by omega⟩ he5 (fun _ e => .inl e),by rw [hs5.2 _ (by omega),hlow _ (by omega)];exact HH.out.fin,by rw [hs5.2 _ (by omega),hlow _ (by omega)];exact HH.out.err,HH.out.rest,hfit,fun r hr => HH.out.coded r (by simp [hr]),hht.1,
    by have:=HH.out.base;omega,hB48,(HH.out.same.trans (HM4.out.same.mono (fun _ e => BM_HBM e))).trans (hs5.mono (fun j e => by unfold HBM;omega)),(HH.out.ext.trans (HM4.out.ext.mono (fun _ _ e => FM_M3 e))).trans (he5.mono (fun _ _ e => .inl e)),?_,?_,by rw [HFA.out];exact g1,by rw [HFA.out,HHZ.out];exact hle,by omega,by rw [hs5.2 _ (by omega),hlow _ (by omega)];exact HH.out.js.state⟩
   ·rw [set_ne _ _ (by decide),set_eq _ (by omega),HLG.out]
   ·rw [set_eq _ (by simp;omega),HFA.out]
 ·have hcd : w2.cell? ⟨x.F,1051,none⟩ = some (.pointer (some ⟨x.F,520,none⟩)):=by rw [HT2.out.blk.cell];exact z1
  have hgd : Pu.Good k.dist:=by
   rcases z5 with h | h
   ·exact h
   ·have h1:=HDC.out;rw [h s] at h1;omega
  have hm2:=z3 s HDC.out
  have HS2:=Lib.hid (huffSym_tak (mn:=mn2) ap HT2.out z2 hgd HDC.out z6 z4 (by omega) (by omega))
  have hcr2:=HT2.out.rdr
  have hce2:=HT2.out.ends
  clear z1 z2 z3 z5
  go_wp2_with fail
  refine HS2.out.mono ?_
  rintro e w3 hpost
  rcases hpost.tak ap hcr2 hce2 with ⟨d3,B3,p3,rfl,hT3,hb3⟩ | ⟨hx,rfl,d3,p3,hres,hs3,he3⟩
  rotate_left
  ·have hf1:=hres.blk.free
   have hsz3 : d3.size = 1054:=by rw [hs3.1];exact hsz2
   have hc48 : ∃ v,w3.cell? ⟨x.F,1048,none⟩ = some v:=⟨d3[1048]'(by omega),by rw [hres.blk.cell,Array.getElem?_eq_getElem]⟩
   obtain ⟨v48,hc48⟩:=hc48
   have HRES:=Lib.hid hres;have HMV:=Lib.hid (Mv.mk hs3 he3)
   clear hpost hres hs3 he3 HS2
   go_wp2_with fail
   exact HRR.out _ _ _ _ _ _ _ _ _ _ _ _ _ _ _ _ _ _ _ _ _ _ _ _ _ _ _ _ _ _ _ _ _ _ _ _ _ _ _ _ _ _ _ _ _ _ _ _ _ _ _ _ _ _ _ _ _ _ _ _ _ _ _ _ _ _ _ _ _ _ _ _ _ _ _ _ _ _ _ _ _ _ _ _ _ _ _ _ _ _ _ _ _ _ _ _ _ _ _ _ _ _ _ _ _ _ _ _ _ _ _ _ _ _ _ _ _ _ _ _ _ _ _ _ _ _ _ _ _ _ _ _ _ _ _ _ _ _ _ _ _ _ _ _ _ _ _ _ _ _ _ _ _ _ _ _ _ _ _ _ _ _ _ _ _ _ _ _ _ _ _ _ _ _ _ _ _ _ _ _ _ _ _ _ _ _ _ _ _ _ _ _ _ _ _ _ _ _ _ _ _ _ _ _ _ _ _ _ _ _ _ _ _ _ _ _ _ _ _ _ _ _ _ _ _ _ _ _ _ _ _ _ _ _ _ _ _ _ _ _ _ _ _ _ _ _ _ _ _ _ _ _ _ _ _ _ _ _ _ _ _ _ _ _ _ _ _ _ _ _ _ _ _ _ _ _ _ _ _ _ _ _ _ _ _ _ _ _ _ _ _ _ _ _ _ _ _ _ _ _ _ _ _ _ _ _ _ _ _ _ _ _ _ _ _ _ _ _ _ _ _ _ _ _ _ _ _ _ _ _ _ _ _ _ _ _ _ _ _ _ _ _ _ _ _ _ _ _ _ _ _ _ _ (HH.out.short ap HRES.out (HM2.out.trans HMV.out) _ (.inr ⟨hx,rfl⟩))
  have hB38 : B3.length < 8 + len k.lit 256:=by omega
  clear hpost HS2
  have hsz3 : d3.size = 1054:=by rw [hT3.same.1];exact hsz2
  have HM3:=Lib.hid (HM2.out.trans hT3.mv);have HT3:=Lib.hid hT3.anew
  clear hT3 hb3 hcd
  go_upto_block 6 with (fail)
  refine block_distance x ap s yo w3 d3 B3 R p3 HT3.out hsz3 y1 y3 (by omega) _ ?_ ?_
  rotate_left
  ·intro u3 u6 u7 u8 u210 u211 u212 u213 u214 u215 u216 u217 u218 u219 u220 u221 u222 u223 u224 u225 u226 u227 u228 u229 u230 u231 u232 u233 u234 u235 u236 u237 u238 u239 u240 u241 u242 u243 u244 u245 u246 u247 u248 u249 u250 u251 u252 u253 u254 u255 u256 u257 u258 u259 u260 u261 u262 u263 u264 u265 u266 u267 u268 u269 u270 u271 u272 u273 u274 u275 u276 u277 u278 u279 u280 wx wy d4 Y4 B4 p4 hT4 hx he
   have HT4:=Lib.hid hT4;have HE:=Lib.hid he
   clear hT4 he
   go_wp2_with fail
   rw [HE.out]
   exact HRR.out _ _ _ _ _ _ _ _ _ _ _ _ _ _ _ _ _ _ _ _ _ _ _ _ _ _ _ _ _ _ _ _ _ _ _ _ _ _ _ _ _ _ _ _ _ _ _ _ _ _ _ _ _ _ _ _ _ _ _ _ _ _ _ _ _ _ _ _ _ _ _ _ _ _ _ _ _ _ _ _ _ _ _ _ _ _ _ _ _ _ _ _ _ _ _ _ _ _ _ _ _ _ _ _ _ _ _ _ _ _ _ _ _ _ _ _ _ _ _ _ _ _ _ _ _ _ _ _ _ _ _ _ _ _ _ _ _ _ _ _ _ _ _ _ _ _ _ _ _ _ _ _ _ _ _ _ _ _ _ _ _ _ _ _ _ _ _ _ _ _ _ _ _ _ _ _ _ _ _ _ _ _ _ _ _ _ _ _ _ _ _ _ _ _ _ _ _ _ _ _ _ _ _ _ _ _ _ _ _ _ _ _ _ _ _ _ _ _ _ _ _ _ _ _ _ _ _ _ _ _ _ _ _ _ _ _ _ _ _ _ _ _ _ _ _ _ _ _ _ _ _ _ _ _ _ _ _ _ _ _ _ _ _ _ _ _ _ _ _ _ _ _ _ _ _ _ _ _ _ _ _ _ _ _ _ _ _ _ _ _ _ _ _ _ _ _ _ _ _ _ _ _ _ _ _ _ _ _ _ _ _ _ _ _ _ _ _ _ _ _ _ _ _ _ _ _ _ _ _ _ _ _ _ _ _ _ _ _ _ _ _ _ _ _ _ _ _ _ _ _ _ _ _ (HH.out.short ap HT4.out.res (HM3.out.trans HT4.out.mv) _ (.inr ⟨hx,rfl⟩))
  intro u3 u6 u7 u8 u210 u211 u212 u213 u214 u215 u216 u217 u218 u219 u220 u221 u222 u223 u224 u225 u226 u227 u228 u229 u230 u231 u232 u233 u234 u235 u236 u237 u238 u239 u240 u241 u242 u243 u244 u245 u246 u247 u248 u249 u250 u251 u252 u253 u254 u255 u256 u257 u258 u259 u260 u261 u262 u263 u264 u265 u266 u267 u268 u269 u270 u271 u272 u273 u274 u275 u276 u277 u278 u279 u280 w4 d4 B4 p4 hT4 hb4 hu6
  subst hu6
  have hsum : dbase s + yo = t.far:=by have:=HYO.out;omega
  rw [hsum]
  have hB48 : B4.length < 8 + len k.lit 256:=by omega
  have HM4:=Lib.hid (HM3.out.trans hT4.mv);have HT4:=Lib.hid hT4.anew
  have hsz4 : d4.size = 1054:=by rw [hT4.same.1];exact hsz3
  have hW4:=HH.out.dec.w3.moved ap hT4.blk HM4.out.same HM4.out.ext
  obtain ⟨fa,hfa⟩ : ∃ y,t.far = y:=⟨_,rfl⟩
  rw [hfa]
  rw [hfa] at g1 g2
  have HFA:=Lib.hid hfa
  have HHS:=Lib.hid (histSize_any x.F x.hb d4 hs wr rd full w4 hW4.dd)
  obtain ⟨hz,hhz⟩ : ∃ y,hsize wr full = y:=⟨_,rfl⟩
  rw [hhz] at HHS
  have HHZ:=Lib.hid hhz
  have hf4:=hT4.blk.free
  obtain ⟨zo,hzo⟩:=hT4.off
  have hc48 : ∃ v,w4.cell? ⟨x.F,1048,none⟩ = some v:=⟨d4[1048]'(by omega),by rw [hT4.blk.cell,Array.getElem?_eq_getElem]⟩
  have hc52 : ∃ v,w4.cell? ⟨x.F,1052,none⟩ = some v:=⟨d4[1052]'(by omega),by rw [hT4.blk.cell,Array.getElem?_eq_getElem]⟩
  have hc53 : ∃ v,w4.cell? ⟨x.F,1053,none⟩ = some v:=⟨d4[1053]'(by omega),by rw [hT4.blk.cell,Array.getElem?_eq_getElem]⟩
  obtain ⟨v48,hc48⟩:=hc48
  obtain ⟨v52,hc52⟩:=hc52
  obtain ⟨v53,hc53⟩:=hc53
  have HW4:=Lib.hid hW4
  clear hT4 hb4 hsum hfa hhz hW4
  go_wp2_with fail
  refine HHS.out.mono ?_
  rintro e w5 ⟨rfl,rfl⟩
  rcases Nat.lt_or_ge hz fa with hgt | hle
  ·have hgi : (hz : Int) < (fa : Int):=by omega
   go_wp2_with fail
   refine HRR.out _ _ _ _ _ _ _ _ _ _ _ _ _ _ _ _ _ _ _ _ _ _ _ _ _ _ _ _ _ _ _ _ _ _ _ _ _ _ _ _ _ _ _ _ _ _ _ _ _ _ _ _ _ _ _ _ _ _ _ _ _ _ _ _ _ _ _ _ _ _ _ _ _ _ _ _ _ _ _ _ _ _ _ _ _ _ _ _ _ _ _ _ _ _ _ _ _ _ _ _ _ _ _ _ _ _ _ _ _ _ _ _ _ _ _ _ _ _ _ _ _ _ _ _ _ _ _ _ _ _ _ _ _ _ _ _ _ _ _ _ _ _ _ _ _ _ _ _ _ _ _ _ _ _ _ _ _ _ _ _ _ _ _ _ _ _ _ _ _ _ _ _ _ _ _ _ _ _ _ _ _ _ _ _ _ _ _ _ _ _ _ _ _ _ _ _ _ _ _ _ _ _ _ _ _ _ _ _ _ _ _ _ _ _ _ _ _ _ _ _ _ _ _ _ _ _ _ _ _ _ _ _ _ _ _ _ _ _ _ _ _ _ _ _ _ _ _ _ _ _ _ _ _ _ _ _ _ _ _ _ _ _ _ _ _ _ _ _ _ _ _ _ _ _ _ _ _ _ _ _ _ _ _ _ _ _ _ _ _ _ _ _ _ _ _ _ _ _ _ _ _ _ _ _ _ _ _ _ _ _ _ _ _ _ _ _ _ _ _ _ _ _ _ _ _ _ _ _ _ _ _ _ _ _ _ _ _ _ _ _ _ _ _ _ _ _ _ _ _ _ _ _ _ (HH.out.short ap HT4.out.res HM4.out _ (.inl ⟨fun o => ?_,_,rfl⟩))
   have hc:=(HH.out.hist.tok HH.out.fit.1).2 o
   rcases hc with hc | hc
   ·exact hfar hc
   ·have h2:=(HW4.out.win.far g2).2 (by rw [← HFA.out];exact hc)
    have h3:=HHZ.out
    omega
  ·have hgi : ¬ ((hz : Int) < (fa : Int)):=by omega
   go_wp2_with fail
   refine wp_goto ?_
   have hht:=HH.out.hist.tok HH.out.fit.1
   have hrun : t.run H = grow H t.far t.long:=by unfold Tok.run;rw [if_neg hfar]
   have hstep : t.step = t.long:=by unfold Tok.step;rw [if_neg hfar]
   rw [hrun,hstep] at hht
   have hfit:=HH.out.fit.2
   rw [hstep] at hfit
   have hTk:=(HT4.out.setF ap (k:=1052) (.int .i64 (lg : Int)) (by omega)).setF ap (k:=1053) (.int .i64 (fa : Int)) (by omega)
   have hW5:=(HW4.out.setF (j:=1052) (.int .i64 (lg : Int)) (by omega)).setF (j:=1053) (.int .i64 (fa : Int)) (by omega)
   have hs5 : Same (fun j => j = 1052 ∨ j = 1053) d4 ((d4.setIfInBounds 1052 (.int .i64 (lg : Int))).setIfInBounds 1053 (.int .i64 (fa : Int))):=((Same.refl _ _).set (.inl rfl) _).set (.inr rfl) _
   have he5 : Ext (fun j => j = x.F) w4 ((w4.setCell ⟨x.F,1052,none⟩ (.int .i64 (lg : Int))).setCell ⟨x.F,1053,none⟩ (.int .i64 (fa : Int))):=((Ext.refl _ _).only _).only _
   have hlow : ∀ j,1035 ≤ j → d4[j]? = d[j]?:=fun j hj => HM4.out.same.2 j (BM_low (by omega))
   rw [HRE.out.symm] at hTk
   refine HJJ.out _ _ _ _ _ _ _ _ _ _ _ _ _ _ _ _ _ _ _ _ _ _ _ _ _ _ _ _ _ _ _ _ _ _ _ _ _ _ _ _ _ _ _ _ _ _ _ _ _ _ _ _ _ _ _ _ _ _ _ _ _ _ _ _ _ _ _ _ _ _ _ _ _ _ _ _ _ _ _ _ _ _ _ _ _ _ _ _ _ _ _ _ _ _ _ _ _ _ _ _ _ _ _ _ _ _ _ _ _ _ _ _ _ _ _ _ _ _ _ _ _ _ _ _ _ _ _ _ _ _ _ _ _ _ _ _ _ _ _ _ _ _ _ _ _ _ _ _ _ _ _ _ _ _ _ _ _ _ _ _ _ _ _ _ _ _ _ _ _ _ _ _ _ _ _ _ _ _ _ _ _ _ _ _ _ _ _ _ _ _ _ _ _ _ _ _ _ _ _ _ _ _ _ _ _ _ _ _ _ _ _ _ _ _ _ _ _ _ _ _ _ _ _ _ _ _ _ _ _ _ _ _ _ _ _ _ _ _ _ _ _ _ _ _ _ _ _ _ _ _ _ _ _ _ _ _ _ _ _ _ _ _ _ _ _ _ _ _ _ _ _ _ _ _ _ _ _ _ _ _ _ _ _ _ _ _ _ _ _ _ _ _ _ _ _ _ _ _ _ _ _ _ _ _ _ _ _ _ _ _ _ _ _ _ _ _ _ _ _ _ _ _ _ _ _ _ _ _ _ _ _ _ _ _ _ _ _ _ _ _ _ _ _ _ _ _ _ _ _ _ _ _ _ _ B4 p4 (i + t.long) ⟨⟨hTk,hW5,by simp;exact hsz4⟩,(HH.out.tabs_at HT4.out.blk HM4.out).stay HT4.out.blk hTk.blk hs5 (fun j a b => by omega) ⟨by omega,by omega⟩ he5 (fun _ e => .inl e),by rw [hs5.2 _ (by omega),hlow _ (by omega)];exact HH.out.fin,by rw [hs5.2 _ (by omega),hlow _ (by omega)];exact HH.out.err,HH.out.rest,hfit,fun r hr => HH.out.coded r (by simp [hr]),hht.1,
    by have:=HH.out.base;omega,hB48,(HH.out.same.trans (HM4.out.same.mono (fun _ e => BM_HBM e))).trans (hs5.mono (fun j e => by unfold HBM;omega)),(HH.out.ext.trans (HM4.out.ext.mono (fun _ _ e => FM_M3 e))).trans (he5.mono (fun _ _ e => .inl e)),?_,?_,by rw [HFA.out];exact g1,by rw [HFA.out,HHZ.out];exact hle,by omega,by rw [hs5.2 _ (by omega),hlow _ (by omega)];exact HH.out.js.state⟩
   ·rw [set_ne _ _ (by decide),set_eq _ (by omega),HLG.out]
   ·rw [set_eq _ (by simp;omega),HFA.out]
end Go.Proofs.YthpapbilhjobnaaGreatDoor
namespace Go.Proofs.YthpapbilhjobnaaGreatDoor
open Go.RowKit Pu
variable {c0 c1 c2 c3 c4 c5 c6 c7 c8 c9 c10 c11 c12 c13 c14 c15 c16 c17 c18 c19 c20 c21 c22 c23 c24 c25 c26 c27 c28 c29 c30 c31 c32 c33 c34 c35 c36 c37 c38 c39 c40 c41 c42 c43 c44 c45 c46 c47 c48 c49 c50 c51 c52 c53 c54 c55 c56 c57 c58 c59 c60 c61 c62 c63 c64 c65 c66 c67 c68 c69 c70 c71 c72 c73 c74 c75 c76 c77 c78 c79 c80 c81 c82 c83 c84 c85 c86 c87 c88 c89 c90 c91 c92 c93 c94 c95 c96 c97 c98 c99 c100 c101 c102 c103 c104 c105 c106 c107 c108 c109 c110 c111 c112 c113 c114 c115 c116 c117 c118 c119 c120 c121 c122 c123 c124 c125 c126 c127 c128 c129 c130 c131 c132 c133 c134 c135 c136 c137 c138 c139 c140 c141 c142 c143 c144 c145 c146 c147 c148 c149 c150 c151 c152 c153 c154 c155 c156 c157 c158 c159 c160 c161 c162 c163 c164 c165 c166 c167 c168 c169 c170 c171 c172 c173 c174 c175 c176 c177 c178 c179 c180 c181 c182 c183 c184 c185 c186 c187 c188 c189 c190 c191 c192 c193 c194 c195 c196 c197 c198 c199 c200 c201 c202 c203 c204 c205 c206 c207 c208 c209 c210 c211 c212 c213 c214 c215 c216 c217 c218 c219 c220 c221 c222 c223 c224 c225 c226 c227 c228 c229 c230 c231 c232 c233 c234 c235 c236 c237 c238 c239 c240 c241 c242 c243 c244 c245 c246 c247 c248 c249 c250 c251 c252 c253 c254 c255 c256 c257 c258 c259 c260 c261 c262 c263 c264 c265 c266 c267 c268 c269 c270 c271 c272 c273 c274 c275 c276 c277 c278 c279 c280 c281 c282 c283 c284 c285 c286 c287 c288 c289 c290 c291 c292 c293 c294 c295 c296 c297 c298 c299 c300 c301 c302 c303 c304 c305 c306 c307 c308 c309 c310 c311 c312 c313 c314 c315 c316 c317 c318 c319 c320 c321 c322 c323 c324 c325 c326 c327 c328 c329 c330 c331 c332 c333 c334 c335 c336 c337 c338 c339 c340 c341 c342 c343 c344 c345 c346 c347 c348 c349 c350 c351 c352 c353 c354 c355 c356 c357 c358 c359 c360 c361 : Value}
set_option maxRecDepth 100000 in
set_option maxHeartbeats 32000000 in
theorem pass1 (x : Pl) (ap : Apart x) (k : Blkc) (w0 w : World) (d0 d : Array Value) (q : Nat) (H hs : List UInt8) (wr rd : Nat) (full : Bool) (BB : List Bool) (p i far n : Nat) (ts : List Tok) (h : S1 x k w0 d0 w d q H hs wr rd full [] BB p ts i far n) (Q : Exit → Act → World → Prop)
  (hR : ∀ (u9 u303 u304 u305 u306 u307 u308 u309 u310 u311 u312 u313 u314 u315 u316 u317 u318 u319 u320 u321 u322 u323 u324 u325 u326 u327 u328 u329 u330 u331 u332 u333 u334 u335 u336 u337 u338 u339 u340 u341 u342 u343 u344 u345 u346 u347 u348 u349 u350 u351 u352 u353 u354 u355 u356 u357 u358 u359 u360 u361 : Value) (wx : World),HBEnd x k w0 d0 q wx → Q .ret ⟨List.toArray ((.pointer (some ⟨x.F,0,none⟩))::c1::c2::c3::c4::c5::c6::c7::c8::u9::c10::c11::c12::c13::c14::c15::c16::c17::c18::c19::c20::c21::c22::c23::c24::c25::c26::c27::c28::c29::c30::c31::c32::c33::c34::c35::c36::c37::c38::c39::c40::c41::c42::c43::c44::c45::c46::c47::c48::c49::c50::c51::c52::c53::c54::c55::c56::c57::c58::c59::c60::c61::c62::c63::c64::c65::c66::c67::c68::c69::c70::c71::c72::c73::c74::c75::c76::c77::c78::c79::c80::c81::c82::c83::c84::c85::c86::c87::c88::c89::c90::c91::c92::c93::c94::c95::c96::c97::c98::c99::c100::c101::c102::c103::c104::c105::c106::c107::c108::c109::c110::c111::c112::c113::c114::c115::c116::c117::c118::c119::c120::c121::c122::c123::c124::c125::c126::c127::c128::c129::c130::c131::c132::c133::c134::c135::c136::c137::c138::c139::c140::c141::c142::c143::c144::c145::c146::c147::c148::c149::c150::c151::c152::c153::c154::c155::c156::c157::c158::c159::c160::c161::c162::c163::c164::c165::c166::c167::c168::c169::c170::c171::c172::c173::c174::c175::c176::c177::c178::c179::c180::c181::c182::c183::c184::c185::c186::c187::c188::c189::c190::c191::c192::c193::c194::c195::c196::c197::c198::c199::c200::c201::c202::c203::c204::c205::c206::c207::c208::c209::c210::c211::c212::c213::c214::c215::c216::c217::c218::c219::c220::c221::c222::c223::c224::c225::c226::c227::c228::c229::c230::c231::c232::c233::c234::c235::c236::c237::c238::c239::c240::c241::c242::c243::c244::c245::c246::c247::c248::c249::c250::c251::c252::c253::c254::c255::c256::c257::c258::c259::c260::c261::c262::c263::c264::c265::c266::c267::c268::c269::c270::c271::c272::c273::c274::c275::c276::c277::c278::c279::c280::c281::c282::c283::c284::c285::c286::c287::c288::c289::c290::c291::c292::c293::c294::c295::c296::c297::c298::c299::c300::c301::c302::u303::u304::u305::u306::u307::u308::u309::u310::u311::u312::u313::u314::u315::u316::u317::u318::u319::u320::u321::u322::u323::u324::u325::u326::u327::u328::u329::u330::u331::u332::u333::u334::u335::u336::u337::u338::u339::u340::u341::u342::u343::u344::u345::u346::u347::u348::u349::u350::u351::u352::u353::u354::u355::u356::u357::u358::u359::u360::u361::[]),[]⟩ wx)
  (hJ : ∀ (u9 u303 u304 u305 u306 u307 u308 u309 u310 u311 u312 u313 u314 u315 u316 u317 u318 u319 u320 u321 u322 u323 u324 u325 u326 u327 u328 u329 u330 u331 u332 u333 u334 u335 u336 u337 u338 u339 u340 u341 u342 u343 u344 u345 u346 u347 u348 u349 u350 u351 u352 u353 u354 u355 u356 u357 u358 u359 u360 u361 : Value) (wx : World) (d' : Array Value) (H' hs' : List UInt8) (wr' : Nat) (B' : List Bool) (p' i' : Nat),S0 x k w0 d0 wx d' q H' hs' wr' rd full [] B' p' ts i' → Q (.goto 0) ⟨List.toArray ((.pointer (some ⟨x.F,0,none⟩))::c1::c2::c3::c4::c5::c6::c7::c8::u9::c10::c11::c12::c13::c14::c15::c16::c17::c18::c19::c20::c21::c22::c23::c24::c25::c26::c27::c28::c29::c30::c31::c32::c33::c34::c35::c36::c37::c38::c39::c40::c41::c42::c43::c44::c45::c46::c47::c48::c49::c50::c51::c52::c53::c54::c55::c56::c57::c58::c59::c60::c61::c62::c63::c64::c65::c66::c67::c68::c69::c70::c71::c72::c73::c74::c75::c76::c77::c78::c79::c80::c81::c82::c83::c84::c85::c86::c87::c88::c89::c90::c91::c92::c93::c94::c95::c96::c97::c98::c99::c100::c101::c102::c103::c104::c105::c106::c107::c108::c109::c110::c111::c112::c113::c114::c115::c116::c117::c118::c119::c120::c121::c122::c123::c124::c125::c126::c127::c128::c129::c130::c131::c132::c133::c134::c135::c136::c137::c138::c139::c140::c141::c142::c143::c144::c145::c146::c147::c148::c149::c150::c151::c152::c153::c154::c155::c156::c157::c158::c159::c160::c161::c162::c163::c164::c165::c166::c167::c168::c169::c170::c171::c172::c173::c174::c175::c176::c177::c178::c179::c180::c181::c182::c183::c184::c185::c186::c187::c188::c189::c190::c191::c192::c193::c194::c195::c196::c197::c198::c199::c200::c201::c202::c203::c204::c205::c206::c207::c208::c209::c210::c211::c212::c213::c214::c215::c216::c217::c218::c219::c220::c221::c222::c223::c224::c225::c226::c227::c228::c229::c230::c231::c232::c233::c234::c235::c236::c237::c238::c239::c240::c241::c242::c243::c244::c245::c246::c247::c248::c249::c250::c251::c252::c253::c254::c255::c256::c257::c258::c259::c260::c261::c262::c263::c264::c265::c266::c267::c268::c269::c270::c271::c272::c273::c274::c275::c276::c277::c278::c279::c280::c281::c282::c283::c284::c285::c286::c287::c288::c289::c290::c291::c292::c293::c294::c295::c296::c297::c298::c299::c300::c301::c302::u303::u304::u305::u306::u307::u308::u309::u310::u311::u312::u313::u314::u315::u316::u317::u318::u319::u320::u321::u322::u323::u324::u325::u326::u327::u328::u329::u330::u331::u332::u333::u334::u335::u336::u337::u338::u339::u340::u341::u342::u343::u344::u345::u346::u347::u348::u349::u350::u351::u352::u353::u354::u355::u356::u357::u358::u359::u360::u361::[]),[]⟩ wx) :
  Code.wp Tryz.prog (lab69 1) Q ⟨List.toArray ((.pointer (some ⟨x.F,0,none⟩))::c1::c2::c3::c4::c5::c6::c7::c8::c9::c10::c11::c12::c13::c14::c15::c16::c17::c18::c19::c20::c21::c22::c23::c24::c25::c26::c27::c28::c29::c30::c31::c32::c33::c34::c35::c36::c37::c38::c39::c40::c41::c42::c43::c44::c45::c46::c47::c48::c49::c50::c51::c52::c53::c54::c55::c56::c57::c58::c59::c60::c61::c62::c63::c64::c65::c66::c67::c68::c69::c70::c71::c72::c73::c74::c75::c76::c77::c78::c79::c80::c81::c82::c83::c84::c85::c86::c87::c88::c89::c90::c91::c92::c93::c94::c95::c96::c97::c98::c99::c100::c101::c102::c103::c104::c105::c106::c107::c108::c109::c110::c111::c112::c113::c114::c115::c116::c117::c118::c119::c120::c121::c122::c123::c124::c125::c126::c127::c128::c129::c130::c131::c132::c133::c134::c135::c136::c137::c138::c139::c140::c141::c142::c143::c144::c145::c146::c147::c148::c149::c150::c151::c152::c153::c154::c155::c156::c157::c158::c159::c160::c161::c162::c163::c164::c165::c166::c167::c168::c169::c170::c171::c172::c173::c174::c175::c176::c177::c178::c179::c180::c181::c182::c183::c184::c185::c186::c187::c188::c189::c190::c191::c192::c193::c194::c195::c196::c197::c198::c199::c200::c201::c202::c203::c204::c205::c206::c207::c208::c209::c210::c211::c212::c213::c214::c215::c216::c217::c218::c219::c220::c221::c222::c223::c224::c225::c226::c227::c228::c229::c230::c231::c232::c233::c234::c235::c236::c237::c238::c239::c240::c241::c242::c243::c244::c245::c246::c247::c248::c249::c250::c251::c252::c253::c254::c255::c256::c257::c258::c259::c260::c261::c262::c263::c264::c265::c266::c267::c268::c269::c270::c271::c272::c273::c274::c275::c276::c277::c278::c279::c280::c281::c282::c283::c284::c285::c286::c287::c288::c289::c290::c291::c292::c293::c294::c295::c296::c297::c298::c299::c300::c301::c302::c303::c304::c305::c306::c307::c308::c309::c310::c311::c312::c313::c314::c315::c316::c317::c318::c319::c320::c321::c322::c323::c324::c325::c326::c327::c328::c329::c330::c331::c332::c333::c334::c335::c336::c337::c338::c339::c340::c341::c342::c343::c344::c345::c346::c347::c348::c349::c350::c351::c352::c353::c354::c355::c356::c357::c358::c359::c360::c361::[]),[]⟩ w:=by
 have HH:=Lib.hid h;have HRR:=Lib.hid hR;have HJJ:=Lib.hid hJ
 have hw:=h.dec.w3
 have hlt:=hw.lt
 have hrd:=hw.dd.rdle
 have hfar1:=h.far1
 have hfar2:=h.far2
 have hn:=h.n2
 have hhs:=hw.win.hsize_le
 have hc52 : w.cell? ⟨x.F,1052,none⟩ = some (.int .i64 n):=by rw [hw.dd.blk.cell];exact h.cl
 have hc53 : w.cell? ⟨x.F,1053,none⟩ = some (.int .i64 far):=by rw [hw.dd.blk.cell];exact h.cd
 have HF2:=Lib.hid hfar2
 have hf32 : far ≤ 32768:=by omega
 clear h hR hJ hw hfar2 hhs
 conv => arg 2;whnf
 go_upto_region 75 with (fail)
 refine region_tail2 11 (by kernel_rfl) (by kernel_rfl) ?_
 intro w1 hw1
 have he1 : Ext (fun _ => False) w w1:=by rw [hw1];exact (Ext.refl _ _).drew
 have hc52':=he1.cellSome (fun e => e) hc52
 have hc53':=he1.cellSome (fun e => e) hc53
 have HE1:=Lib.hid he1
 have HD1:=Lib.hid (HH.out.dec.w3.dd.ext he1 (fun e => e) (fun e => e))
 clear hw1 he1 hc52 hc53
 simp only [List.take_succ_cons,List.take_zero,List.drop_succ_cons,List.drop_zero]
 repeat still_step
 refine wpStill_nil ?_
 by_cases hyes : (far ≤ wr ∧ wr + n ≤ 32768) ∧ 0 < n
 ·have HC:=Lib.hid (tryWriteCopy_yes x.F x.hb d hs H wr rd far n full w1 HD1.out HH.out.dec.w3.win hfar1 hyes.1.1 hyes.1.2)
  have hn0 : ((n : Int) == 0) = false:=by simp;omega
  go_wp2_with fail
  refine HC.out.mono ?_
  rintro e w2 ⟨rfl,dc,hsc,hdc,hwc,hsm,hec⟩
  obtain ⟨m,hm⟩ : ∃ m,n = m:=⟨_,rfl⟩
  rw [hm] at hdc hwc ⊢
  have hmn : m ≤ n:=by omega
  have hmw : wr + m ≤ 32768:=by omega
  have hmf : wr + m < 32768 → m = n:=fun h => by omega
  have hcl : w2.cell? ⟨x.F,1052,none⟩ = some (.int .i64 n):=by rw [hdc.blk.cell,hsm.2 1052 (by omega)];exact HH.out.cl
  have hfrc:=hdc.blk.free
  have HDC:=Lib.hid hdc;have HWC:=Lib.hid hwc;have HSM:=Lib.hid hsm
  have HEC : Hid (Ext (fun j => j = x.F ∨ j = x.hb) w w2):=Lib.hid ((HE1.out.mono (fun _ _ e => e.elim)).trans hec)
  have hszc : dc.size = 1054:=by rw [hsm.1];exact HH.out.dec.sz
  clear hdc hwc hsm hec hm hc52' hc53' HC
  have hnm : (n : Int) - (m : Int) = ((n - m : Nat) : Int):=by omega
  obtain ⟨r,hr⟩ : ∃ r,n - m = r:=⟨_,rfl⟩
  rw [hr] at hnm
  have HRN:=Lib.hid hr
  have HAV:=Lib.hid (availWrite_any x.F x.hb (dc.setIfInBounds 1052 (.int .i64 (r : Int))) hsc (wr + m) rd full (w2.setCell ⟨x.F,1052,none⟩ (.int .i64 (r : Int))) (HDC.out.setF _ (by omega)))
  clear hr
  go_wp2_with fail
  refine HAV.out.mono ?_
  rintro e w3 ⟨rfl,he3⟩
  have hd3 : DD w3 x.F x.hb (dc.setIfInBounds 1052 (.int .i64 (r : Int))) hsc (wr + m) rd full:=(HDC.out.setF (k:=1052) (.int .i64 (r : Int)) (by omega)).ext he3 (fun e => e) (fun e => e)
  have hcl3 : w3.cell? ⟨x.F,1052,none⟩ = some (.int .i64 r):=by rw [hd3.blk.cell];exact set_eq _ (by omega)
  have hT3 : Tak x w3 (dc.setIfInBounds 1052 (.int .i64 (r : Int))) (toksBits k.lit k.dist ts ++ (codeBits k.lit 256 ++ k.Y)) w3 (dc.setIfInBounds 1052 (.int .i64 (r : Int))) BB p :=
   (((HH.out.dec.tk.wind ap HDC.out.blk HSM.out (fun j hj => by omega) HEC.out).setF ap (k:=1052) (.int .i64 (r : Int)) (by omega)).quiet he3).anew
  have hs3 : Same (fun j => j = 1038 ∨ j = 1052) d (dc.setIfInBounds 1052 (.int .i64 (r : Int))):=(HSM.out.mono (fun j e => .inl e)).set (.inr rfl) _
  have he3' : Ext (fun j => j = x.F ∨ j = x.hb) w w3:=(HEC.out.setCell (p:=⟨x.F,1052,none⟩) (fun _ => .inl rfl) _).trans (he3.mono (fun _ _ e => e.elim))
  have htab : Tabs x w3 (dc.setIfInBounds 1052 (.int .i64 (r : Int))) k.lit k.dist:=HH.out.tabs.stay HH.out.dec.tk.blk hd3.blk hs3 (fun j a b => by omega) ⟨by omega,by omega⟩ he3' (fun j hj => by rcases hj with e | e;exact .inl e;exact .inr (.inr (.inl e)))
  have hsz3 : (dc.setIfInBounds 1052 (.int .i64 (r : Int))).size = 1054:=by simp;exact hszc
  have hlen : (grow H far m).length = q + (wr + m - rd):=by
   have:=HH.out.dec.w3.len
   simp at *;omega
  obtain ⟨d3,hd3e⟩ : ∃ y,dc.setIfInBounds 1052 (.int .i64 (r : Int)) = y:=⟨_,rfl⟩
  have hcl52 : d3[1052]? = some (.int .i64 r):=by rw [← hd3e];exact set_eq _ (by omega)
  rw [hd3e] at hd3 hT3 hs3 htab hsz3
  have HD3:=Lib.hid hd3;have HT3:=Lib.hid hT3;have HS3:=Lib.hid hs3;have HE3:=Lib.hid he3';have HTAB:=Lib.hid htab;have HLEN:=Lib.hid hlen
  clear hd3e hd3 hT3 hs3 he3' htab he3 hcl hfrc hlen
  rcases Nat.lt_or_ge (wr + m) 32768 with hl | hg
  ·have hmn2 : m = n:=hmf hl
   have hr0 : r = 0:=by have:=HRN.out;omega
   have hq : (((32768 - (wr + m) : Nat) : Int) == 0) = false:=by simp;omega
   obtain ⟨av,hav⟩ : ∃ y,32768 - (wr + m) = y:=⟨_,rfl⟩
   rw [hav] at hq ⊢
   have hri : ¬ ((0 : Int) < (r : Int)):=by omega
   have hrd0 : decide ((0 : Int) < (r : Int)) = false:=by simp;omega
   have hjs : JS d3 (wr + m) full:=by
    rcases HH.out.js with e | e
    ·exact .inl (by rw [HS3.out.2 _ (by omega)];exact e)
    ·exact .inr ⟨by rw [HS3.out.2 _ (by omega)];exact e,by rw [hcl52,hr0];rfl,far,by rw [HS3.out.2 _ (by omega)];exact HH.out.cd,hfar1,Nat.le_trans HF2.out (hsize_up wr m full)⟩
   have HJS:=Lib.hid hjs
   have HMN:=Lib.hid hmn2
   clear hjs
   clear hav hr0 hmn2 hmf
   go_wp2_with fail
   refine wp_goto ?_
   refine HJJ.out _ _ _ _ _ _ _ _ _ _ _ _ _ _ _ _ _ _ _ _ _ _ _ _ _ _ _ _ _ _ _ _ _ _ _ _ _ _ _ _ _ _ _ _ _ _ _ _ _ _ _ _ _ _ _ _ _ _ _ _ w3 d3 (grow H far n) hsc (wr + m) BB p i ⟨⟨HT3.out,⟨HD3.out,by have:=HWC.out;rw [HMN.out] at this;rw [HMN.out];exact this,hl,HH.out.dec.w3.out.none _ (HS3.out.2 1049 (by omega)),?_,by simp⟩,hsz3⟩,HTAB.out,by rw [HS3.out.2 _ (by omega)];exact HH.out.fin,by rw [HS3.out.2 _ (by omega)];exact HH.out.err,HH.out.rest,HH.out.fit,HH.out.coded,HH.out.hist,?_,HH.out.hand,
    HH.out.same.trans (HS3.out.mono (fun j e => by unfold HBM;omega)),HH.out.ext.trans (HE3.out.mono (fun j _ e => by rcases e with e | e;exact .inl e;exact .inr (.inr e))),HJS.out⟩
   ·have:=HLEN.out;rw [HMN.out] at this ⊢;simpa using this
   ·have:=HH.out.base;simp;omega
  ·have hwe : wr + m = 32768:=by omega
   have hq : (((32768 - (wr + m) : Nat) : Int) == 0) = true:=by simp;omega
   have HR:=Lib.hid (readFlush_any x.F x.hb d3 hsc (wr + m) rd full w3 HD3.out (by omega))
   obtain ⟨av,hav⟩ : ∃ y,32768 - (wr + m) = y:=⟨_,rfl⟩
   rw [hav] at hq ⊢
   obtain ⟨fl,hfl⟩ : ∃ y,wr + m - rd = y:=⟨_,rfl⟩
   have HFL:=Lib.hid hfl
   have hfl1 : 1 ≤ fl:=by omega
   clear hav hfl
   go_wp2_with fail
   refine HR.out.mono ?_
   rintro e w4 ⟨d4,rfl,hd4,hs4,he4⟩
   rw [HFL.out]
   have hsz4 : d4.size = 1054:=by rw [hs4.1];exact hsz3
   have hb4:=hd4.blk
   have hfr4:=hb4.free
   have hc49 : ∃ v,w4.cell? ⟨x.F,1049,none⟩ = some v:=⟨d4[1049]'(by omega),by rw [hb4.cell,Array.getElem?_eq_getElem]⟩
   have hc45 : ∃ v,w4.cell? ⟨x.F,1045,none⟩ = some v:=⟨d4[1045]'(by omega),by rw [hb4.cell,Array.getElem?_eq_getElem]⟩
   have hc46 : ∃ v,w4.cell? ⟨x.F,1046,none⟩ = some v:=⟨d4[1046]'(by omega),by rw [hb4.cell,Array.getElem?_eq_getElem]⟩
   obtain ⟨y49,hc49⟩:=hc49
   obtain ⟨y45,hc45⟩:=hc45
   obtain ⟨y46,hc46⟩:=hc46
   have HD4:=Lib.hid hd4;have HS4:=Lib.hid hs4;have HE4:=Lib.hid he4
   clear hd4 hs4 he4 hb4 hmf
   go_wp2_with fail
   refine HRR.out _ _ _ _ _ _ _ _ _ _ _ _ _ _ _ _ _ _ _ _ _ _ _ _ _ _ _ _ _ _ _ _ _ _ _ _ _ _ _ _ _ _ _ _ _ _ _ _ _ _ _ _ _ _ _ _ _ _ _ _ _ ?_
   obtain ⟨T,wr5,fu5,t1,t2,t3,hW5⟩:=flushed_w3 (st:=1) HD4.out hsz4 HWC.out (by omega) HLEN.out
   rw [HFL.out] at hW5 t1
   have hTk:=(((HT3.out.wind ap HD4.out.blk HS4.out (fun j hj => by omega) (HE4.out.mono (fun _ _ e => .inl e))).setF ap (k:=1049) (.slice (some ⟨x.hb,rd,none⟩) fl (32768 - rd)) (by omega)).setF ap (k:=1045) (fnV 69) (by omega)).setF ap (k:=1046) (.int .i64 1) (by omega)
   have hs5 : Same (fun j => j = 1038 ∨ j = 1039 ∨ j = 1040 ∨ j = 1045 ∨ j = 1046 ∨ j = 1049) d3 (((d4.setIfInBounds 1049 (.slice (some ⟨x.hb,rd,none⟩) fl (32768 - rd))).setIfInBounds 1045 (fnV 69)).setIfInBounds 1046 (.int .i64 1)) :=
    (((HS4.out.mono (fun j h => by omega)).set (by omega) _).set (by omega) _).set (by omega) _
   have he5 : Ext (fun j => j = x.F) w3 (((w4.setCell ⟨x.F,1049,none⟩ (.slice (some ⟨x.hb,rd,none⟩) fl (32768 - rd))).setCell ⟨x.F,1045,none⟩ (fnV 69)).setCell ⟨x.F,1046,none⟩ (.int .i64 1)):=((HE4.out.only _).only _).only _
   obtain ⟨tt1,tt2⟩:=t2 hwe
   subst tt1 tt2
   have hgg : grow (grow H far m) far r = grow H far n:=by rw [← grow_add,show m + r = n by have:=HRN.out;omega]
   refine .copy (T:=T) (n:=r) (far:=far) ⟨⟨hTk,hW5,by simp;exact hsz4⟩,HTAB.out.stay HT3.out.blk hTk.blk hs5 (fun j a b => by omega) ⟨by omega,by omega⟩ he5 (fun _ e => .inl e),by rw [hs5.2 _ (by omega),HS3.out.2 _ (by omega)];exact HH.out.fin,by rw [hs5.2 _ (by omega),HS3.out.2 _ (by omega)];exact HH.out.err,HH.out.rest,HH.out.fit,HH.out.coded,by rw [hgg];exact HH.out.hist,?_,HH.out.hand,
    (HH.out.same.trans (HS3.out.mono (fun j e => by unfold HBM;omega))).trans (hs5.mono (fun j h => by unfold HBM;omega)),(HH.out.ext.trans (HE3.out.mono (fun j _ e => by rcases e with e | e;exact .inl e;exact .inr (.inr e)))).trans (he5.mono (fun _ _ e => .inl e)),by rw [hs5.2 _ (by omega)];exact hcl52,by rw [hs5.2 _ (by omega),HS3.out.2 _ (by omega)];exact HH.out.cd,hfar1,by simp [hsize];exact hf32,by have:=HRN.out;omega,.inr (set_eq _ (by simp;omega))⟩ (fun e => by rw [e] at t1;simp at t1;omega) (by rw [set_ne _ _ (by decide)];exact set_eq _ (by simp;omega)) (set_eq _ (by simp;omega))
   have:=HH.out.base;have:=HRN.out
   simp;omega
 ·have HC : Hid (Calls Tryz.prog 81 #[.pointer (some ⟨x.F,1037,none⟩),.int .i64 far,.int .i64 n] w1 fun e w' => e = .returned (.int .i64 0) ∧ ∃ c' hs',DD w' x.F x.hb c' hs' wr rd full ∧ Win hs' wr full H ∧ Same (fun k => k = 1038) d c' ∧ Ext (fun k => k = x.F ∨ k = x.hb) w1 w'):=by
   refine Lib.hid ?_
   by_cases hy2 : far ≤ wr ∧ wr + n ≤ 32768
   ·have hn0 : n = 0:=by
     rcases Nat.eq_zero_or_pos n with e | e
     ·exact e
     ·exact absurd ⟨hy2,e⟩ hyes
    subst hn0
    refine (tryWriteCopy_yes x.F x.hb d hs H wr rd far 0 full w1 HD1.out HH.out.dec.w3.win hfar1 hy2.1 hy2.2).mono ?_
    rintro e w' ⟨rfl,c',hs',a1,a2,a3,a4⟩
    exact ⟨rfl,c',hs',a1,a2,a3,a4⟩
   ·refine (tryWriteCopy_no x.F x.hb d hs wr rd far n full w1 HD1.out hf32 (by omega) (by omega)).mono ?_
    rintro e w' ⟨rfl,rfl⟩
    exact ⟨rfl,d,hs,HD1.out,HH.out.dec.w3.win,Same.refl _ _,Ext.refl _ _⟩
  clear hyes
  go_upto_region 77 with (fail)
  refine HC.out.mono ?_
  rintro e w2 ⟨rfl,d2,hs2,b1,b2,b3,b4⟩
  have hcl2 : w2.cell? ⟨x.F,1052,none⟩ = some (.int .i64 n):=by rw [b1.blk.cell,b3.2 1052 (by omega)];exact HH.out.cl
  have hcd2 : w2.cell? ⟨x.F,1053,none⟩ = some (.int .i64 far):=by rw [b1.blk.cell,b3.2 1053 (by omega)];exact HH.out.cd
  have HB1:=Lib.hid b1;have HB2:=Lib.hid b2;have HB3:=Lib.hid b3;have HB4:=Lib.hid b4
  clear b1 b2 b3 b4 HC
  go_wp2_with fail
  refine region_tail2 11 (by kernel_rfl) (by kernel_rfl) ?_
  intro w2' hw2
  have he2 : Ext (fun _ => False) w2 w2':=by rw [hw2];exact (Ext.refl _ _).drew
  have hcl2':=he2.cellSome (fun e => e) hcl2
  have hcd2':=he2.cellSome (fun e => e) hcd2
  have HE2:=Lib.hid he2
  have HD2:=Lib.hid (HB1.out.ext he2 (fun e => e) (fun e => e))
  clear hw2 he2 hcl2 hcd2
  obtain ⟨ee,hee⟩ : ∃ y,y = Nat.min (wr + n) 32768:=⟨_,rfl⟩
  have hee' : wr ≤ ee ∧ ee - wr ≤ n ∧ ee ≤ 32768 ∧ (ee < 32768 → ee = wr + n):=by
   rcases Nat.lt_or_ge (wr + n) 32768 with h5 | h5
   ·have:=Nat.min_eq_left (a:=wr + n) (b:=32768) (by omega)
    simp only [Nat.min_def] at *;split at hee <;> omega
   ·simp only [Nat.min_def] at *;split at hee <;> omega
  have HC2:=Lib.hid (writeCopy_any x.F x.hb d2 hs2 H wr rd far n ee full w2' HD2.out HB2.out hfar1 HF2.out (by omega) hee)
  clear hee
  simp only [List.take_succ_cons,List.take_zero,List.drop_succ_cons,List.drop_zero]
  repeat still_step
  refine wpStill_nil ?_
  go_wp2_with fail
  refine HC2.out.mono ?_
  rintro e w3 ⟨rfl,dc,hsc,hdc,hwc,hsm0,hec0⟩
  have hsm:=HB3.out.trans hsm0
  have hec:=HB4.out.trans ((HE2.out.mono (fun _ _ e => e.elim)).trans hec0)
  clear hsm0 hec0
  obtain ⟨m,hm⟩ : ∃ m,ee - wr = m:=⟨_,rfl⟩
  rw [hm] at hdc hwc ⊢
  have hmn : m ≤ n:=by omega
  have hmw : wr + m ≤ 32768:=by omega
  have hmf : wr + m < 32768 → m = n:=fun h => by omega
  have hcl : w3.cell? ⟨x.F,1052,none⟩ = some (.int .i64 n):=by rw [hdc.blk.cell,hsm.2 1052 (by omega)];exact HH.out.cl
  have hfrc:=hdc.blk.free
  have HDC:=Lib.hid hdc;have HWC:=Lib.hid hwc;have HSM:=Lib.hid hsm
  have HEC : Hid (Ext (fun j => j = x.F ∨ j = x.hb) w w3):=Lib.hid ((HE1.out.mono (fun _ _ e => e.elim)).trans hec)
  have hszc : dc.size = 1054:=by rw [hsm.1];exact HH.out.dec.sz
  clear hdc hwc hsm hec hm hc52' hc53' HC2
  have hnm : (n : Int) - (m : Int) = ((n - m : Nat) : Int):=by omega
  obtain ⟨r,hr⟩ : ∃ r,n - m = r:=⟨_,rfl⟩
  rw [hr] at hnm
  have HRN:=Lib.hid hr
  have HAV:=Lib.hid (availWrite_any x.F x.hb (dc.setIfInBounds 1052 (.int .i64 (r : Int))) hsc (wr + m) rd full (w3.setCell ⟨x.F,1052,none⟩ (.int .i64 (r : Int))) (HDC.out.setF _ (by omega)))
  clear hr
  go_wp2_with fail
  refine HAV.out.mono ?_
  rintro e w3 ⟨rfl,he3⟩
  have hd3 : DD w3 x.F x.hb (dc.setIfInBounds 1052 (.int .i64 (r : Int))) hsc (wr + m) rd full:=(HDC.out.setF (k:=1052) (.int .i64 (r : Int)) (by omega)).ext he3 (fun e => e) (fun e => e)
  have hcl3 : w3.cell? ⟨x.F,1052,none⟩ = some (.int .i64 r):=by rw [hd3.blk.cell];exact set_eq _ (by omega)
  have hT3 : Tak x w3 (dc.setIfInBounds 1052 (.int .i64 (r : Int))) (toksBits k.lit k.dist ts ++ (codeBits k.lit 256 ++ k.Y)) w3 (dc.setIfInBounds 1052 (.int .i64 (r : Int))) BB p :=
   (((HH.out.dec.tk.wind ap HDC.out.blk HSM.out (fun j hj => by omega) HEC.out).setF ap (k:=1052) (.int .i64 (r : Int)) (by omega)).quiet he3).anew
  have hs3 : Same (fun j => j = 1038 ∨ j = 1052) d (dc.setIfInBounds 1052 (.int .i64 (r : Int))):=(HSM.out.mono (fun j e => .inl e)).set (.inr rfl) _
  have he3' : Ext (fun j => j = x.F ∨ j = x.hb) w w3:=(HEC.out.setCell (p:=⟨x.F,1052,none⟩) (fun _ => .inl rfl) _).trans (he3.mono (fun _ _ e => e.elim))
  have htab : Tabs x w3 (dc.setIfInBounds 1052 (.int .i64 (r : Int))) k.lit k.dist:=HH.out.tabs.stay HH.out.dec.tk.blk hd3.blk hs3 (fun j a b => by omega) ⟨by omega,by omega⟩ he3' (fun j hj => by rcases hj with e | e;exact .inl e;exact .inr (.inr (.inl e)))
  have hsz3 : (dc.setIfInBounds 1052 (.int .i64 (r : Int))).size = 1054:=by simp;exact hszc
  have hlen : (grow H far m).length = q + (wr + m - rd):=by
   have:=HH.out.dec.w3.len
   simp at *;omega
  obtain ⟨d3,hd3e⟩ : ∃ y,dc.setIfInBounds 1052 (.int .i64 (r : Int)) = y:=⟨_,rfl⟩
  have hcl52 : d3[1052]? = some (.int .i64 r):=by rw [← hd3e];exact set_eq _ (by omega)
  rw [hd3e] at hd3 hT3 hs3 htab hsz3
  have HD3:=Lib.hid hd3;have HT3:=Lib.hid hT3;have HS3:=Lib.hid hs3;have HE3:=Lib.hid he3';have HTAB:=Lib.hid htab;have HLEN:=Lib.hid hlen
  clear hd3e hd3 hT3 hs3 he3' htab he3 hcl hfrc hlen
  rcases Nat.lt_or_ge (wr + m) 32768 with hl | hg
  ·have hmn2 : m = n:=hmf hl
   have hr0 : r = 0:=by have:=HRN.out;omega
   have hq : (((32768 - (wr + m) : Nat) : Int) == 0) = false:=by simp;omega
   obtain ⟨av,hav⟩ : ∃ y,32768 - (wr + m) = y:=⟨_,rfl⟩
   rw [hav] at hq ⊢
   have hri : ¬ ((0 : Int) < (r : Int)):=by omega
   have hrd0 : decide ((0 : Int) < (r : Int)) = false:=by simp;omega
   have hjs : JS d3 (wr + m) full:=by
    rcases HH.out.js with e | e
    ·exact .inl (by rw [HS3.out.2 _ (by omega)];exact e)
    ·exact .inr ⟨by rw [HS3.out.2 _ (by omega)];exact e,by rw [hcl52,hr0];rfl,far,by rw [HS3.out.2 _ (by omega)];exact HH.out.cd,hfar1,Nat.le_trans HF2.out (hsize_up wr m full)⟩
   have HJS:=Lib.hid hjs
   have HMN:=Lib.hid hmn2
   clear hjs
   clear hav hr0 hmn2 hmf
   go_wp2_with fail
   refine wp_goto ?_
   refine HJJ.out _ _ _ _ _ _ _ _ _ _ _ _ _ _ _ _ _ _ _ _ _ _ _ _ _ _ _ _ _ _ _ _ _ _ _ _ _ _ _ _ _ _ _ _ _ _ _ _ _ _ _ _ _ _ _ _ _ _ _ _ w3 d3 (grow H far n) hsc (wr + m) BB p i ⟨⟨HT3.out,⟨HD3.out,by have:=HWC.out;rw [HMN.out] at this;rw [HMN.out];exact this,hl,HH.out.dec.w3.out.none _ (HS3.out.2 1049 (by omega)),?_,by simp⟩,hsz3⟩,HTAB.out,by rw [HS3.out.2 _ (by omega)];exact HH.out.fin,by rw [HS3.out.2 _ (by omega)];exact HH.out.err,HH.out.rest,HH.out.fit,HH.out.coded,HH.out.hist,?_,HH.out.hand,
    HH.out.same.trans (HS3.out.mono (fun j e => by unfold HBM;omega)),HH.out.ext.trans (HE3.out.mono (fun j _ e => by rcases e with e | e;exact .inl e;exact .inr (.inr e))),HJS.out⟩
   ·have:=HLEN.out;rw [HMN.out] at this ⊢;simpa using this
   ·have:=HH.out.base;simp;omega
  ·have hwe : wr + m = 32768:=by omega
   have hq : (((32768 - (wr + m) : Nat) : Int) == 0) = true:=by simp;omega
   have HR:=Lib.hid (readFlush_any x.F x.hb d3 hsc (wr + m) rd full w3 HD3.out (by omega))
   obtain ⟨av,hav⟩ : ∃ y,32768 - (wr + m) = y:=⟨_,rfl⟩
   rw [hav] at hq ⊢
   obtain ⟨fl,hfl⟩ : ∃ y,wr + m - rd = y:=⟨_,rfl⟩
   have HFL:=Lib.hid hfl
   have hfl1 : 1 ≤ fl:=by omega
   clear hav hfl
   go_wp2_with fail
   refine HR.out.mono ?_
   rintro e w4 ⟨d4,rfl,hd4,hs4,he4⟩
   rw [HFL.out]
   have hsz4 : d4.size = 1054:=by rw [hs4.1];exact hsz3
   have hb4:=hd4.blk
   have hfr4:=hb4.free
   have hc49 : ∃ v,w4.cell? ⟨x.F,1049,none⟩ = some v:=⟨d4[1049]'(by omega),by rw [hb4.cell,Array.getElem?_eq_getElem]⟩
   have hc45 : ∃ v,w4.cell? ⟨x.F,1045,none⟩ = some v:=⟨d4[1045]'(by omega),by rw [hb4.cell,Array.getElem?_eq_getElem]⟩
   have hc46 : ∃ v,w4.cell? ⟨x.F,1046,none⟩ = some v:=⟨d4[1046]'(by omega),by rw [hb4.cell,Array.getElem?_eq_getElem]⟩
   obtain ⟨y49,hc49⟩:=hc49
   obtain ⟨y45,hc45⟩:=hc45
   obtain ⟨y46,hc46⟩:=hc46
   have HD4:=Lib.hid hd4;have HS4:=Lib.hid hs4;have HE4:=Lib.hid he4
   clear hd4 hs4 he4 hb4 hmf
   go_wp2_with fail
   refine HRR.out _ _ _ _ _ _ _ _ _ _ _ _ _ _ _ _ _ _ _ _ _ _ _ _ _ _ _ _ _ _ _ _ _ _ _ _ _ _ _ _ _ _ _ _ _ _ _ _ _ _ _ _ _ _ _ _ _ _ _ _ _ ?_
   obtain ⟨T,wr5,fu5,t1,t2,t3,hW5⟩:=flushed_w3 (st:=1) HD4.out hsz4 HWC.out (by omega) HLEN.out
   rw [HFL.out] at hW5 t1
   have hTk:=(((HT3.out.wind ap HD4.out.blk HS4.out (fun j hj => by omega) (HE4.out.mono (fun _ _ e => .inl e))).setF ap (k:=1049) (.slice (some ⟨x.hb,rd,none⟩) fl (32768 - rd)) (by omega)).setF ap (k:=1045) (fnV 69) (by omega)).setF ap (k:=1046) (.int .i64 1) (by omega)
   have hs5 : Same (fun j => j = 1038 ∨ j = 1039 ∨ j = 1040 ∨ j = 1045 ∨ j = 1046 ∨ j = 1049) d3 (((d4.setIfInBounds 1049 (.slice (some ⟨x.hb,rd,none⟩) fl (32768 - rd))).setIfInBounds 1045 (fnV 69)).setIfInBounds 1046 (.int .i64 1)) :=
    (((HS4.out.mono (fun j h => by omega)).set (by omega) _).set (by omega) _).set (by omega) _
   have he5 : Ext (fun j => j = x.F) w3 (((w4.setCell ⟨x.F,1049,none⟩ (.slice (some ⟨x.hb,rd,none⟩) fl (32768 - rd))).setCell ⟨x.F,1045,none⟩ (fnV 69)).setCell ⟨x.F,1046,none⟩ (.int .i64 1)):=((HE4.out.only _).only _).only _
   obtain ⟨tt1,tt2⟩:=t2 hwe
   subst tt1 tt2
   have hgg : grow (grow H far m) far r = grow H far n:=by rw [← grow_add,show m + r = n by have:=HRN.out;omega]
   refine .copy (T:=T) (n:=r) (far:=far) ⟨⟨hTk,hW5,by simp;exact hsz4⟩,HTAB.out.stay HT3.out.blk hTk.blk hs5 (fun j a b => by omega) ⟨by omega,by omega⟩ he5 (fun _ e => .inl e),by rw [hs5.2 _ (by omega),HS3.out.2 _ (by omega)];exact HH.out.fin,by rw [hs5.2 _ (by omega),HS3.out.2 _ (by omega)];exact HH.out.err,HH.out.rest,HH.out.fit,HH.out.coded,by rw [hgg];exact HH.out.hist,?_,HH.out.hand,
    (HH.out.same.trans (HS3.out.mono (fun j e => by unfold HBM;omega))).trans (hs5.mono (fun j h => by unfold HBM;omega)),(HH.out.ext.trans (HE3.out.mono (fun j _ e => by rcases e with e | e;exact .inl e;exact .inr (.inr e)))).trans (he5.mono (fun _ _ e => .inl e)),by rw [hs5.2 _ (by omega)];exact hcl52,by rw [hs5.2 _ (by omega),HS3.out.2 _ (by omega)];exact HH.out.cd,hfar1,by simp [hsize];exact hf32,by have:=HRN.out;omega,.inr (set_eq _ (by simp;omega))⟩ (fun e => by rw [e] at t1;simp at t1;omega) (by rw [set_ne _ _ (by decide)];exact set_eq _ (by simp;omega)) (set_eq _ (by simp;omega))
   have:=HH.out.base;have:=HRN.out
   simp;omega
end Go.Proofs.YthpapbilhjobnaaGreatDoor
