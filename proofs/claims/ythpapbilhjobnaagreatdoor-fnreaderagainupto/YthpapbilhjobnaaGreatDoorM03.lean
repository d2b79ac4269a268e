/-
  Parts of the proofs over the reader and the encoder of streams, joined: Nb. Conditions: each theorem names its own.
-/
import Derived.Test.YthpapbilhjobnaaGreatDoorM01
import Derived.Test.YthpapbilhjobnaaGreatDoorM02
import Derived.Deep.LoopGhost
import Derived.Deep.CutBlock
set_option linter.unusedVariables false
set_option linter.unusedSimpArgs false
namespace Go.Proofs.YthpapbilhjobnaaGreatDoor
open Go.RowKit Pu
variable {c0 c1 c2 c3 c4 c5 c6 c7 c8 c9 c10 c11 c12 c13 c14 c15 c16 c17 c18 c19 c20 c21 c22 c23 c24 c25 c26 c27 c28 c29 c30 c31 c32 c33 c34 c35 c36 c37 c38 c39 c40 c41 c42 c43 c44 c45 c46 c47 c48 c49 c50 c51 c52 c53 c54 c55 c56 c57 c58 c59 c60 c61 c62 c63 c64 c65 c66 c67 c68 c69 c70 c71 c72 c73 c74 c75 c76 c77 c78 c79 c80 c81 c82 c83 c84 c85 c86 c87 c88 c89 c90 c91 c92 c93 c94 c95 c96 c97 c98 c99 c100 c101 c102 c103 c104 c105 c106 c107 c108 c109 c110 c111 c112 c113 c114 c115 c116 c117 c118 c119 c120 c121 c122 c123 c124 c125 c126 c127 c128 c129 c130 c131 c132 c133 c134 c135 c136 c137 c138 c139 c140 c141 c142 c143 c144 c145 c146 c147 c148 c149 c150 c151 c152 c153 c154 c155 c156 c157 c158 c159 c160 c161 c162 c163 c164 c165 c166 c167 c168 c169 c170 c171 c172 c173 c174 c175 c176 c177 c178 c179 c180 c181 c182 c183 c184 c185 c186 c187 c188 c189 c190 c191 c192 c193 c194 c195 c196 c197 c198 c199 c200 c201 c202 c203 c204 c205 c206 c207 c208 c209 c210 c211 c212 c213 c214 c215 c216 c217 c218 c219 c220 c221 c222 c223 c224 c225 c226 c227 c228 c229 c230 c231 c232 c233 c234 c235 c236 c237 c238 c239 c240 c241 c242 c243 c244 c245 c246 c247 c248 c249 c250 c251 c252 c253 c254 c255 c256 c257 c258 c259 c260 c261 c262 c263 c264 c265 c266 c267 c268 c269 c270 c271 c272 c273 c274 c275 c276 c277 c278 c279 c280 c281 c282 c283 c284 c285 c286 c287 c288 c289 c290 c291 c292 c293 c294 c295 c296 c297 c298 c299 c300 c301 c302 c303 c304 c305 c306 c307 c308 c309 c310 c311 c312 c313 c314 c315 c316 c317 c318 c319 c320 c321 c322 c323 c324 c325 c326 c327 c328 c329 c330 c331 c332 c333 c334 c335 c336 c337 c338 c339 c340 c341 c342 c343 c344 c345 c346 c347 c348 c349 c350 c351 c352 c353 c354 c355 c356 c357 c358 c359 c360 c361 : Value}
set_option maxRecDepth 100000 in
set_option maxHeartbeats 4000000 in
theorem need70_0 (x : Pl) (ap : Apart x) (w0 w : World) (c0 c : Array Value) (BB Y : List Bool) (p : Nat) (h : Tak x w0 c0 Y w c BB p) (hsz : c0.size = 1054) (hY : 14 ≤ Y.length) (hBB : BB.length ≤ 24) (Q : Exit → Act → World → Prop)
  (hK : ∀ (u2 u3 u19 u20 u21 u22 u23 u24 u25 u26 u27 u28 : Value) (wx : World) (c' : Array Value) (B' : List Bool) (p' : Nat),Tak x w0 c0 Y wx c' B' p' → 14 ≤ B'.length → (B'.length < 14 + 8 ∨ B'.length = BB.length) → Q .normal ⟨List.toArray ((.pointer (some ⟨x.F,0,none⟩))::c1::u2::u3::c4::c5::c6::c7::c8::c9::c10::c11::c12::c13::c14::c15::c16::c17::c18::u19::u20::u21::u22::u23::u24::u25::u26::u27::u28::c29::c30::c31::c32::c33::c34::c35::c36::c37::c38::c39::c40::c41::c42::c43::c44::c45::c46::c47::c48::c49::c50::c51::c52::c53::c54::c55::c56::c57::c58::c59::c60::c61::c62::c63::c64::c65::c66::c67::c68::c69::c70::c71::c72::c73::c74::c75::c76::c77::c78::c79::c80::c81::c82::c83::c84::c85::c86::c87::c88::c89::c90::c91::c92::c93::c94::c95::c96::c97::c98::c99::c100::c101::c102::c103::c104::c105::c106::c107::c108::c109::c110::c111::c112::c113::c114::c115::c116::c117::c118::c119::c120::c121::c122::c123::c124::c125::c126::c127::c128::c129::c130::c131::c132::c133::c134::c135::c136::c137::c138::c139::c140::c141::c142::c143::c144::c145::c146::c147::c148::c149::c150::c151::c152::c153::c154::c155::c156::c157::c158::c159::c160::c161::c162::c163::c164::c165::c166::c167::c168::c169::c170::c171::c172::c173::c174::c175::c176::c177::c178::c179::c180::c181::c182::c183::c184::c185::c186::c187::c188::c189::c190::c191::c192::c193::c194::c195::c196::c197::c198::c199::c200::c201::c202::c203::c204::c205::c206::c207::c208::c209::c210::c211::c212::c213::c214::c215::c216::c217::c218::c219::c220::c221::c222::c223::c224::c225::c226::c227::c228::c229::c230::c231::c232::c233::c234::c235::c236::c237::c238::c239::c240::c241::c242::c243::c244::c245::c246::c247::c248::c249::c250::c251::c252::c253::c254::c255::c256::c257::c258::c259::c260::c261::c262::c263::c264::c265::c266::c267::c268::c269::c270::c271::c272::c273::c274::c275::c276::c277::c278::c279::c280::c281::c282::c283::c284::c285::c286::c287::c288::c289::c290::c291::c292::c293::c294::c295::c296::c297::c298::c299::c300::c301::c302::c303::c304::c305::c306::c307::c308::c309::c310::c311::c312::c313::c314::c315::c316::c317::c318::c319::c320::c321::c322::c323::c324::c325::c326::c327::c328::c329::c330::c331::c332::c333::c334::c335::c336::c337::c338::c339::[]),[]⟩ wx)
  (hR : ∀ (u2 u3 u19 u20 u21 u22 u23 u24 u25 u26 u27 u28 : Value) (wx wy : World) (c' : Array Value) (B' : List Bool) (p' : Nat),Tak x w0 c0 Y wy c' B' p' → x.ext ≠ [] → u2 = .iface 175 (.pointer (some x.U)) ∧ wx = wy → Q .ret ⟨List.toArray ((.pointer (some ⟨x.F,0,none⟩))::c1::u2::u3::c4::c5::c6::c7::c8::c9::c10::c11::c12::c13::c14::c15::c16::c17::c18::u19::u20::u21::u22::u23::u24::u25::u26::u27::u28::c29::c30::c31::c32::c33::c34::c35::c36::c37::c38::c39::c40::c41::c42::c43::c44::c45::c46::c47::c48::c49::c50::c51::c52::c53::c54::c55::c56::c57::c58::c59::c60::c61::c62::c63::c64::c65::c66::c67::c68::c69::c70::c71::c72::c73::c74::c75::c76::c77::c78::c79::c80::c81::c82::c83::c84::c85::c86::c87::c88::c89::c90::c91::c92::c93::c94::c95::c96::c97::c98::c99::c100::c101::c102::c103::c104::c105::c106::c107::c108::c109::c110::c111::c112::c113::c114::c115::c116::c117::c118::c119::c120::c121::c122::c123::c124::c125::c126::c127::c128::c129::c130::c131::c132::c133::c134::c135::c136::c137::c138::c139::c140::c141::c142::c143::c144::c145::c146::c147::c148::c149::c150::c151::c152::c153::c154::c155::c156::c157::c158::c159::c160::c161::c162::c163::c164::c165::c166::c167::c168::c169::c170::c171::c172::c173::c174::c175::c176::c177::c178::c179::c180::c181::c182::c183::c184::c185::c186::c187::c188::c189::c190::c191::c192::c193::c194::c195::c196::c197::c198::c199::c200::c201::c202::c203::c204::c205::c206::c207::c208::c209::c210::c211::c212::c213::c214::c215::c216::c217::c218::c219::c220::c221::c222::c223::c224::c225::c226::c227::c228::c229::c230::c231::c232::c233::c234::c235::c236::c237::c238::c239::c240::c241::c242::c243::c244::c245::c246::c247::c248::c249::c250::c251::c252::c253::c254::c255::c256::c257::c258::c259::c260::c261::c262::c263::c264::c265::c266::c267::c268::c269::c270::c271::c272::c273::c274::c275::c276::c277::c278::c279::c280::c281::c282::c283::c284::c285::c286::c287::c288::c289::c290::c291::c292::c293::c294::c295::c296::c297::c298::c299::c300::c301::c302::c303::c304::c305::c306::c307::c308::c309::c310::c311::c312::c313::c314::c315::c316::c317::c318::c319::c320::c321::c322::c323::c324::c325::c326::c327::c328::c329::c330::c331::c332::c333::c334::c335::c336::c337::c338::c339::[]),[]⟩ wx) :
  Code.wp Tryz.prog (blk70 0) Q ⟨List.toArray ((.pointer (some ⟨x.F,0,none⟩))::c1::c2::c3::c4::c5::c6::c7::c8::c9::c10::c11::c12::c13::c14::c15::c16::c17::c18::c19::c20::c21::c22::c23::c24::c25::c26::c27::c28::c29::c30::c31::c32::c33::c34::c35::c36::c37::c38::c39::c40::c41::c42::c43::c44::c45::c46::c47::c48::c49::c50::c51::c52::c53::c54::c55::c56::c57::c58::c59::c60::c61::c62::c63::c64::c65::c66::c67::c68::c69::c70::c71::c72::c73::c74::c75::c76::c77::c78::c79::c80::c81::c82::c83::c84::c85::c86::c87::c88::c89::c90::c91::c92::c93::c94::c95::c96::c97::c98::c99::c100::c101::c102::c103::c104::c105::c106::c107::c108::c109::c110::c111::c112::c113::c114::c115::c116::c117::c118::c119::c120::c121::c122::c123::c124::c125::c126::c127::c128::c129::c130::c131::c132::c133::c134::c135::c136::c137::c138::c139::c140::c141::c142::c143::c144::c145::c146::c147::c148::c149::c150::c151::c152::c153::c154::c155::c156::c157::c158::c159::c160::c161::c162::c163::c164::c165::c166::c167::c168::c169::c170::c171::c172::c173::c174::c175::c176::c177::c178::c179::c180::c181::c182::c183::c184::c185::c186::c187::c188::c189::c190::c191::c192::c193::c194::c195::c196::c197::c198::c199::c200::c201::c202::c203::c204::c205::c206::c207::c208::c209::c210::c211::c212::c213::c214::c215::c216::c217::c218::c219::c220::c221::c222::c223::c224::c225::c226::c227::c228::c229::c230::c231::c232::c233::c234::c235::c236::c237::c238::c239::c240::c241::c242::c243::c244::c245::c246::c247::c248::c249::c250::c251::c252::c253::c254::c255::c256::c257::c258::c259::c260::c261::c262::c263::c264::c265::c266::c267::c268::c269::c270::c271::c272::c273::c274::c275::c276::c277::c278::c279::c280::c281::c282::c283::c284::c285::c286::c287::c288::c289::c290::c291::c292::c293::c294::c295::c296::c297::c298::c299::c300::c301::c302::c303::c304::c305::c306::c307::c308::c309::c310::c311::c312::c313::c314::c315::c316::c317::c318::c319::c320::c321::c322::c323::c324::c325::c326::c327::c328::c329::c330::c331::c332::c333::c334::c335::c336::c337::c338::c339::[]),[]⟩ w:=by
 have H:=Lib.hid h;have HKK:=Lib.hid hK;have HRR:=Lib.hid hR
 clear h hK hR
 conv => arg 2;whnf
 go_wp2_with fail
 obtain ⟨n0,hn0⟩ : ∃ n,BB.length = n:=⟨_,rfl⟩
 have HN0:=Lib.hid hn0
 rw [hn0] at hBB
 clear hn0
 obtain ⟨k0,hk0⟩ : ∃ k,64 - n0 = k:=⟨_,rfl⟩
 have HK0:=Lib.hid hk0
 clear hk0
 go_loopg [] k0 (fun k wx => ∃ (c' : Array Value) (B' : List Bool) (p' : Nat),Tak x w0 c0 Y wx c' B' p' ∧ (B'.length < 14 + 8 ∨ B'.length = n0) ∧ n0 ≤ B'.length ∧ k = 64 - B'.length)
 case atStart => exact ⟨c,BB,p,H.out,.inr HN0.out,by rw [HN0.out];exact Nat.le_refl _,by rw [HN0.out];exact HK0.out.symm⟩
 case round =>
  obtain ⟨c',B',p',hT,hb1,hb2,hk⟩:=hrel
  obtain ⟨wo,rfl⟩ : ∃ wo : World,wo = wr:=⟨_,rfl⟩
  obtain ⟨hc3,hc4⟩:=hT.cells
  have hf:=hT.blk.free
  obtain ⟨nb,hnb⟩ : ∃ n,B'.length = n:=⟨_,rfl⟩
  rw [hnb] at hc4 hb1 hb2 hk
  have HT:=Lib.hid hT;have HK:=Lib.hid hk;have HNB:=Lib.hid hnb;have HB1:=Lib.hid hb1
  have hnb24 : nb ≤ 31:=by omega
  clear hT hk hnb hb1 hc3
  rcases Nat.lt_or_ge nb 14 with hlt | hge
  ·have hn24 : nb ≤ 24:=by omega
   rcases Nat.lt_or_ge p' x.src.length with hp | hp
   ·have HM:=Lib.hid (HT.out.more ap hp (by rw [HNB.out];exact hn24))
    go_wp2_with fail
    refine HM.out.mono ?_
    rintro e w1 ⟨rfl,c1,hT1⟩
    have HT1:=Lib.hid hT1
    clear hT1
    go_wp2_with fail
    go_roundg (64 - (nb + 8))
    case measure => have:=HK.out;omega
    case rel =>
     have hl : (B' ++ lsb x.src[p'].toNat 8).length = nb + 8:=by rw [List.length_append,length_lsb,HNB.out]
     exact ⟨c1,_,_,HT1.out,.inl (by rw [hl];omega),by rw [hl];omega,by rw [hl]⟩
   ·obtain ⟨hx,hpe⟩:=HT.out.short (by omega) (by rw [HNB.out];omega)
    have HM:=Lib.hid (HT.out.over ap hpe)
    go_wp2_with fail
    refine HM.out.mono ?_
    rintro e w1 ⟨rfl,hT1⟩
    skip
    have HT1:=Lib.hid hT1
    clear hT1
    go_wp2_with fail
    exact HRR.out _ _ _ _ _ _ _ _ _ _ _ _ _ w1 c' B' p' HT1.out hx ⟨rfl,rfl⟩
  ·go_wp2_with fail
   exact HKK.out _ _ _ _ _ _ _ _ _ _ _ _ _ c' B' p' HT.out (by rw [HNB.out];exact hge) (by rw [HNB.out,HN0.out];exact HB1.out)
set_option maxRecDepth 100000 in
set_option maxHeartbeats 4000000 in
theorem need70_4 (x : Pl) (ap : Apart x) (w0 w : World) (c0 c : Array Value) (BB Y : List Bool) (p : Nat) (h : Tak x w0 c0 Y w c BB p) (hsz : c0.size = 1054) (hY : 3 ≤ Y.length) (hBB : BB.length ≤ 24) (Q : Exit → Act → World → Prop)
  (hK : ∀ (u2 u8 u97 u98 u99 u100 u101 u102 u103 u104 u105 u106 : Value) (wx : World) (c' : Array Value) (B' : List Bool) (p' : Nat),Tak x w0 c0 Y wx c' B' p' → 3 ≤ B'.length → (B'.length < 3 + 8 ∨ B'.length = BB.length) → Q .normal ⟨List.toArray ((.pointer (some ⟨x.F,0,none⟩))::c1::u2::c3::c4::c5::c6::c7::u8::c9::c10::c11::c12::c13::c14::c15::c16::c17::c18::c19::c20::c21::c22::c23::c24::c25::c26::c27::c28::c29::c30::c31::c32::c33::c34::c35::c36::c37::c38::c39::c40::c41::c42::c43::c44::c45::c46::c47::c48::c49::c50::c51::c52::c53::c54::c55::c56::c57::c58::c59::c60::c61::c62::c63::c64::c65::c66::c67::c68::c69::c70::c71::c72::c73::c74::c75::c76::c77::c78::c79::c80::c81::c82::c83::c84::c85::c86::c87::c88::c89::c90::c91::c92::c93::c94::c95::c96::u97::u98::u99::u100::u101::u102::u103::u104::u105::u106::c107::c108::c109::c110::c111::c112::c113::c114::c115::c116::c117::c118::c119::c120::c121::c122::c123::c124::c125::c126::c127::c128::c129::c130::c131::c132::c133::c134::c135::c136::c137::c138::c139::c140::c141::c142::c143::c144::c145::c146::c147::c148::c149::c150::c151::c152::c153::c154::c155::c156::c157::c158::c159::c160::c161::c162::c163::c164::c165::c166::c167::c168::c169::c170::c171::c172::c173::c174::c175::c176::c177::c178::c179::c180::c181::c182::c183::c184::c185::c186::c187::c188::c189::c190::c191::c192::c193::c194::c195::c196::c197::c198::c199::c200::c201::c202::c203::c204::c205::c206::c207::c208::c209::c210::c211::c212::c213::c214::c215::c216::c217::c218::c219::c220::c221::c222::c223::c224::c225::c226::c227::c228::c229::c230::c231::c232::c233::c234::c235::c236::c237::c238::c239::c240::c241::c242::c243::c244::c245::c246::c247::c248::c249::c250::c251::c252::c253::c254::c255::c256::c257::c258::c259::c260::c261::c262::c263::c264::c265::c266::c267::c268::c269::c270::c271::c272::c273::c274::c275::c276::c277::c278::c279::c280::c281::c282::c283::c284::c285::c286::c287::c288::c289::c290::c291::c292::c293::c294::c295::c296::c297::c298::c299::c300::c301::c302::c303::c304::c305::c306::c307::c308::c309::c310::c311::c312::c313::c314::c315::c316::c317::c318::c319::c320::c321::c322::c323::c324::c325::c326::c327::c328::c329::c330::c331::c332::c333::c334::c335::c336::c337::c338::c339::[]),[]⟩ wx)
  (hR : ∀ (u2 u8 u97 u98 u99 u100 u101 u102 u103 u104 u105 u106 : Value) (wx wy : World) (c' : Array Value) (B' : List Bool) (p' : Nat),Tak x w0 c0 Y wy c' B' p' → x.ext ≠ [] → u2 = .iface 175 (.pointer (some x.U)) ∧ wx = wy → Q .ret ⟨List.toArray ((.pointer (some ⟨x.F,0,none⟩))::c1::u2::c3::c4::c5::c6::c7::u8::c9::c10::c11::c12::c13::c14::c15::c16::c17::c18::c19::c20::c21::c22::c23::c24::c25::c26::c27::c28::c29::c30::c31::c32::c33::c34::c35::c36::c37::c38::c39::c40::c41::c42::c43::c44::c45::c46::c47::c48::c49::c50::c51::c52::c53::c54::c55::c56::c57::c58::c59::c60::c61::c62::c63::c64::c65::c66::c67::c68::c69::c70::c71::c72::c73::c74::c75::c76::c77::c78::c79::c80::c81::c82::c83::c84::c85::c86::c87::c88::c89::c90::c91::c92::c93::c94::c95::c96::u97::u98::u99::u100::u101::u102::u103::u104::u105::u106::c107::c108::c109::c110::c111::c112::c113::c114::c115::c116::c117::c118::c119::c120::c121::c122::c123::c124::c125::c126::c127::c128::c129::c130::c131::c132::c133::c134::c135::c136::c137::c138::c139::c140::c141::c142::c143::c144::c145::c146::c147::c148::c149::c150::c151::c152::c153::c154::c155::c156::c157::c158::c159::c160::c161::c162::c163::c164::c165::c166::c167::c168::c169::c170::c171::c172::c173::c174::c175::c176::c177::c178::c179::c180::c181::c182::c183::c184::c185::c186::c187::c188::c189::c190::c191::c192::c193::c194::c195::c196::c197::c198::c199::c200::c201::c202::c203::c204::c205::c206::c207::c208::c209::c210::c211::c212::c213::c214::c215::c216::c217::c218::c219::c220::c221::c222::c223::c224::c225::c226::c227::c228::c229::c230::c231::c232::c233::c234::c235::c236::c237::c238::c239::c240::c241::c242::c243::c244::c245::c246::c247::c248::c249::c250::c251::c252::c253::c254::c255::c256::c257::c258::c259::c260::c261::c262::c263::c264::c265::c266::c267::c268::c269::c270::c271::c272::c273::c274::c275::c276::c277::c278::c279::c280::c281::c282::c283::c284::c285::c286::c287::c288::c289::c290::c291::c292::c293::c294::c295::c296::c297::c298::c299::c300::c301::c302::c303::c304::c305::c306::c307::c308::c309::c310::c311::c312::c313::c314::c315::c316::c317::c318::c319::c320::c321::c322::c323::c324::c325::c326::c327::c328::c329::c330::c331::c332::c333::c334::c335::c336::c337::c338::c339::[]),[]⟩ wx) :
  Code.wp Tryz.prog (blk70 4) Q ⟨List.toArray ((.pointer (some ⟨x.F,0,none⟩))::c1::c2::c3::c4::c5::c6::c7::c8::c9::c10::c11::c12::c13::c14::c15::c16::c17::c18::c19::c20::c21::c22::c23::c24::c25::c26::c27::c28::c29::c30::c31::c32::c33::c34::c35::c36::c37::c38::c39::c40::c41::c42::c43::c44::c45::c46::c47::c48::c49::c50::c51::c52::c53::c54::c55::c56::c57::c58::c59::c60::c61::c62::c63::c64::c65::c66::c67::c68::c69::c70::c71::c72::c73::c74::c75::c76::c77::c78::c79::c80::c81::c82::c83::c84::c85::c86::c87::c88::c89::c90::c91::c92::c93::c94::c95::c96::c97::c98::c99::c100::c101::c102::c103::c104::c105::c106::c107::c108::c109::c110::c111::c112::c113::c114::c115::c116::c117::c118::c119::c120::c121::c122::c123::c124::c125::c126::c127::c128::c129::c130::c131::c132::c133::c134::c135::c136::c137::c138::c139::c140::c141::c142::c143::c144::c145::c146::c147::c148::c149::c150::c151::c152::c153::c154::c155::c156::c157::c158::c159::c160::c161::c162::c163::c164::c165::c166::c167::c168::c169::c170::c171::c172::c173::c174::c175::c176::c177::c178::c179::c180::c181::c182::c183::c184::c185::c186::c187::c188::c189::c190::c191::c192::c193::c194::c195::c196::c197::c198::c199::c200::c201::c202::c203::c204::c205::c206::c207::c208::c209::c210::c211::c212::c213::c214::c215::c216::c217::c218::c219::c220::c221::c222::c223::c224::c225::c226::c227::c228::c229::c230::c231::c232::c233::c234::c235::c236::c237::c238::c239::c240::c241::c242::c243::c244::c245::c246::c247::c248::c249::c250::c251::c252::c253::c254::c255::c256::c257::c258::c259::c260::c261::c262::c263::c264::c265::c266::c267::c268::c269::c270::c271::c272::c273::c274::c275::c276::c277::c278::c279::c280::c281::c282::c283::c284::c285::c286::c287::c288::c289::c290::c291::c292::c293::c294::c295::c296::c297::c298::c299::c300::c301::c302::c303::c304::c305::c306::c307::c308::c309::c310::c311::c312::c313::c314::c315::c316::c317::c318::c319::c320::c321::c322::c323::c324::c325::c326::c327::c328::c329::c330::c331::c332::c333::c334::c335::c336::c337::c338::c339::[]),[]⟩ w:=by
 have H:=Lib.hid h;have HKK:=Lib.hid hK;have HRR:=Lib.hid hR
 clear h hK hR
 conv => arg 2;whnf
 go_wp2_with fail
 obtain ⟨n0,hn0⟩ : ∃ n,BB.length = n:=⟨_,rfl⟩
 have HN0:=Lib.hid hn0
 rw [hn0] at hBB
 clear hn0
 obtain ⟨k0,hk0⟩ : ∃ k,64 - n0 = k:=⟨_,rfl⟩
 have HK0:=Lib.hid hk0
 clear hk0
 go_loopg [] k0 (fun k wx => ∃ (c' : Array Value) (B' : List Bool) (p' : Nat),Tak x w0 c0 Y wx c' B' p' ∧ (B'.length < 3 + 8 ∨ B'.length = n0) ∧ n0 ≤ B'.length ∧ k = 64 - B'.length)
 case atStart => exact ⟨c,BB,p,H.out,.inr HN0.out,by rw [HN0.out];exact Nat.le_refl _,by rw [HN0.out];exact HK0.out.symm⟩
 case round =>
  obtain ⟨c',B',p',hT,hb1,hb2,hk⟩:=hrel
  obtain ⟨wo,rfl⟩ : ∃ wo : World,wo = wr:=⟨_,rfl⟩
  obtain ⟨hc3,hc4⟩:=hT.cells
  have hf:=hT.blk.free
  obtain ⟨nb,hnb⟩ : ∃ n,B'.length = n:=⟨_,rfl⟩
  rw [hnb] at hc4 hb1 hb2 hk
  have HT:=Lib.hid hT;have HK:=Lib.hid hk;have HNB:=Lib.hid hnb;have HB1:=Lib.hid hb1
  have hnb24 : nb ≤ 31:=by omega
  clear hT hk hnb hb1 hc3
  rcases Nat.lt_or_ge nb 3 with hlt | hge
  ·have hn24 : nb ≤ 24:=by omega
   rcases Nat.lt_or_ge p' x.src.length with hp | hp
   ·have HM:=Lib.hid (HT.out.more ap hp (by rw [HNB.out];exact hn24))
    go_wp2_with fail
    refine HM.out.mono ?_
    rintro e w1 ⟨rfl,c1,hT1⟩
    have HT1:=Lib.hid hT1
    clear hT1
    go_wp2_with fail
    go_roundg (64 - (nb + 8))
    case measure => have:=HK.out;omega
    case rel =>
     have hl : (B' ++ lsb x.src[p'].toNat 8).length = nb + 8:=by rw [List.length_append,length_lsb,HNB.out]
     exact ⟨c1,_,_,HT1.out,.inl (by rw [hl];omega),by rw [hl];omega,by rw [hl]⟩
   ·obtain ⟨hx,hpe⟩:=HT.out.short (by omega) (by rw [HNB.out];omega)
    have HM:=Lib.hid (HT.out.over ap hpe)
    go_wp2_with fail
    refine HM.out.mono ?_
    rintro e w1 ⟨rfl,hT1⟩
    skip
    have HT1:=Lib.hid hT1
    clear hT1
    go_wp2_with fail
    exact HRR.out _ _ _ _ _ _ _ _ _ _ _ _ _ w1 c' B' p' HT1.out hx ⟨rfl,rfl⟩
  ·go_wp2_with fail
   exact HKK.out _ _ _ _ _ _ _ _ _ _ _ _ _ c' B' p' HT.out (by rw [HNB.out];exact hge) (by rw [HNB.out,HN0.out];exact HB1.out)
set_option maxRecDepth 100000 in
set_option maxHeartbeats 4000000 in
theorem need70_11 (x : Pl) (ap : Apart x) (n : Nat) (hn : n ≤ 16) (w0 w : World) (c0 c : Array Value) (BB Y : List Bool) (p : Nat) (h : Tak x w0 c0 Y w c BB p) (hsz : c0.size = 1054) (hY : n ≤ Y.length) (hBB : BB.length ≤ 24) (Q : Exit → Act → World → Prop)
  (hK : ∀ (u2 u17 u219 u220 u221 u222 u223 u224 u225 u226 u227 u228 u229 : Value) (wx : World) (c' : Array Value) (B' : List Bool) (p' : Nat),Tak x w0 c0 Y wx c' B' p' → n ≤ B'.length → (B'.length < n + 8 ∨ B'.length = BB.length) → Q .normal ⟨List.toArray ((.pointer (some ⟨x.F,0,none⟩))::c1::u2::c3::c4::c5::c6::c7::c8::c9::c10::c11::c12::c13::c14::(.int .u64 n)::c16::u17::c18::c19::c20::c21::c22::c23::c24::c25::c26::c27::c28::c29::c30::c31::c32::c33::c34::c35::c36::c37::c38::c39::c40::c41::c42::c43::c44::c45::c46::c47::c48::c49::c50::c51::c52::c53::c54::c55::c56::c57::c58::c59::c60::c61::c62::c63::c64::c65::c66::c67::c68::c69::c70::c71::c72::c73::c74::c75::c76::c77::c78::c79::c80::c81::c82::c83::c84::c85::c86::c87::c88::c89::c90::c91::c92::c93::c94::c95::c96::c97::c98::c99::c100::c101::c102::c103::c104::c105::c106::c107::c108::c109::c110::c111::c112::c113::c114::c115::c116::c117::c118::c119::c120::c121::c122::c123::c124::c125::c126::c127::c128::c129::c130::c131::c132::c133::c134::c135::c136::c137::c138::c139::c140::c141::c142::c143::c144::c145::c146::c147::c148::c149::c150::c151::c152::c153::c154::c155::c156::c157::c158::c159::c160::c161::c162::c163::c164::c165::c166::c167::c168::c169::c170::c171::c172::c173::c174::c175::c176::c177::c178::c179::c180::c181::c182::c183::c184::c185::c186::c187::c188::c189::c190::c191::c192::c193::c194::c195::c196::c197::c198::c199::c200::c201::c202::c203::c204::c205::c206::c207::c208::c209::c210::c211::c212::c213::c214::c215::c216::c217::c218::u219::u220::u221::u222::u223::u224::u225::u226::u227::u228::u229::c230::c231::c232::c233::c234::c235::c236::c237::c238::c239::c240::c241::c242::c243::c244::c245::c246::c247::c248::c249::c250::c251::c252::c253::c254::c255::c256::c257::c258::c259::c260::c261::c262::c263::c264::c265::c266::c267::c268::c269::c270::c271::c272::c273::c274::c275::c276::c277::c278::c279::c280::c281::c282::c283::c284::c285::c286::c287::c288::c289::c290::c291::c292::c293::c294::c295::c296::c297::c298::c299::c300::c301::c302::c303::c304::c305::c306::c307::c308::c309::c310::c311::c312::c313::c314::c315::c316::c317::c318::c319::c320::c321::c322::c323::c324::c325::c326::c327::c328::c329::c330::c331::c332::c333::c334::c335::c336::c337::c338::c339::[]),[]⟩ wx)
  (hR : ∀ (u2 u17 u219 u220 u221 u222 u223 u224 u225 u226 u227 u228 u229 : Value) (wx wy : World) (c' : Array Value) (B' : List Bool) (p' : Nat),Tak x w0 c0 Y wy c' B' p' → x.ext ≠ [] → u2 = .iface 175 (.pointer (some x.U)) ∧ wx = wy → Q .ret ⟨List.toArray ((.pointer (some ⟨x.F,0,none⟩))::c1::u2::c3::c4::c5::c6::c7::c8::c9::c10::c11::c12::c13::c14::(.int .u64 n)::c16::u17::c18::c19::c20::c21::c22::c23::c24::c25::c26::c27::c28::c29::c30::c31::c32::c33::c34::c35::c36::c37::c38::c39::c40::c41::c42::c43::c44::c45::c46::c47::c48::c49::c50::c51::c52::c53::c54::c55::c56::c57::c58::c59::c60::c61::c62::c63::c64::c65::c66::c67::c68::c69::c70::c71::c72::c73::c74::c75::c76::c77::c78::c79::c80::c81::c82::c83::c84::c85::c86::c87::c88::c89::c90::c91::c92::c93::c94::c95::c96::c97::c98::c99::c100::c101::c102::c103::c104::c105::c106::c107::c108::c109::c110::c111::c112::c113::c114::c115::c116::c117::c118::c119::c120::c121::c122::c123::c124::c125::c126::c127::c128::c129::c130::c131::c132::c133::c134::c135::c136::c137::c138::c139::c140::c141::c142::c143::c144::c145::c146::c147::c148::c149::c150::c151::c152::c153::c154::c155::c156::c157::c158::c159::c160::c161::c162::c163::c164::c165::c166::c167::c168::c169::c170::c171::c172::c173::c174::c175::c176::c177::c178::c179::c180::c181::c182::c183::c184::c185::c186::c187::c188::c189::c190::c191::c192::c193::c194::c195::c196::c197::c198::c199::c200::c201::c202::c203::c204::c205::c206::c207::c208::c209::c210::c211::c212::c213::c214::c215::c216::c217::c218::u219::u220::u221::u222::u223::u224::u225::u226::u227::u228::u229::c230::c231::c232::c233::c234::c235::c236::c237::c238::c239::c240::c241::c242::c243::c244::c245::c246::c247::c248::c249::c250::c251::c252::c253::c254::c255::c256::c257::c258::c259::c260::c261::c262::c263::c264::c265::c266::c267::c268::c269::c270::c271::c272::c273::c274::c275::c276::c277::c278::c279::c280::c281::c282::c283::c284::c285::c286::c287::c288::c289::c290::c291::c292::c293::c294::c295::c296::c297::c298::c299::c300::c301::c302::c303::c304::c305::c306::c307::c308::c309::c310::c311::c312::c313::c314::c315::c316::c317::c318::c319::c320::c321::c322::c323::c324::c325::c326::c327::c328::c329::c330::c331::c332::c333::c334::c335::c336::c337::c338::c339::[]),[]⟩ wx) :
  Code.wp Tryz.prog (blk70 11) Q ⟨List.toArray ((.pointer (some ⟨x.F,0,none⟩))::c1::c2::c3::c4::c5::c6::c7::c8::c9::c10::c11::c12::c13::c14::(.int .u64 n)::c16::c17::c18::c19::c20::c21::c22::c23::c24::c25::c26::c27::c28::c29::c30::c31::c32::c33::c34::c35::c36::c37::c38::c39::c40::c41::c42::c43::c44::c45::c46::c47::c48::c49::c50::c51::c52::c53::c54::c55::c56::c57::c58::c59::c60::c61::c62::c63::c64::c65::c66::c67::c68::c69::c70::c71::c72::c73::c74::c75::c76::c77::c78::c79::c80::c81::c82::c83::c84::c85::c86::c87::c88::c89::c90::c91::c92::c93::c94::c95::c96::c97::c98::c99::c100::c101::c102::c103::c104::c105::c106::c107::c108::c109::c110::c111::c112::c113::c114::c115::c116::c117::c118::c119::c120::c121::c122::c123::c124::c125::c126::c127::c128::c129::c130::c131::c132::c133::c134::c135::c136::c137::c138::c139::c140::c141::c142::c143::c144::c145::c146::c147::c148::c149::c150::c151::c152::c153::c154::c155::c156::c157::c158::c159::c160::c161::c162::c163::c164::c165::c166::c167::c168::c169::c170::c171::c172::c173::c174::c175::c176::c177::c178::c179::c180::c181::c182::c183::c184::c185::c186::c187::c188::c189::c190::c191::c192::c193::c194::c195::c196::c197::c198::c199::c200::c201::c202::c203::c204::c205::c206::c207::c208::c209::c210::c211::c212::c213::c214::c215::c216::c217::c218::c219::c220::c221::c222::c223::c224::c225::c226::c227::c228::c229::c230::c231::c232::c233::c234::c235::c236::c237::c238::c239::c240::c241::c242::c243::c244::c245::c246::c247::c248::c249::c250::c251::c252::c253::c254::c255::c256::c257::c258::c259::c260::c261::c262::c263::c264::c265::c266::c267::c268::c269::c270::c271::c272::c273::c274::c275::c276::c277::c278::c279::c280::c281::c282::c283::c284::c285::c286::c287::c288::c289::c290::c291::c292::c293::c294::c295::c296::c297::c298::c299::c300::c301::c302::c303::c304::c305::c306::c307::c308::c309::c310::c311::c312::c313::c314::c315::c316::c317::c318::c319::c320::c321::c322::c323::c324::c325::c326::c327::c328::c329::c330::c331::c332::c333::c334::c335::c336::c337::c338::c339::[]),[]⟩ w:=by
 have H:=Lib.hid h;have HKK:=Lib.hid hK;have HRR:=Lib.hid hR
 clear h hK hR
 conv => arg 2;whnf
 go_wp2_with fail
 obtain ⟨n0,hn0⟩ : ∃ n,BB.length = n:=⟨_,rfl⟩
 have HN0:=Lib.hid hn0
 rw [hn0] at hBB
 clear hn0
 obtain ⟨k0,hk0⟩ : ∃ k,64 - n0 = k:=⟨_,rfl⟩
 have HK0:=Lib.hid hk0
 clear hk0
 go_loopg [] k0 (fun k wx => ∃ (c' : Array Value) (B' : List Bool) (p' : Nat),Tak x w0 c0 Y wx c' B' p' ∧ (B'.length < n + 8 ∨ B'.length = n0) ∧ n0 ≤ B'.length ∧ k = 64 - B'.length)
 case atStart => exact ⟨c,BB,p,H.out,.inr HN0.out,by rw [HN0.out];exact Nat.le_refl _,by rw [HN0.out];exact HK0.out.symm⟩
 case round =>
  obtain ⟨c',B',p',hT,hb1,hb2,hk⟩:=hrel
  obtain ⟨wo,rfl⟩ : ∃ wo : World,wo = wr:=⟨_,rfl⟩
  obtain ⟨hc3,hc4⟩:=hT.cells
  have hf:=hT.blk.free
  obtain ⟨nb,hnb⟩ : ∃ n,B'.length = n:=⟨_,rfl⟩
  rw [hnb] at hc4 hb1 hb2 hk
  have HT:=Lib.hid hT;have HK:=Lib.hid hk;have HNB:=Lib.hid hnb;have HB1:=Lib.hid hb1
  have hnb24 : nb ≤ 31:=by omega
  clear hT hk hnb hb1 hc3
  rcases Nat.lt_or_ge nb n with hlt | hge
  ·have hn24 : nb ≤ 24:=by omega
   rcases Nat.lt_or_ge p' x.src.length with hp | hp
   ·have HM:=Lib.hid (HT.out.more ap hp (by rw [HNB.out];exact hn24))
    go_wp2_with fail
    refine HM.out.mono ?_
    rintro e w1 ⟨rfl,c1,hT1⟩
    have HT1:=Lib.hid hT1
    clear hT1
    go_wp2_with fail
    go_roundg (64 - (nb + 8))
    case measure => have:=HK.out;omega
    case rel =>
     have hl : (B' ++ lsb x.src[p'].toNat 8).length = nb + 8:=by rw [List.length_append,length_lsb,HNB.out]
     exact ⟨c1,_,_,HT1.out,.inl (by rw [hl];omega),by rw [hl];omega,by rw [hl]⟩
   ·obtain ⟨hx,hpe⟩:=HT.out.short (by omega) (by rw [HNB.out];omega)
    have HM:=Lib.hid (HT.out.over ap hpe)
    go_wp2_with fail
    refine HM.out.mono ?_
    rintro e w1 ⟨rfl,hT1⟩
    skip
    have HT1:=Lib.hid hT1
    clear hT1
    go_wp2_with fail
    exact HRR.out _ _ _ _ _ _ _ _ _ _ _ _ _ _ w1 c' B' p' HT1.out hx ⟨rfl,rfl⟩
  ·go_wp2_with fail
   exact HKK.out _ _ _ _ _ _ _ _ _ _ _ _ _ _ c' B' p' HT.out (by rw [HNB.out];exact hge) (by rw [HNB.out,HN0.out];exact HB1.out)
set_option maxRecDepth 100000 in
set_option maxHeartbeats 4000000 in
theorem need69_2 (x : Pl) (ap : Apart x) (n : Nat) (hn : n ≤ 16) (w0 w : World) (c0 c : Array Value) (BB Y : List Bool) (p : Nat) (h : Tak x w0 c0 Y w c BB p) (hsz : c0.size = 1054) (hY : n ≤ Y.length) (hBB : BB.length ≤ 24) (Q : Exit → Act → World → Prop)
  (hK : ∀ (u3 u113 u114 u115 u116 u117 u118 u119 u120 u121 u122 u123 u124 u125 u126 : Value) (wx : World) (c' : Array Value) (B' : List Bool) (p' : Nat),Tak x w0 c0 Y wx c' B' p' → n ≤ B'.length → (B'.length < n + 8 ∨ B'.length = BB.length) → Q .normal ⟨List.toArray ((.pointer (some ⟨x.F,0,none⟩))::c1::c2::u3::(.int .u64 n)::c5::c6::c7::c8::c9::c10::c11::c12::c13::c14::c15::c16::c17::c18::c19::c20::c21::c22::c23::c24::c25::c26::c27::c28::c29::c30::c31::c32::c33::c34::c35::c36::c37::c38::c39::c40::c41::c42::c43::c44::c45::c46::c47::c48::c49::c50::c51::c52::c53::c54::c55::c56::c57::c58::c59::c60::c61::c62::c63::c64::c65::c66::c67::c68::c69::c70::c71::c72::c73::c74::c75::c76::c77::c78::c79::c80::c81::c82::c83::c84::c85::c86::c87::c88::c89::c90::c91::c92::c93::c94::c95::c96::c97::c98::c99::c100::c101::c102::c103::c104::c105::c106::c107::c108::c109::c110::c111::c112::u113::u114::u115::u116::u117::u118::u119::u120::u121::u122::u123::u124::u125::u126::c127::c128::c129::c130::c131::c132::c133::c134::c135::c136::c137::c138::c139::c140::c141::c142::c143::c144::c145::c146::c147::c148::c149::c150::c151::c152::c153::c154::c155::c156::c157::c158::c159::c160::c161::c162::c163::c164::c165::c166::c167::c168::c169::c170::c171::c172::c173::c174::c175::c176::c177::c178::c179::c180::c181::c182::c183::c184::c185::c186::c187::c188::c189::c190::c191::c192::c193::c194::c195::c196::c197::c198::c199::c200::c201::c202::c203::c204::c205::c206::c207::c208::c209::c210::c211::c212::c213::c214::c215::c216::c217::c218::c219::c220::c221::c222::c223::c224::c225::c226::c227::c228::c229::c230::c231::c232::c233::c234::c235::c236::c237::c238::c239::c240::c241::c242::c243::c244::c245::c246::c247::c248::c249::c250::c251::c252::c253::c254::c255::c256::c257::c258::c259::c260::c261::c262::c263::c264::c265::c266::c267::c268::c269::c270::c271::c272::c273::c274::c275::c276::c277::c278::c279::c280::c281::c282::c283::c284::c285::c286::c287::c288::c289::c290::c291::c292::c293::c294::c295::c296::c297::c298::c299::c300::c301::c302::c303::c304::c305::c306::c307::c308::c309::c310::c311::c312::c313::c314::c315::c316::c317::c318::c319::c320::c321::c322::c323::c324::c325::c326::c327::c328::c329::c330::c331::c332::c333::c334::c335::c336::c337::c338::c339::c340::c341::c342::c343::c344::c345::c346::c347::c348::c349::c350::c351::c352::c353::c354::c355::c356::c357::c358::c359::c360::c361::[]),[]⟩ wx)
  (hR : ∀ (u3 u113 u114 u115 u116 u117 u118 u119 u120 u121 u122 u123 u124 u125 u126 : Value) (wx wy : World) (c' : Array Value) (B' : List Bool) (p' : Nat),Tak x w0 c0 Y wy c' B' p' → x.ext ≠ [] → wx = wy.setCell ⟨x.F,1048,none⟩ (.iface 175 (.pointer (some x.U))) → Q .ret ⟨List.toArray ((.pointer (some ⟨x.F,0,none⟩))::c1::c2::u3::(.int .u64 n)::c5::c6::c7::c8::c9::c10::c11::c12::c13::c14::c15::c16::c17::c18::c19::c20::c21::c22::c23::c24::c25::c26::c27::c28::c29::c30::c31::c32::c33::c34::c35::c36::c37::c38::c39::c40::c41::c42::c43::c44::c45::c46::c47::c48::c49::c50::c51::c52::c53::c54::c55::c56::c57::c58::c59::c60::c61::c62::c63::c64::c65::c66::c67::c68::c69::c70::c71::c72::c73::c74::c75::c76::c77::c78::c79::c80::c81::c82::c83::c84::c85::c86::c87::c88::c89::c90::c91::c92::c93::c94::c95::c96::c97::c98::c99::c100::c101::c102::c103::c104::c105::c106::c107::c108::c109::c110::c111::c112::u113::u114::u115::u116::u117::u118::u119::u120::u121::u122::u123::u124::u125::u126::c127::c128::c129::c130::c131::c132::c133::c134::c135::c136::c137::c138::c139::c140::c141::c142::c143::c144::c145::c146::c147::c148::c149::c150::c151::c152::c153::c154::c155::c156::c157::c158::c159::c160::c161::c162::c163::c164::c165::c166::c167::c168::c169::c170::c171::c172::c173::c174::c175::c176::c177::c178::c179::c180::c181::c182::c183::c184::c185::c186::c187::c188::c189::c190::c191::c192::c193::c194::c195::c196::c197::c198::c199::c200::c201::c202::c203::c204::c205::c206::c207::c208::c209::c210::c211::c212::c213::c214::c215::c216::c217::c218::c219::c220::c221::c222::c223::c224::c225::c226::c227::c228::c229::c230::c231::c232::c233::c234::c235::c236::c237::c238::c239::c240::c241::c242::c243::c244::c245::c246::c247::c248::c249::c250::c251::c252::c253::c254::c255::c256::c257::c258::c259::c260::c261::c262::c263::c264::c265::c266::c267::c268::c269::c270::c271::c272::c273::c274::c275::c276::c277::c278::c279::c280::c281::c282::c283::c284::c285::c286::c287::c288::c289::c290::c291::c292::c293::c294::c295::c296::c297::c298::c299::c300::c301::c302::c303::c304::c305::c306::c307::c308::c309::c310::c311::c312::c313::c314::c315::c316::c317::c318::c319::c320::c321::c322::c323::c324::c325::c326::c327::c328::c329::c330::c331::c332::c333::c334::c335::c336::c337::c338::c339::c340::c341::c342::c343::c344::c345::c346::c347::c348::c349::c350::c351::c352::c353::c354::c355::c356::c357::c358::c359::c360::c361::[]),[]⟩ wx) :
  Code.wp Tryz.prog (blk69 2) Q ⟨List.toArray ((.pointer (some ⟨x.F,0,none⟩))::c1::c2::c3::(.int .u64 n)::c5::c6::c7::c8::c9::c10::c11::c12::c13::c14::c15::c16::c17::c18::c19::c20::c21::c22::c23::c24::c25::c26::c27::c28::c29::c30::c31::c32::c33::c34::c35::c36::c37::c38::c39::c40::c41::c42::c43::c44::c45::c46::c47::c48::c49::c50::c51::c52::c53::c54::c55::c56::c57::c58::c59::c60::c61::c62::c63::c64::c65::c66::c67::c68::c69::c70::c71::c72::c73::c74::c75::c76::c77::c78::c79::c80::c81::c82::c83::c84::c85::c86::c87::c88::c89::c90::c91::c92::c93::c94::c95::c96::c97::c98::c99::c100::c101::c102::c103::c104::c105::c106::c107::c108::c109::c110::c111::c112::c113::c114::c115::c116::c117::c118::c119::c120::c121::c122::c123::c124::c125::c126::c127::c128::c129::c130::c131::c132::c133::c134::c135::c136::c137::c138::c139::c140::c141::c142::c143::c144::c145::c146::c147::c148::c149::c150::c151::c152::c153::c154::c155::c156::c157::c158::c159::c160::c161::c162::c163::c164::c165::c166::c167::c168::c169::c170::c171::c172::c173::c174::c175::c176::c177::c178::c179::c180::c181::c182::c183::c184::c185::c186::c187::c188::c189::c190::c191::c192::c193::c194::c195::c196::c197::c198::c199::c200::c201::c202::c203::c204::c205::c206::c207::c208::c209::c210::c211::c212::c213::c214::c215::c216::c217::c218::c219::c220::c221::c222::c223::c224::c225::c226::c227::c228::c229::c230::c231::c232::c233::c234::c235::c236::c237::c238::c239::c240::c241::c242::c243::c244::c245::c246::c247::c248::c249::c250::c251::c252::c253::c254::c255::c256::c257::c258::c259::c260::c261::c262::c263::c264::c265::c266::c267::c268::c269::c270::c271::c272::c273::c274::c275::c276::c277::c278::c279::c280::c281::c282::c283::c284::c285::c286::c287::c288::c289::c290::c291::c292::c293::c294::c295::c296::c297::c298::c299::c300::c301::c302::c303::c304::c305::c306::c307::c308::c309::c310::c311::c312::c313::c314::c315::c316::c317::c318::c319::c320::c321::c322::c323::c324::c325::c326::c327::c328::c329::c330::c331::c332::c333::c334::c335::c336::c337::c338::c339::c340::c341::c342::c343::c344::c345::c346::c347::c348::c349::c350::c351::c352::c353::c354::c355::c356::c357::c358::c359::c360::c361::[]),[]⟩ w:=by
 have H:=Lib.hid h;have HKK:=Lib.hid hK;have HRR:=Lib.hid hR
 clear h hK hR
 conv => arg 2;whnf
 go_wp2_with fail
 obtain ⟨n0,hn0⟩ : ∃ n,BB.length = n:=⟨_,rfl⟩
 have HN0:=Lib.hid hn0
 rw [hn0] at hBB
 clear hn0
 obtain ⟨k0,hk0⟩ : ∃ k,64 - n0 = k:=⟨_,rfl⟩
 have HK0:=Lib.hid hk0
 clear hk0
 go_loopg [] k0 (fun k wx => ∃ (c' : Array Value) (B' : List Bool) (p' : Nat),Tak x w0 c0 Y wx c' B' p' ∧ (B'.length < n + 8 ∨ B'.length = n0) ∧ n0 ≤ B'.length ∧ k = 64 - B'.length)
 case atStart => exact ⟨c,BB,p,H.out,.inr HN0.out,by rw [HN0.out];exact Nat.le_refl _,by rw [HN0.out];exact HK0.out.symm⟩
 case round =>
  obtain ⟨c',B',p',hT,hb1,hb2,hk⟩:=hrel
  obtain ⟨wo,rfl⟩ : ∃ wo : World,wo = wr:=⟨_,rfl⟩
  obtain ⟨hc3,hc4⟩:=hT.cells
  have hf:=hT.blk.free
  obtain ⟨nb,hnb⟩ : ∃ n,B'.length = n:=⟨_,rfl⟩
  rw [hnb] at hc4 hb1 hb2 hk
  have HT:=Lib.hid hT;have HK:=Lib.hid hk;have HNB:=Lib.hid hnb;have HB1:=Lib.hid hb1
  have hnb24 : nb ≤ 31:=by omega
  clear hT hk hnb hb1 hc3
  rcases Nat.lt_or_ge nb n with hlt | hge
  ·have hn24 : nb ≤ 24:=by omega
   rcases Nat.lt_or_ge p' x.src.length with hp | hp
   ·have HM:=Lib.hid (HT.out.more ap hp (by rw [HNB.out];exact hn24))
    go_wp2_with fail
    refine HM.out.mono ?_
    rintro e w1 ⟨rfl,c1,hT1⟩
    have HT1:=Lib.hid hT1
    clear hT1
    go_wp2_with fail
    go_roundg (64 - (nb + 8))
    case measure => have:=HK.out;omega
    case rel =>
     have hl : (B' ++ lsb x.src[p'].toNat 8).length = nb + 8:=by rw [List.length_append,length_lsb,HNB.out]
     exact ⟨c1,_,_,HT1.out,.inl (by rw [hl];omega),by rw [hl];omega,by rw [hl]⟩
   ·obtain ⟨hx,hpe⟩:=HT.out.short (by omega) (by rw [HNB.out];omega)
    have HM:=Lib.hid (HT.out.over ap hpe)
    go_wp2_with fail
    refine HM.out.mono ?_
    rintro e w1 ⟨rfl,hT1⟩
    have hfr:=hT1.blk.free
    have hce : ∃ v,w1.cell? ⟨x.F,1048,none⟩ = some v:=by
     have hs:=hT1.same.1
     rw [hsz] at hs
     exact ⟨c'[1048]'(by omega),by rw [hT1.blk.cell,Array.getElem?_eq_getElem]⟩
    obtain ⟨ve,hce⟩:=hce
    have HT1:=Lib.hid hT1
    clear hT1
    go_wp2_with fail
    exact HRR.out _ _ _ _ _ _ _ _ _ _ _ _ _ _ _ _ w1 c' B' p' HT1.out hx rfl
  ·go_wp2_with fail
   exact HKK.out _ _ _ _ _ _ _ _ _ _ _ _ _ _ _ _ c' B' p' HT.out (by rw [HNB.out];exact hge) (by rw [HNB.out,HN0.out];exact HB1.out)
set_option maxRecDepth 100000 in
set_option maxHeartbeats 4000000 in
theorem need69_4 (x : Pl) (ap : Apart x) (w0 w : World) (c0 c : Array Value) (BB Y : List Bool) (p : Nat) (h : Tak x w0 c0 Y w c BB p) (hsz : c0.size = 1054) (hY : 5 ≤ Y.length) (hBB : BB.length ≤ 24) (Q : Exit → Act → World → Prop)
  (hK : ∀ (u3 u159 u160 u161 u162 u163 u164 u165 u166 u167 u168 u169 u170 u171 : Value) (wx : World) (c' : Array Value) (B' : List Bool) (p' : Nat),Tak x w0 c0 Y wx c' B' p' → 5 ≤ B'.length → (B'.length < 5 + 8 ∨ B'.length = BB.length) → Q .normal ⟨List.toArray ((.pointer (some ⟨x.F,0,none⟩))::c1::c2::u3::c4::c5::c6::c7::c8::c9::c10::c11::c12::c13::c14::c15::c16::c17::c18::c19::c20::c21::c22::c23::c24::c25::c26::c27::c28::c29::c30::c31::c32::c33::c34::c35::c36::c37::c38::c39::c40::c41::c42::c43::c44::c45::c46::c47::c48::c49::c50::c51::c52::c53::c54::c55::c56::c57::c58::c59::c60::c61::c62::c63::c64::c65::c66::c67::c68::c69::c70::c71::c72::c73::c74::c75::c76::c77::c78::c79::c80::c81::c82::c83::c84::c85::c86::c87::c88::c89::c90::c91::c92::c93::c94::c95::c96::c97::c98::c99::c100::c101::c102::c103::c104::c105::c106::c107::c108::c109::c110::c111::c112::c113::c114::c115::c116::c117::c118::c119::c120::c121::c122::c123::c124::c125::c126::c127::c128::c129::c130::c131::c132::c133::c134::c135::c136::c137::c138::c139::c140::c141::c142::c143::c144::c145::c146::c147::c148::c149::c150::c151::c152::c153::c154::c155::c156::c157::c158::u159::u160::u161::u162::u163::u164::u165::u166::u167::u168::u169::u170::u171::c172::c173::c174::c175::c176::c177::c178::c179::c180::c181::c182::c183::c184::c185::c186::c187::c188::c189::c190::c191::c192::c193::c194::c195::c196::c197::c198::c199::c200::c201::c202::c203::c204::c205::c206::c207::c208::c209::c210::c211::c212::c213::c214::c215::c216::c217::c218::c219::c220::c221::c222::c223::c224::c225::c226::c227::c228::c229::c230::c231::c232::c233::c234::c235::c236::c237::c238::c239::c240::c241::c242::c243::c244::c245::c246::c247::c248::c249::c250::c251::c252::c253::c254::c255::c256::c257::c258::c259::c260::c261::c262::c263::c264::c265::c266::c267::c268::c269::c270::c271::c272::c273::c274::c275::c276::c277::c278::c279::c280::c281::c282::c283::c284::c285::c286::c287::c288::c289::c290::c291::c292::c293::c294::c295::c296::c297::c298::c299::c300::c301::c302::c303::c304::c305::c306::c307::c308::c309::c310::c311::c312::c313::c314::c315::c316::c317::c318::c319::c320::c321::c322::c323::c324::c325::c326::c327::c328::c329::c330::c331::c332::c333::c334::c335::c336::c337::c338::c339::c340::c341::c342::c343::c344::c345::c346::c347::c348::c349::c350::c351::c352::c353::c354::c355::c356::c357::c358::c359::c360::c361::[]),[]⟩ wx)
  (hR : ∀ (u3 u159 u160 u161 u162 u163 u164 u165 u166 u167 u168 u169 u170 u171 : Value) (wx wy : World) (c' : Array Value) (B' : List Bool) (p' : Nat),Tak x w0 c0 Y wy c' B' p' → x.ext ≠ [] → wx = wy.setCell ⟨x.F,1048,none⟩ (.iface 175 (.pointer (some x.U))) → Q .ret ⟨List.toArray ((.pointer (some ⟨x.F,0,none⟩))::c1::c2::u3::c4::c5::c6::c7::c8::c9::c10::c11::c12::c13::c14::c15::c16::c17::c18::c19::c20::c21::c22::c23::c24::c25::c26::c27::c28::c29::c30::c31::c32::c33::c34::c35::c36::c37::c38::c39::c40::c41::c42::c43::c44::c45::c46::c47::c48::c49::c50::c51::c52::c53::c54::c55::c56::c57::c58::c59::c60::c61::c62::c63::c64::c65::c66::c67::c68::c69::c70::c71::c72::c73::c74::c75::c76::c77::c78::c79::c80::c81::c82::c83::c84::c85::c86::c87::c88::c89::c90::c91::c92::c93::c94::c95::c96::c97::c98::c99::c100::c101::c102::c103::c104::c105::c106::c107::c108::c109::c110::c111::c112::c113::c114::c115::c116::c117::c118::c119::c120::c121::c122::c123::c124::c125::c126::c127::c128::c129::c130::c131::c132::c133::c134::c135::c136::c137::c138::c139::c140::c141::c142::c143::c144::c145::c146::c147::c148::c149::c150::c151::c152::c153::c154::c155::c156::c157::c158::u159::u160::u161::u162::u163::u164::u165::u166::u167::u168::u169::u170::u171::c172::c173::c174::c175::c176::c177::c178::c179::c180::c181::c182::c183::c184::c185::c186::c187::c188::c189::c190::c191::c192::c193::c194::c195::c196::c197::c198::c199::c200::c201::c202::c203::c204::c205::c206::c207::c208::c209::c210::c211::c212::c213::c214::c215::c216::c217::c218::c219::c220::c221::c222::c223::c224::c225::c226::c227::c228::c229::c230::c231::c232::c233::c234::c235::c236::c237::c238::c239::c240::c241::c242::c243::c244::c245::c246::c247::c248::c249::c250::c251::c252::c253::c254::c255::c256::c257::c258::c259::c260::c261::c262::c263::c264::c265::c266::c267::c268::c269::c270::c271::c272::c273::c274::c275::c276::c277::c278::c279::c280::c281::c282::c283::c284::c285::c286::c287::c288::c289::c290::c291::c292::c293::c294::c295::c296::c297::c298::c299::c300::c301::c302::c303::c304::c305::c306::c307::c308::c309::c310::c311::c312::c313::c314::c315::c316::c317::c318::c319::c320::c321::c322::c323::c324::c325::c326::c327::c328::c329::c330::c331::c332::c333::c334::c335::c336::c337::c338::c339::c340::c341::c342::c343::c344::c345::c346::c347::c348::c349::c350::c351::c352::c353::c354::c355::c356::c357::c358::c359::c360::c361::[]),[]⟩ wx) :
  Code.wp Tryz.prog (blk69 4) Q ⟨List.toArray ((.pointer (some ⟨x.F,0,none⟩))::c1::c2::c3::c4::c5::c6::c7::c8::c9::c10::c11::c12::c13::c14::c15::c16::c17::c18::c19::c20::c21::c22::c23::c24::c25::c26::c27::c28::c29::c30::c31::c32::c33::c34::c35::c36::c37::c38::c39::c40::c41::c42::c43::c44::c45::c46::c47::c48::c49::c50::c51::c52::c53::c54::c55::c56::c57::c58::c59::c60::c61::c62::c63::c64::c65::c66::c67::c68::c69::c70::c71::c72::c73::c74::c75::c76::c77::c78::c79::c80::c81::c82::c83::c84::c85::c86::c87::c88::c89::c90::c91::c92::c93::c94::c95::c96::c97::c98::c99::c100::c101::c102::c103::c104::c105::c106::c107::c108::c109::c110::c111::c112::c113::c114::c115::c116::c117::c118::c119::c120::c121::c122::c123::c124::c125::c126::c127::c128::c129::c130::c131::c132::c133::c134::c135::c136::c137::c138::c139::c140::c141::c142::c143::c144::c145::c146::c147::c148::c149::c150::c151::c152::c153::c154::c155::c156::c157::c158::c159::c160::c161::c162::c163::c164::c165::c166::c167::c168::c169::c170::c171::c172::c173::c174::c175::c176::c177::c178::c179::c180::c181::c182::c183::c184::c185::c186::c187::c188::c189::c190::c191::c192::c193::c194::c195::c196::c197::c198::c199::c200::c201::c202::c203::c204::c205::c206::c207::c208::c209::c210::c211::c212::c213::c214::c215::c216::c217::c218::c219::c220::c221::c222::c223::c224::c225::c226::c227::c228::c229::c230::c231::c232::c233::c234::c235::c236::c237::c238::c239::c240::c241::c242::c243::c244::c245::c246::c247::c248::c249::c250::c251::c252::c253::c254::c255::c256::c257::c258::c259::c260::c261::c262::c263::c264::c265::c266::c267::c268::c269::c270::c271::c272::c273::c274::c275::c276::c277::c278::c279::c280::c281::c282::c283::c284::c285::c286::c287::c288::c289::c290::c291::c292::c293::c294::c295::c296::c297::c298::c299::c300::c301::c302::c303::c304::c305::c306::c307::c308::c309::c310::c311::c312::c313::c314::c315::c316::c317::c318::c319::c320::c321::c322::c323::c324::c325::c326::c327::c328::c329::c330::c331::c332::c333::c334::c335::c336::c337::c338::c339::c340::c341::c342::c343::c344::c345::c346::c347::c348::c349::c350::c351::c352::c353::c354::c355::c356::c357::c358::c359::c360::c361::[]),[]⟩ w:=by
 have H:=Lib.hid h;have HKK:=Lib.hid hK;have HRR:=Lib.hid hR
 clear h hK hR
 conv => arg 2;whnf
 go_wp2_with fail
 obtain ⟨n0,hn0⟩ : ∃ n,BB.length = n:=⟨_,rfl⟩
 have HN0:=Lib.hid hn0
 rw [hn0] at hBB
 clear hn0
 obtain ⟨k0,hk0⟩ : ∃ k,64 - n0 = k:=⟨_,rfl⟩
 have HK0:=Lib.hid hk0
 clear hk0
 go_loopg [] k0 (fun k wx => ∃ (c' : Array Value) (B' : List Bool) (p' : Nat),Tak x w0 c0 Y wx c' B' p' ∧ (B'.length < 5 + 8 ∨ B'.length = n0) ∧ n0 ≤ B'.length ∧ k = 64 - B'.length)
 case atStart => exact ⟨c,BB,p,H.out,.inr HN0.out,by rw [HN0.out];exact Nat.le_refl _,by rw [HN0.out];exact HK0.out.symm⟩
 case round =>
  obtain ⟨c',B',p',hT,hb1,hb2,hk⟩:=hrel
  obtain ⟨wo,rfl⟩ : ∃ wo : World,wo = wr:=⟨_,rfl⟩
  obtain ⟨hc3,hc4⟩:=hT.cells
  have hf:=hT.blk.free
  obtain ⟨nb,hnb⟩ : ∃ n,B'.length = n:=⟨_,rfl⟩
  rw [hnb] at hc4 hb1 hb2 hk
  have HT:=Lib.hid hT;have HK:=Lib.hid hk;have HNB:=Lib.hid hnb;have HB1:=Lib.hid hb1
  have hnb24 : nb ≤ 31:=by omega
  clear hT hk hnb hb1 hc3
  rcases Nat.lt_or_ge nb 5 with hlt | hge
  ·have hn24 : nb ≤ 24:=by omega
   rcases Nat.lt_or_ge p' x.src.length with hp | hp
   ·have HM:=Lib.hid (HT.out.more ap hp (by rw [HNB.out];exact hn24))
    go_wp2_with fail
    refine HM.out.mono ?_
    rintro e w1 ⟨rfl,c1,hT1⟩
    have HT1:=Lib.hid hT1
    clear hT1
    go_wp2_with fail
    go_roundg (64 - (nb + 8))
    case measure => have:=HK.out;omega
    case rel =>
     have hl : (B' ++ lsb x.src[p'].toNat 8).length = nb + 8:=by rw [List.length_append,length_lsb,HNB.out]
     exact ⟨c1,_,_,HT1.out,.inl (by rw [hl];omega),by rw [hl];omega,by rw [hl]⟩
   ·obtain ⟨hx,hpe⟩:=HT.out.short (by omega) (by rw [HNB.out];omega)
    have HM:=Lib.hid (HT.out.over ap hpe)
    go_wp2_with fail
    refine HM.out.mono ?_
    rintro e w1 ⟨rfl,hT1⟩
    have hfr:=hT1.blk.free
    have hce : ∃ v,w1.cell? ⟨x.F,1048,none⟩ = some v:=by
     have hs:=hT1.same.1
     rw [hsz] at hs
     exact ⟨c'[1048]'(by omega),by rw [hT1.blk.cell,Array.getElem?_eq_getElem]⟩
    obtain ⟨ve,hce⟩:=hce
    have HT1:=Lib.hid hT1
    clear hT1
    go_wp2_with fail
    exact HRR.out _ _ _ _ _ _ _ _ _ _ _ _ _ _ _ w1 c' B' p' HT1.out hx rfl
  ·go_wp2_with fail
   exact HKK.out _ _ _ _ _ _ _ _ _ _ _ _ _ _ _ c' B' p' HT.out (by rw [HNB.out];exact hge) (by rw [HNB.out,HN0.out];exact HB1.out)
set_option maxRecDepth 100000 in
set_option maxHeartbeats 4000000 in
theorem need69_7 (x : Pl) (ap : Apart x) (n : Nat) (hn : n ≤ 16) (w0 w : World) (c0 c : Array Value) (BB Y : List Bool) (p : Nat) (h : Tak x w0 c0 Y w c BB p) (hsz : c0.size = 1054) (hY : n ≤ Y.length) (hBB : BB.length ≤ 24) (Q : Exit → Act → World → Prop)
  (hK : ∀ (u3 u234 u235 u236 u237 u238 u239 u240 u241 u242 u243 u244 u245 u246 u247 : Value) (wx : World) (c' : Array Value) (B' : List Bool) (p' : Nat),Tak x w0 c0 Y wx c' B' p' → n ≤ B'.length → (B'.length < n + 8 ∨ B'.length = BB.length) → Q .normal ⟨List.toArray ((.pointer (some ⟨x.F,0,none⟩))::c1::c2::u3::c4::c5::c6::(.int .u64 n)::c8::c9::c10::c11::c12::c13::c14::c15::c16::c17::c18::c19::c20::c21::c22::c23::c24::c25::c26::c27::c28::c29::c30::c31::c32::c33::c34::c35::c36::c37::c38::c39::c40::c41::c42::c43::c44::c45::c46::c47::c48::c49::c50::c51::c52::c53::c54::c55::c56::c57::c58::c59::c60::c61::c62::c63::c64::c65::c66::c67::c68::c69::c70::c71::c72::c73::c74::c75::c76::c77::c78::c79::c80::c81::c82::c83::c84::c85::c86::c87::c88::c89::c90::c91::c92::c93::c94::c95::c96::c97::c98::c99::c100::c101::c102::c103::c104::c105::c106::c107::c108::c109::c110::c111::c112::c113::c114::c115::c116::c117::c118::c119::c120::c121::c122::c123::c124::c125::c126::c127::c128::c129::c130::c131::c132::c133::c134::c135::c136::c137::c138::c139::c140::c141::c142::c143::c144::c145::c146::c147::c148::c149::c150::c151::c152::c153::c154::c155::c156::c157::c158::c159::c160::c161::c162::c163::c164::c165::c166::c167::c168::c169::c170::c171::c172::c173::c174::c175::c176::c177::c178::c179::c180::c181::c182::c183::c184::c185::c186::c187::c188::c189::c190::c191::c192::c193::c194::c195::c196::c197::c198::c199::c200::c201::c202::c203::c204::c205::c206::c207::c208::c209::c210::c211::c212::c213::c214::c215::c216::c217::c218::c219::c220::c221::c222::c223::c224::c225::c226::c227::c228::c229::c230::c231::c232::c233::u234::u235::u236::u237::u238::u239::u240::u241::u242::u243::u244::u245::u246::u247::c248::c249::c250::c251::c252::c253::c254::c255::c256::c257::c258::c259::c260::c261::c262::c263::c264::c265::c266::c267::c268::c269::c270::c271::c272::c273::c274::c275::c276::c277::c278::c279::c280::c281::c282::c283::c284::c285::c286::c287::c288::c289::c290::c291::c292::c293::c294::c295::c296::c297::c298::c299::c300::c301::c302::c303::c304::c305::c306::c307::c308::c309::c310::c311::c312::c313::c314::c315::c316::c317::c318::c319::c320::c321::c322::c323::c324::c325::c326::c327::c328::c329::c330::c331::c332::c333::c334::c335::c336::c337::c338::c339::c340::c341::c342::c343::c344::c345::c346::c347::c348::c349::c350::c351::c352::c353::c354::c355::c356::c357::c358::c359::c360::c361::[]),[]⟩ wx)
  (hR : ∀ (u3 u234 u235 u236 u237 u238 u239 u240 u241 u242 u243 u244 u245 u246 u247 : Value) (wx wy : World) (c' : Array Value) (B' : List Bool) (p' : Nat),Tak x w0 c0 Y wy c' B' p' → x.ext ≠ [] → wx = wy.setCell ⟨x.F,1048,none⟩ (.iface 175 (.pointer (some x.U))) → Q .ret ⟨List.toArray ((.pointer (some ⟨x.F,0,none⟩))::c1::c2::u3::c4::c5::c6::(.int .u64 n)::c8::c9::c10::c11::c12::c13::c14::c15::c16::c17::c18::c19::c20::c21::c22::c23::c24::c25::c26::c27::c28::c29::c30::c31::c32::c33::c34::c35::c36::c37::c38::c39::c40::c41::c42::c43::c44::c45::c46::c47::c48::c49::c50::c51::c52::c53::c54::c55::c56::c57::c58::c59::c60::c61::c62::c63::c64::c65::c66::c67::c68::c69::c70::c71::c72::c73::c74::c75::c76::c77::c78::c79::c80::c81::c82::c83::c84::c85::c86::c87::c88::c89::c90::c91::c92::c93::c94::c95::c96::c97::c98::c99::c100::c101::c102::c103::c104::c105::c106::c107::c108::c109::c110::c111::c112::c113::c114::c115::c116::c117::c118::c119::c120::c121::c122::c123::c124::c125::c126::c127::c128::c129::c130::c131::c132::c133::c134::c135::c136::c137::c138::c139::c140::c141::c142::c143::c144::c145::c146::c147::c148::c149::c150::c151::c152::c153::c154::c155::c156::c157::c158::c159::c160::c161::c162::c163::c164::c165::c166::c167::c168::c169::c170::c171::c172::c173::c174::c175::c176::c177::c178::c179::c180::c181::c182::c183::c184::c185::c186::c187::c188::c189::c190::c191::c192::c193::c194::c195::c196::c197::c198::c199::c200::c201::c202::c203::c204::c205::c206::c207::c208::c209::c210::c211::c212::c213::c214::c215::c216::c217::c218::c219::c220::c221::c222::c223::c224::c225::c226::c227::c228::c229::c230::c231::c232::c233::u234::u235::u236::u237::u238::u239::u240::u241::u242::u243::u244::u245::u246::u247::c248::c249::c250::c251::c252::c253::c254::c255::c256::c257::c258::c259::c260::c261::c262::c263::c264::c265::c266::c267::c268::c269::c270::c271::c272::c273::c274::c275::c276::c277::c278::c279::c280::c281::c282::c283::c284::c285::c286::c287::c288::c289::c290::c291::c292::c293::c294::c295::c296::c297::c298::c299::c300::c301::c302::c303::c304::c305::c306::c307::c308::c309::c310::c311::c312::c313::c314::c315::c316::c317::c318::c319::c320::c321::c322::c323::c324::c325::c326::c327::c328::c329::c330::c331::c332::c333::c334::c335::c336::c337::c338::c339::c340::c341::c342::c343::c344::c345::c346::c347::c348::c349::c350::c351::c352::c353::c354::c355::c356::c357::c358::c359::c360::c361::[]),[]⟩ wx) :
  Code.wp Tryz.prog (blk69 7) Q ⟨List.toArray ((.pointer (some ⟨x.F,0,none⟩))::c1::c2::c3::c4::c5::c6::(.int .u64 n)::c8::c9::c10::c11::c12::c13::c14::c15::c16::c17::c18::c19::c20::c21::c22::c23::c24::c25::c26::c27::c28::c29::c30::c31::c32::c33::c34::c35::c36::c37::c38::c39::c40::c41::c42::c43::c44::c45::c46::c47::c48::c49::c50::c51::c52::c53::c54::c55::c56::c57::c58::c59::c60::c61::c62::c63::c64::c65::c66::c67::c68::c69::c70::c71::c72::c73::c74::c75::c76::c77::c78::c79::c80::c81::c82::c83::c84::c85::c86::c87::c88::c89::c90::c91::c92::c93::c94::c95::c96::c97::c98::c99::c100::c101::c102::c103::c104::c105::c106::c107::c108::c109::c110::c111::c112::c113::c114::c115::c116::c117::c118::c119::c120::c121::c122::c123::c124::c125::c126::c127::c128::c129::c130::c131::c132::c133::c134::c135::c136::c137::c138::c139::c140::c141::c142::c143::c144::c145::c146::c147::c148::c149::c150::c151::c152::c153::c154::c155::c156::c157::c158::c159::c160::c161::c162::c163::c164::c165::c166::c167::c168::c169::c170::c171::c172::c173::c174::c175::c176::c177::c178::c179::c180::c181::c182::c183::c184::c185::c186::c187::c188::c189::c190::c191::c192::c193::c194::c195::c196::c197::c198::c199::c200::c201::c202::c203::c204::c205::c206::c207::c208::c209::c210::c211::c212::c213::c214::c215::c216::c217::c218::c219::c220::c221::c222::c223::c224::c225::c226::c227::c228::c229::c230::c231::c232::c233::c234::c235::c236::c237::c238::c239::c240::c241::c242::c243::c244::c245::c246::c247::c248::c249::c250::c251::c252::c253::c254::c255::c256::c257::c258::c259::c260::c261::c262::c263::c264::c265::c266::c267::c268::c269::c270::c271::c272::c273::c274::c275::c276::c277::c278::c279::c280::c281::c282::c283::c284::c285::c286::c287::c288::c289::c290::c291::c292::c293::c294::c295::c296::c297::c298::c299::c300::c301::c302::c303::c304::c305::c306::c307::c308::c309::c310::c311::c312::c313::c314::c315::c316::c317::c318::c319::c320::c321::c322::c323::c324::c325::c326::c327::c328::c329::c330::c331::c332::c333::c334::c335::c336::c337::c338::c339::c340::c341::c342::c343::c344::c345::c346::c347::c348::c349::c350::c351::c352::c353::c354::c355::c356::c357::c358::c359::c360::c361::[]),[]⟩ w:=by
 have H:=Lib.hid h;have HKK:=Lib.hid hK;have HRR:=Lib.hid hR
 clear h hK hR
 conv => arg 2;whnf
 go_wp2_with fail
 obtain ⟨n0,hn0⟩ : ∃ n,BB.length = n:=⟨_,rfl⟩
 have HN0:=Lib.hid hn0
 rw [hn0] at hBB
 clear hn0
 obtain ⟨k0,hk0⟩ : ∃ k,64 - n0 = k:=⟨_,rfl⟩
 have HK0:=Lib.hid hk0
 clear hk0
 go_loopg [] k0 (fun k wx => ∃ (c' : Array Value) (B' : List Bool) (p' : Nat),Tak x w0 c0 Y wx c' B' p' ∧ (B'.length < n + 8 ∨ B'.length = n0) ∧ n0 ≤ B'.length ∧ k = 64 - B'.length)
 case atStart => exact ⟨c,BB,p,H.out,.inr HN0.out,by rw [HN0.out];exact Nat.le_refl _,by rw [HN0.out];exact HK0.out.symm⟩
 case round =>
  obtain ⟨c',B',p',hT,hb1,hb2,hk⟩:=hrel
  obtain ⟨wo,rfl⟩ : ∃ wo : World,wo = wr:=⟨_,rfl⟩
  obtain ⟨hc3,hc4⟩:=hT.cells
  have hf:=hT.blk.free
  obtain ⟨nb,hnb⟩ : ∃ n,B'.length = n:=⟨_,rfl⟩
  rw [hnb] at hc4 hb1 hb2 hk
  have HT:=Lib.hid hT;have HK:=Lib.hid hk;have HNB:=Lib.hid hnb;have HB1:=Lib.hid hb1
  have hnb24 : nb ≤ 31:=by omega
  clear hT hk hnb hb1 hc3
  rcases Nat.lt_or_ge nb n with hlt | hge
  ·have hn24 : nb ≤ 24:=by omega
   rcases Nat.lt_or_ge p' x.src.length with hp | hp
   ·have HM:=Lib.hid (HT.out.more ap hp (by rw [HNB.out];exact hn24))
    go_wp2_with fail
    refine HM.out.mono ?_
    rintro e w1 ⟨rfl,c1,hT1⟩
    have HT1:=Lib.hid hT1
    clear hT1
    go_wp2_with fail
    go_roundg (64 - (nb + 8))
    case measure => have:=HK.out;omega
    case rel =>
     have hl : (B' ++ lsb x.src[p'].toNat 8).length = nb + 8:=by rw [List.length_append,length_lsb,HNB.out]
     exact ⟨c1,_,_,HT1.out,.inl (by rw [hl];omega),by rw [hl];omega,by rw [hl]⟩
   ·obtain ⟨hx,hpe⟩:=HT.out.short (by omega) (by rw [HNB.out];omega)
    have HM:=Lib.hid (HT.out.over ap hpe)
    go_wp2_with fail
    refine HM.out.mono ?_
    rintro e w1 ⟨rfl,hT1⟩
    have hfr:=hT1.blk.free
    have hce : ∃ v,w1.cell? ⟨x.F,1048,none⟩ = some v:=by
     have hs:=hT1.same.1
     rw [hsz] at hs
     exact ⟨c'[1048]'(by omega),by rw [hT1.blk.cell,Array.getElem?_eq_getElem]⟩
    obtain ⟨ve,hce⟩:=hce
    have HT1:=Lib.hid hT1
    clear hT1
    go_wp2_with fail
    exact HRR.out _ _ _ _ _ _ _ _ _ _ _ _ _ _ _ _ w1 c' B' p' HT1.out hx rfl
  ·go_wp2_with fail
   exact HKK.out _ _ _ _ _ _ _ _ _ _ _ _ _ _ _ _ c' B' p' HT.out (by rw [HNB.out];exact hge) (by rw [HNB.out,HN0.out];exact HB1.out)
end Go.Proofs.YthpapbilhjobnaaGreatDoor
