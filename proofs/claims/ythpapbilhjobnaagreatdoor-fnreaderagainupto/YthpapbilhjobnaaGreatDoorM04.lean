/-
  Parts of the proofs over the reader and the encoder of streams, joined: Rh1 Rh2 Cp. Conditions: each theorem names its own.
-/
import Derived.Test.YthpapbilhjobnaaGreatDoorM02
import Derived.Test.YthpapbilhjobnaaGreatDoorM03
import Derived.Deep.RegionLaw
import Derived.Laws.CopyOwn
set_option linter.unusedVariables false
set_option linter.unusedSimpArgs false
namespace Go.Proofs.YthpapbilhjobnaaGreatDoor
open Go.RowKit Pu
variable {c0 c1 c2 c3 c4 c5 c6 c7 c8 c9 c10 c11 c12 c13 c14 c15 c16 c17 c18 c19 c20 c21 c22 c23 c24 c25 c26 c27 c28 c29 c30 c31 c32 c33 c34 c35 c36 c37 c38 c39 c40 c41 c42 c43 c44 c45 c46 c47 c48 c49 c50 c51 c52 c53 c54 c55 c56 c57 c58 c59 c60 c61 c62 c63 c64 c65 c66 c67 c68 c69 c70 c71 c72 c73 c74 c75 c76 c77 c78 c79 c80 c81 c82 c83 c84 c85 c86 c87 c88 c89 c90 c91 c92 c93 c94 c95 c96 c97 c98 c99 c100 c101 c102 c103 c104 c105 c106 c107 c108 c109 c110 c111 c112 c113 c114 c115 c116 c117 c118 c119 c120 c121 c122 c123 c124 c125 c126 c127 c128 c129 c130 c131 c132 c133 c134 c135 c136 c137 c138 c139 c140 c141 c142 c143 c144 c145 c146 c147 c148 c149 c150 c151 c152 c153 c154 c155 c156 c157 c158 c159 c160 c161 c162 c163 c164 c165 c166 c167 c168 c169 c170 c171 c172 c173 c174 c175 c176 c177 c178 c179 c180 c181 c182 c183 c184 c185 c186 c187 c188 c189 c190 c191 c192 c193 c194 c195 c196 c197 c198 c199 c200 c201 c202 c203 c204 c205 c206 c207 c208 c209 c210 c211 c212 c213 c214 c215 c216 c217 c218 c219 c220 c221 c222 c223 c224 c225 c226 c227 c228 c229 c230 c231 c232 c233 c234 c235 c236 c237 c238 c239 c240 c241 c242 c243 c244 c245 c246 c247 c248 c249 c250 c251 c252 c253 c254 c255 c256 c257 c258 c259 c260 c261 c262 c263 c264 c265 c266 c267 c268 c269 c270 c271 c272 c273 c274 c275 c276 c277 c278 c279 c280 c281 c282 c283 c284 c285 c286 c287 c288 c289 c290 c291 c292 c293 c294 c295 c296 c297 c298 c299 c300 c301 c302 c303 c304 c305 c306 c307 c308 c309 c310 c311 c312 c313 c314 c315 c316 c317 c318 c319 c320 c321 c322 c323 c324 c325 c326 c327 c328 c329 c330 c331 c332 c333 c334 c335 c336 c337 c338 c339 : Value}
def G7 (w : World) : Prop:=∀ i s : Nat,ord[i]? = some s → w.cell? ⟨7,i,none⟩ = some (.int .i64 s)
theorem G7.ext {w w' : World} {M : Nat → Prop} (h : G7 w) (he : Ext M w w') (hm : ¬ M 7) : G7 w':=fun i s hs => he.cellSome hm (h i s hs)
theorem ord_len : ord.length = 19:=rfl
theorem ord_lt (i : Nat) (hi : i < 19) : ∃ s,ord[i]? = some s ∧ s < 19:=by
 have : ∀ i : Fin 19,∃ s,ord[i.val]? = some s ∧ s < 19:=by
  intro i
  have h : ord[i.val]'(by rw [ord_len];exact i.isLt) < 19:=by revert i;decide
  exact ⟨_,List.getElem?_eq_getElem _,h⟩
 exact this ⟨i,hi⟩
theorem ord_inj (i j s : Nat) (hi : ord[i]? = some s) (hj : ord[j]? = some s) : i = j:=by
 have hil : i < 19:=by
  rcases Nat.lt_or_ge i 19 with h | h
  ·exact h
  ·rw [List.getElem?_eq_none (by rw [ord_len];exact h)] at hi;cases hi
 have hjl : j < 19:=by
  rcases Nat.lt_or_ge j 19 with h | h
  ·exact h
  ·rw [List.getElem?_eq_none (by rw [ord_len];exact h)] at hj;cases hj
 have key : ∀ i j : Fin 19,ord[i.val]? = ord[j.val]? → i = j:=by decide
 have:=key ⟨i,hil⟩ ⟨j,hjl⟩ (by rw [hi,hj])
 exact congrArg Fin.val this
theorem ord_surj (s : Nat) (hs : s < 19) : ∃ i,i < 19 ∧ ord[i]? = some s:=by
 have key : ∀ s : Fin 19,∃ i : Fin 19,ord[i.val]? = some s.val:=by decide
 obtain ⟨i,hi⟩:=key ⟨s,hs⟩
 exact ⟨i,i.isLt,hi⟩
theorem ordBits_step (lens : List Nat) (nc i s : Nat) (hi : i < nc) (hs : ord[i]? = some s) : ordBits lens ((ord.take nc).drop i) = lsb (len lens s) 3 ++ ordBits lens ((ord.take nc).drop (i + 1)):=by
 have h : (ord.take nc)[i]? = some s:=by rw [List.getElem?_take,if_pos hi];exact hs
 obtain ⟨hl,he⟩:=List.getElem?_eq_some_iff.1 h
 rw [List.drop_eq_getElem_cons hl,he]
 simp [ordBits]
def Pl.M4 (x : Pl) : Nat → Prop:=fun k => k = x.F ∨ k = x.R ∨ k = x.Bb ∨ k = x.Cb
theorem FM_M4 {x : Pl} {k : Nat} (h : FM x.F x.R k) : x.M4 k:=by
 rcases h with h | h
 ·exact .inl h
 ·exact .inr (.inl h)
structure LS (x : Pl) (w0 : World) (c0 : Array Value) (Y : List Bool) (w : World) (c : Array Value) (BB : List Bool) (p : Nat) (f g : Nat → Nat) : Prop where
 tk : Tak x w c Y w c BB p
 same : Same BM c0 c
 ext : Ext x.M4 w0 w
 bb : Blk w x.Bb (arr 316 f) 149
 cb : Blk w x.Cb (arr 19 g) 150
 g7 : G7 w
section
variable {x : Pl} {w0 : World} {c0 : Array Value} {Y : List Bool} {w : World} {c : Array Value} {BB : List Bool} {p : Nat} {f g : Nat → Nat}
theorem LS.took {w' : World} {c' : Array Value} {B' Y' : List Bool} {p' : Nat} (h : LS x w0 c0 Y w c BB p f g) (ap : Apart x) (ht : Tak x w c Y' w' c' B' p') : LS x w0 c0 Y' w' c' B' p' f g :=
 ⟨ht.anew,h.same.trans ht.same,h.ext.trans (ht.ext.mono (fun _ _ e => FM_M4 e)),h.bb.ext ht.ext (fun e => by rcases e with e | e;exact ap.FB e.symm;exact ap.RB e.symm),h.cb.ext ht.ext (fun e => by rcases e with e | e;exact ap.FC e.symm;exact ap.RC e.symm),
  h.g7.ext ht.ext (fun e => by rcases e with e | e;exact ap.g7 (.inl e);exact ap.g7 (.inr (.inl e)))⟩
theorem LS.setC (h : LS x w0 c0 Y w c BB p f g) (ap : Apart x) (s v : Nat) {g' : Nat → Nat} (hg : ∀ j,j < 19 → g' j = if j = s then v else g j) : LS x w0 c0 Y (w.setCell ⟨x.Cb,s,none⟩ (.int .i64 v)) c BB p f g':=by
 have he : Ext (fun k => k = x.Cb) w (w.setCell ⟨x.Cb,s,none⟩ (.int .i64 v)):=(Ext.refl _ w).only _
 have t:=h.tk
 refine ⟨⟨t.blk.ext he ap.FC,Same.refl _ _,t.rdr,t.bits,t.src.ext he ap.RC ap.sC,t.ends.ext he (fun k hk e => ap.E k hk (.inr (.inr (.inr (.inr e))))),Ext.refl _ _,t.z⟩,h.same,h.ext.trans (he.mono (fun _ _ e => .inr (.inr (.inr e)))),h.bb.ext he ap.BC,?_,h.g7.ext he (fun e => ap.g7 (.inr (.inr (.inr (.inr e)))))⟩
 rw [← arr_set 19 g g' s v hg]
 exact h.cb.set s _
theorem LS.setB (h : LS x w0 c0 Y w c BB p f g) (ap : Apart x) (s v : Nat) {f' : Nat → Nat} (hf : ∀ j,j < 316 → f' j = if j = s then v else f j) : LS x w0 c0 Y (w.setCell ⟨x.Bb,s,none⟩ (.int .i64 v)) c BB p f' g:=by
 have he : Ext (fun k => k = x.Bb) w (w.setCell ⟨x.Bb,s,none⟩ (.int .i64 v)):=(Ext.refl _ w).only _
 have t:=h.tk
 refine ⟨⟨t.blk.ext he ap.FB,Same.refl _ _,t.rdr,t.bits,t.src.ext he ap.RB ap.sB,t.ends.ext he (fun k hk e => ap.E k hk (.inr (.inr (.inr (.inl e))))),Ext.refl _ _,t.z⟩,h.same,h.ext.trans (he.mono (fun _ _ e => .inr (.inr (.inl e)))),?_,h.cb.ext he (Ne.symm ap.BC),h.g7.ext he (fun e => ap.g7 (.inr (.inr (.inr (.inl e)))))⟩
 rw [← arr_set 316 f f' s v hf]
 exact h.bb.set s _
theorem LS.drewN (h : LS x w0 c0 Y w c BB p f g) (n : Nat) : LS x w0 c0 Y (w.drewN n) c BB p f g:=by
 have he : Ext (fun _ => False) w (w.drewN n):=(Ext.refl _ w).drewN n
 exact ⟨(h.tk.quiet he).anew,h.same,h.ext.drewN n,h.bb.drewN n,h.cb.drewN n,h.g7.ext he (fun e => e)⟩
theorem LS.drew (h : LS x w0 c0 Y w c BB p f g) : LS x w0 c0 Y w.drew c BB p f g:=by
 have he : Ext (fun _ => False) w w.drew:=(Ext.refl _ w).drew
 exact ⟨(h.tk.quiet he).anew,h.same,h.ext.drew,h.bb.drew,h.cb.drew,h.g7.ext he (fun e => e)⟩
end
set_option maxRecDepth 100000 in
set_option maxHeartbeats 8000000 in
theorem head_lens (x : Pl) (ap : Apart x) (nc : Nat) (lens : List Nat) (w0 w : World) (c0 c : Array Value) (BB Z : List Bool) (p : Nat) (f g : Nat → Nat) (h : LS x w0 c0 (ordBits lens (ord.take nc) ++ Z) w c BB p f g) (hsz : c0.size = 1054) (hcp : c0[1036]? = some (.pointer (some ⟨x.Cb,0,none⟩)))
  (hBB : BB.length < 8) (hle : ∀ y ∈ lens,y ≤ 7) (hnc : nc ≤ 19) (Q : Exit → Act → World → Prop)
  (hK : ∀ (u2 u7 u8 u92 u93 u94 u95 u96 u97 u98 u99 u100 u101 u102 u103 u104 u105 u106 u107 u108 u109 u110 u111 u112 u113 u114 u115 u116 u117 u118 u119 u120 u121 u122 u123 u124 u125 u126 u127 u128 u129 u130 u131 u132 u133 u134 u135 : Value) (wx : World) (c' : Array Value) (B' : List Bool) (p' : Nat) (g' : Nat → Nat),LS x w0 c0 Z wx c' B' p' f g' → B'.length < 8 → (∀ k s : Nat,k < nc → ord[k]? = some s → g' s = len lens s) → Q .normal ⟨List.toArray ((.pointer (some ⟨x.F,0,none⟩))::c1::u2::c3::c4::c5::(.int .i64 nc)::u7::u8::c9::c10::c11::c12::c13::c14::c15::c16::c17::c18::c19::c20::c21::c22::c23::c24::c25::c26::c27::c28::c29::c30::c31::c32::c33::c34::c35::c36::c37::c38::c39::c40::c41::c42::c43::c44::c45::c46::c47::c48::c49::c50::c51::c52::c53::c54::c55::c56::c57::c58::c59::c60::c61::c62::c63::c64::c65::c66::c67::c68::c69::c70::c71::c72::c73::c74::c75::c76::c77::c78::c79::c80::c81::c82::c83::c84::c85::c86::c87::c88::c89::c90::c91::u92::u93::u94::u95::u96::u97::u98::u99::u100::u101::u102::u103::u104::u105::u106::u107::u108::u109::u110::u111::u112::u113::u114::u115::u116::u117::u118::u119::u120::u121::u122::u123::u124::u125::u126::u127::u128::u129::u130::u131::u132::u133::u134::u135::c136::c137::c138::c139::c140::c141::c142::c143::c144::c145::c146::c147::c148::c149::c150::c151::c152::c153::c154::c155::c156::c157::c158::c159::c160::c161::c162::c163::c164::c165::c166::c167::c168::c169::c170::c171::c172::c173::c174::c175::c176::c177::c178::c179::c180::c181::c182::c183::c184::c185::c186::c187::c188::c189::c190::c191::c192::c193::c194::c195::c196::c197::c198::c199::c200::c201::c202::c203::c204::c205::c206::c207::c208::c209::c210::c211::c212::c213::c214::c215::c216::c217::c218::c219::c220::c221::c222::c223::c224::c225::c226::c227::c228::c229::c230::c231::c232::c233::c234::c235::c236::c237::c238::c239::c240::c241::c242::c243::c244::c245::c246::c247::c248::c249::c250::c251::c252::c253::c254::c255::c256::c257::c258::c259::c260::c261::c262::c263::c264::c265::c266::c267::c268::c269::c270::c271::c272::c273::c274::c275::c276::c277::c278::c279::c280::c281::c282::c283::c284::c285::c286::c287::c288::c289::c290::c291::c292::c293::c294::c295::c296::c297::c298::c299::c300::c301::c302::c303::c304::c305::c306::c307::c308::c309::c310::c311::c312::c313::c314::c315::c316::c317::c318::c319::c320::c321::c322::c323::c324::c325::c326::c327::c328::c329::c330::c331::c332::c333::c334::c335::c336::c337::c338::c339::[]),[]⟩ wx)
  (hR : ∀ (u2 u7 u8 u92 u93 u94 u95 u96 u97 u98 u99 u100 u101 u102 u103 u104 u105 u106 u107 u108 u109 u110 u111 u112 u113 u114 u115 u116 u117 u118 u119 u120 u121 u122 u123 u124 u125 u126 u127 u128 u129 u130 u131 u132 u133 u134 u135 : Value) (wx : World) (c' : Array Value) (Y' B' : List Bool) (p' : Nat) (g' : Nat → Nat),LS x w0 c0 Y' wx c' B' p' f g' → x.ext ≠ [] → u2 = .iface 175 (.pointer (some x.U)) → Q .ret ⟨List.toArray ((.pointer (some ⟨x.F,0,none⟩))::c1::u2::c3::c4::c5::(.int .i64 nc)::u7::u8::c9::c10::c11::c12::c13::c14::c15::c16::c17::c18::c19::c20::c21::c22::c23::c24::c25::c26::c27::c28::c29::c30::c31::c32::c33::c34::c35::c36::c37::c38::c39::c40::c41::c42::c43::c44::c45::c46::c47::c48::c49::c50::c51::c52::c53::c54::c55::c56::c57::c58::c59::c60::c61::c62::c63::c64::c65::c66::c67::c68::c69::c70::c71::c72::c73::c74::c75::c76::c77::c78::c79::c80::c81::c82::c83::c84::c85::c86::c87::c88::c89::c90::c91::u92::u93::u94::u95::u96::u97::u98::u99::u100::u101::u102::u103::u104::u105::u106::u107::u108::u109::u110::u111::u112::u113::u114::u115::u116::u117::u118::u119::u120::u121::u122::u123::u124::u125::u126::u127::u128::u129::u130::u131::u132::u133::u134::u135::c136::c137::c138::c139::c140::c141::c142::c143::c144::c145::c146::c147::c148::c149::c150::c151::c152::c153::c154::c155::c156::c157::c158::c159::c160::c161::c162::c163::c164::c165::c166::c167::c168::c169::c170::c171::c172::c173::c174::c175::c176::c177::c178::c179::c180::c181::c182::c183::c184::c185::c186::c187::c188::c189::c190::c191::c192::c193::c194::c195::c196::c197::c198::c199::c200::c201::c202::c203::c204::c205::c206::c207::c208::c209::c210::c211::c212::c213::c214::c215::c216::c217::c218::c219::c220::c221::c222::c223::c224::c225::c226::c227::c228::c229::c230::c231::c232::c233::c234::c235::c236::c237::c238::c239::c240::c241::c242::c243::c244::c245::c246::c247::c248::c249::c250::c251::c252::c253::c254::c255::c256::c257::c258::c259::c260::c261::c262::c263::c264::c265::c266::c267::c268::c269::c270::c271::c272::c273::c274::c275::c276::c277::c278::c279::c280::c281::c282::c283::c284::c285::c286::c287::c288::c289::c290::c291::c292::c293::c294::c295::c296::c297::c298::c299::c300::c301::c302::c303::c304::c305::c306::c307::c308::c309::c310::c311::c312::c313::c314::c315::c316::c317::c318::c319::c320::c321::c322::c323::c324::c325::c326::c327::c328::c329::c330::c331::c332::c333::c334::c335::c336::c337::c338::c339::[]),[]⟩ wx) :
  Code.wp Tryz.prog (blk70 2) Q ⟨List.toArray ((.pointer (some ⟨x.F,0,none⟩))::c1::c2::c3::c4::c5::(.int .i64 nc)::(.int .i64 0)::c8::c9::c10::c11::c12::c13::c14::c15::c16::c17::c18::c19::c20::c21::c22::c23::c24::c25::c26::c27::c28::c29::c30::c31::c32::c33::c34::c35::c36::c37::c38::c39::c40::c41::c42::c43::c44::c45::c46::c47::c48::c49::c50::c51::c52::c53::c54::c55::c56::c57::c58::c59::c60::c61::c62::c63::c64::c65::c66::c67::c68::c69::c70::c71::c72::c73::c74::c75::c76::c77::c78::c79::c80::c81::c82::c83::c84::c85::c86::c87::c88::c89::c90::c91::c92::c93::c94::c95::c96::c97::c98::c99::c100::c101::c102::c103::c104::c105::c106::c107::c108::c109::c110::c111::c112::c113::c114::c115::c116::c117::c118::c119::c120::c121::c122::c123::c124::c125::c126::c127::c128::c129::c130::c131::c132::c133::c134::c135::c136::c137::c138::c139::c140::c141::c142::c143::c144::c145::c146::c147::c148::c149::c150::c151::c152::c153::c154::c155::c156::c157::c158::c159::c160::c161::c162::c163::c164::c165::c166::c167::c168::c169::c170::c171::c172::c173::c174::c175::c176::c177::c178::c179::c180::c181::c182::c183::c184::c185::c186::c187::c188::c189::c190::c191::c192::c193::c194::c195::c196::c197::c198::c199::c200::c201::c202::c203::c204::c205::c206::c207::c208::c209::c210::c211::c212::c213::c214::c215::c216::c217::c218::c219::c220::c221::c222::c223::c224::c225::c226::c227::c228::c229::c230::c231::c232::c233::c234::c235::c236::c237::c238::c239::c240::c241::c242::c243::c244::c245::c246::c247::c248::c249::c250::c251::c252::c253::c254::c255::c256::c257::c258::c259::c260::c261::c262::c263::c264::c265::c266::c267::c268::c269::c270::c271::c272::c273::c274::c275::c276::c277::c278::c279::c280::c281::c282::c283::c284::c285::c286::c287::c288::c289::c290::c291::c292::c293::c294::c295::c296::c297::c298::c299::c300::c301::c302::c303::c304::c305::c306::c307::c308::c309::c310::c311::c312::c313::c314::c315::c316::c317::c318::c319::c320::c321::c322::c323::c324::c325::c326::c327::c328::c329::c330::c331::c332::c333::c334::c335::c336::c337::c338::c339::[]),[]⟩ w:=by
 have H:=Lib.hid h;have HKK:=Lib.hid hK;have HRR:=Lib.hid hR;have HLE:=Lib.hid hle;have HCP:=Lib.hid hcp
 clear h hK hR hle hcp
 conv => arg 2;whnf
 go_wp2_with fail
 obtain ⟨k0,hk0⟩ : ∃ k,nc = k:=⟨_,rfl⟩
 have HK0:=Lib.hid hk0
 clear hk0
 go_loopg [7] k0 (fun k s7 wx => ∃ (i : Nat) (c' : Array Value) (B' : List Bool) (p' : Nat) (g' : Nat → Nat),s7 = .int .i64 i ∧ i ≤ nc ∧ LS x w0 c0 (ordBits lens ((ord.take nc).drop i) ++ Z) wx c' B' p' f g' ∧ B'.length < 8 ∧ (∀ k s : Nat,k < i → ord[k]? = some s → g' s = len lens s) ∧ k = nc - i)
 case atStart => exact ⟨0,c,BB,p,g,rfl,by omega,H.out,hBB,fun k s hk => by omega,HK0.out.symm⟩
 case round =>
  obtain ⟨i,c1,B1,p1,g1,rfl,hi,hls,hb1,hgg,hk⟩:=hrel
  obtain ⟨wo,rfl⟩ : ∃ wo : World,wo = wr:=⟨_,rfl⟩
  have HLS:=Lib.hid hls;have HGG:=Lib.hid hgg;have HK:=Lib.hid hk
  clear hls hgg hk
  rcases Nat.lt_or_ge i nc with hlt | hge
  ·obtain ⟨s,hs,hs19⟩:=ord_lt i (by omega)
   have hst:=ordBits_step lens nc i s hlt hs
   have HT:=HLS.out.tk
   rw [hst,List.append_assoc] at HT
   have HTT:=Lib.hid HT;have HS:=Lib.hid hs
   clear HT hst hs
   have hc1s : c1.size = 1054:=by rw [HLS.out.same.1];exact hsz
   go_upto_block 4 with (fail)
   refine need70_4 x ap wo wo c1 c1 B1 _ p1 HTT.out hc1s (by simp) (by omega) _ ?_ ?_
   ·intro u2 u8 u97 u98 u99 u100 u101 u102 u103 u104 u105 u106 w2 c2 B2 p2 hT2 h3 hb2
    have HLS2:=Lib.hid (HLS.out.took ap hT2)
    obtain ⟨hc3,hc4⟩:=hT2.cells
    have hcc : w2.cell? ⟨x.F,1036,none⟩ = some (.pointer (some ⟨x.Cb,0,none⟩)):=hT2.other (by omega) (by rw [HLS.out.same.2 1036 (by unfold BM;omega)];exact HCP.out)
    have hg7:=HLS2.out.g7 i s HS.out
    have hf1:=hT2.blk.free
    have hf2:=HLS2.out.cb.free
    have hcs : w2.cell? ⟨x.Cb,s,none⟩ = some (.int .i64 (g1 s)):=by rw [HLS2.out.cb.cell,arr_get 19 _ s hs19]
    obtain ⟨vb,hvb⟩ : ∃ v,val B2 = v:=⟨_,rfl⟩
    obtain ⟨nb,hnb⟩ : ∃ v,B2.length = v:=⟨_,rfl⟩
    have hbl : nb < 11:=by omega
    rw [hnb] at hc4 h3
    rw [hvb] at hc3
    have hvl : vb < 2048:=by
     have:=val_lt B2
     rw [hvb,hnb] at this
     exact Nat.lt_of_lt_of_le this (Nat.le_trans (Nat.pow_le_pow_right (by omega) (show nb ≤ 11 by omega)) (by decide))
    have hbt:=bits_take hT2.z (by rw [hnb];exact h3)
    have hll : len lens s ≤ 7:=by
     unfold len
     rcases Nat.lt_or_ge s lens.length with hq | hq
     ·rw [List.getElem?_eq_getElem hq];exact HLE.out _ (List.getElem_mem hq)
     ·simp [List.getElem?_eq_none hq]
    obtain ⟨lv,hlv⟩ : ∃ v,len lens s = v:=⟨_,rfl⟩
    rw [hvb,hlv] at hbt
    rw [hlv] at hll
    have hand : bits BinOp.and IntKind.u32 (vb : Int) 7 = (lv : Int):=by
     have:=u32_low vb 3 (by omega) (by omega)
     rw [show vb % 2 ^ 3 = lv by have:=hbt.1;omega] at this
     exact this
    have hl0 : (0 : Int) ≤ (s : Int):=by omega
    have hl19 : (s : Int) < 19:=by omega
    have hi0 : (0 : Int) ≤ (i : Int):=by omega
    have hi19 : (i : Int) < 19:=by omega
    have hne1 : ¬ x.F = x.Cb:=ap.FC
    have hne2 : ¬ x.Cb = x.F:=Ne.symm ap.FC
    obtain ⟨y,hy⟩ : ∃ y,g1 s = y:=⟨_,rfl⟩
    rw [hy] at hcs
    have HT2:=Lib.hid hT2;have HB2:=Lib.hid hb2;have HVB:=Lib.hid hvb;have HNB:=Lib.hid hnb;have HLV:=Lib.hid hlv;have HBT:=Lib.hid hbt
    clear hT2 hb2 hvb hnb hlv hbt hy
    have h3i : (3 : Int) ≤ (nb : Int):=by omega
    go_wp2_with fail
    refine region_tail2 15 (by kernel_rfl) (by kernel_rfl) ?_
    intro w3 hw3
    have he3 : Ext (fun _ => False) w2 w3:=by rw [hw3];exact (Ext.refl _ _).drew
    have HLS3 : Hid (LS x w0 c0 (lsb (len lens s) 3 ++ (ordBits lens ((ord.take nc).drop (i + 1)) ++ Z)) w3 c2 B2 p2 f g1):=Lib.hid (by rw [hw3];exact HLS2.out.drew)
    clear hw3
    have hc3':=he3.cellSome (fun e => e) hc3
    have hc4':=he3.cellSome (fun e => e) hc4
    have hcc':=he3.cellSome (fun e => e) hcc
    have hg7':=he3.cellSome (fun e => e) hg7
    have hcs':=he3.cellSome (fun e => e) hcs
    have hf1':=HLS3.out.tk.blk.free
    have hf2':=HLS3.out.cb.free
    clear he3 hc3 hc4 hcc hg7 hcs hf1 hf2
    simp only [List.take_succ_cons,List.take_zero,List.drop_succ_cons,List.drop_zero]
    repeat still_step
    refine wpStill_nil ?_
    go_wp2_with fail
    go_roundg (nc - (i + 1))
    case measure => have:=HK.out;omega
    case rel =>
     have hL4:=HLS3.out.setC ap s lv (g':=fun j => if j = s then lv else g1 j) (fun _ _ => rfl)
     have ht:=hL4.tk
     have hv8 : (vb : Int) / 8 = ((vb / 2 ^ 3 : Nat) : Int):=by omega
     have hn3 : (nb : Int) - 3 = ((nb - 3 : Nat) : Int):=by omega
     have hs4 : 5 ≤ c2.size:=by have:=get_lt ht.bits.nb;omega
     have hU:=ht.used (w':=((w3.setCell ⟨x.Cb,s,none⟩ (.int .i64 lv)).setCell ⟨x.F,3,none⟩ (.int .u32 ((vb / 2 ^ 3 : Nat) : Int))).setCell ⟨x.F,4,none⟩ (.int .u64 ((nb - 3 : Nat) : Int))) (c':=(c2.setIfInBounds 3 (.int .u32 ((vb / 2 ^ 3 : Nat) : Int))).setIfInBounds 4 (.int .u64 ((nb - 3 : Nat) : Int)))
      (by rw [HNB.out];exact h3) ap ((ht.blk.set 3 _).set 4 _) (((Same.refl _ c2).set (.inl rfl) _).set (.inr rfl) _) (((Ext.refl _ _).only _).only _) (by rw [set_ne _ _ (by decide),set_eq _ (by omega),HVB.out]) (by rw [set_eq _ (by simp;omega),HNB.out])
     rw [hv8,hn3]
     refine ⟨i + 1,_,B2.drop 3,p2,_,by go_num,by omega,hL4.took ap hU.1,by rw [List.length_drop,HNB.out];have:=HB2.out;rw [HNB.out] at this;omega,fun k s' hk hs' => ?_,rfl⟩
     rcases Nat.lt_or_ge k i with hki | hki
     ·have hne : s' ≠ s:=fun e => by
       have:=ord_inj k i s (e ▸ hs') HS.out
       omega
      simp only [if_neg hne]
      exact HGG.out k s' hki hs'
     ·obtain rfl : k = i:=by omega
      have : s' = s:=by
       have:=HS.out
       rw [hs'] at this
       exact Option.some.inj this
      simp only [this,if_true]
      exact HLV.out.symm
   ·intro u2 u8 u97 u98 u99 u100 u101 u102 u103 u104 u105 u106 wx wy c2 B2 p2 hT2 hx he
    obtain ⟨rfl,rfl⟩:=he
    have HLS2:=Lib.hid (HLS.out.took ap hT2)
    clear hT2
    go_wp2_with fail
    exact HRR.out _ _ _ _ _ _ _ _ _ _ _ _ _ _ _ _ _ _ _ _ _ _ _ _ _ _ _ _ _ _ _ _ _ _ _ _ _ _ _ _ _ _ _ _ _ _ _ _ c2 _ B2 p2 g1 HLS2.out hx rfl
  ·go_wp2_with fail
   have hin : i = nc:=by omega
   have h0 : ordBits lens ((ord.take nc).drop i) ++ Z = Z:=by
    rw [hin,List.drop_of_length_le (by rw [List.length_take];omega)]
    rfl
   have h1:=HLS.out
   rw [h0] at h1
   exact HKK.out _ _ _ _ _ _ _ _ _ _ _ _ _ _ _ _ _ _ _ _ _ _ _ _ _ _ _ _ _ _ _ _ _ _ _ _ _ _ _ _ _ _ _ _ _ _ _ _ c1 B1 p1 g1 h1 hb1 (fun k s hk hs => HGG.out k s (by omega) hs)
set_option maxRecDepth 100000 in
set_option maxHeartbeats 8000000 in
theorem head_rest (x : Pl) (ap : Apart x) (nc : Nat) (w0 w : World) (c0 c : Array Value) (BB Y : List Bool) (p : Nat) (f g : Nat → Nat) (h : LS x w0 c0 Y w c BB p f g) (hsz : c0.size = 1054) (hcp : c0[1036]? = some (.pointer (some ⟨x.Cb,0,none⟩)))
  (hnc : nc ≤ 19) (Q : Exit → Act → World → Prop)
  (hK : ∀ (u9 u137 u138 u139 u140 u141 u142 u143 u144 u145 u146 u147 u148 u149 : Value) (wx : World) (g' : Nat → Nat),LS x w0 c0 Y wx c BB p f g' → (∀ k s : Nat,ord[k]? = some s → g' s = if nc ≤ k then 0 else g s) → Q .normal ⟨List.toArray ((.pointer (some ⟨x.F,0,none⟩))::c1::c2::c3::c4::c5::c6::c7::c8::u9::c10::c11::c12::c13::c14::c15::c16::c17::c18::c19::c20::c21::c22::c23::c24::c25::c26::c27::c28::c29::c30::c31::c32::c33::c34::c35::c36::c37::c38::c39::c40::c41::c42::c43::c44::c45::c46::c47::c48::c49::c50::c51::c52::c53::c54::c55::c56::c57::c58::c59::c60::c61::c62::c63::c64::c65::c66::c67::c68::c69::c70::c71::c72::c73::c74::c75::c76::c77::c78::c79::c80::c81::c82::c83::c84::c85::c86::c87::c88::c89::c90::c91::c92::c93::c94::c95::c96::c97::c98::c99::c100::c101::c102::c103::c104::c105::c106::c107::c108::c109::c110::c111::c112::c113::c114::c115::c116::c117::c118::c119::c120::c121::c122::c123::c124::c125::c126::c127::c128::c129::c130::c131::c132::c133::c134::c135::c136::u137::u138::u139::u140::u141::u142::u143::u144::u145::u146::u147::u148::u149::c150::c151::c152::c153::c154::c155::c156::c157::c158::c159::c160::c161::c162::c163::c164::c165::c166::c167::c168::c169::c170::c171::c172::c173::c174::c175::c176::c177::c178::c179::c180::c181::c182::c183::c184::c185::c186::c187::c188::c189::c190::c191::c192::c193::c194::c195::c196::c197::c198::c199::c200::c201::c202::c203::c204::c205::c206::c207::c208::c209::c210::c211::c212::c213::c214::c215::c216::c217::c218::c219::c220::c221::c222::c223::c224::c225::c226::c227::c228::c229::c230::c231::c232::c233::c234::c235::c236::c237::c238::c239::c240::c241::c242::c243::c244::c245::c246::c247::c248::c249::c250::c251::c252::c253::c254::c255::c256::c257::c258::c259::c260::c261::c262::c263::c264::c265::c266::c267::c268::c269::c270::c271::c272::c273::c274::c275::c276::c277::c278::c279::c280::c281::c282::c283::c284::c285::c286::c287::c288::c289::c290::c291::c292::c293::c294::c295::c296::c297::c298::c299::c300::c301::c302::c303::c304::c305::c306::c307::c308::c309::c310::c311::c312::c313::c314::c315::c316::c317::c318::c319::c320::c321::c322::c323::c324::c325::c326::c327::c328::c329::c330::c331::c332::c333::c334::c335::c336::c337::c338::c339::[]),[]⟩ wx) :
  Code.wp Tryz.prog (blk70 6) Q ⟨List.toArray ((.pointer (some ⟨x.F,0,none⟩))::c1::c2::c3::c4::c5::c6::c7::c8::(.int .i64 nc)::c10::c11::c12::c13::c14::c15::c16::c17::c18::c19::c20::c21::c22::c23::c24::c25::c26::c27::c28::c29::c30::c31::c32::c33::c34::c35::c36::c37::c38::c39::c40::c41::c42::c43::c44::c45::c46::c47::c48::c49::c50::c51::c52::c53::c54::c55::c56::c57::c58::c59::c60::c61::c62::c63::c64::c65::c66::c67::c68::c69::c70::c71::c72::c73::c74::c75::c76::c77::c78::c79::c80::c81::c82::c83::c84::c85::c86::c87::c88::c89::c90::c91::c92::c93::c94::c95::c96::c97::c98::c99::c100::c101::c102::c103::c104::c105::c106::c107::c108::c109::c110::c111::c112::c113::c114::c115::c116::c117::c118::c119::c120::c121::c122::c123::c124::c125::c126::c127::c128::c129::c130::c131::c132::c133::c134::c135::c136::c137::c138::c139::c140::c141::c142::c143::c144::c145::c146::c147::c148::c149::c150::c151::c152::c153::c154::c155::c156::c157::c158::c159::c160::c161::c162::c163::c164::c165::c166::c167::c168::c169::c170::c171::c172::c173::c174::c175::c176::c177::c178::c179::c180::c181::c182::c183::c184::c185::c186::c187::c188::c189::c190::c191::c192::c193::c194::c195::c196::c197::c198::c199::c200::c201::c202::c203::c204::c205::c206::c207::c208::c209::c210::c211::c212::c213::c214::c215::c216::c217::c218::c219::c220::c221::c222::c223::c224::c225::c226::c227::c228::c229::c230::c231::c232::c233::c234::c235::c236::c237::c238::c239::c240::c241::c242::c243::c244::c245::c246::c247::c248::c249::c250::c251::c252::c253::c254::c255::c256::c257::c258::c259::c260::c261::c262::c263::c264::c265::c266::c267::c268::c269::c270::c271::c272::c273::c274::c275::c276::c277::c278::c279::c280::c281::c282::c283::c284::c285::c286::c287::c288::c289::c290::c291::c292::c293::c294::c295::c296::c297::c298::c299::c300::c301::c302::c303::c304::c305::c306::c307::c308::c309::c310::c311::c312::c313::c314::c315::c316::c317::c318::c319::c320::c321::c322::c323::c324::c325::c326::c327::c328::c329::c330::c331::c332::c333::c334::c335::c336::c337::c338::c339::[]),[]⟩ w:=by
 have H:=Lib.hid h;have HKK:=Lib.hid hK;have HCP:=Lib.hid hcp
 clear h hK hcp
 conv => arg 2;whnf
 go_wp2_with fail
 obtain ⟨k0,hk0⟩ : ∃ k,19 - nc = k:=⟨_,rfl⟩
 have HK0:=Lib.hid hk0
 clear hk0
 go_loopg [9] k0 (fun k s9 wx => ∃ (i : Nat) (g' : Nat → Nat),s9 = .int .i64 i ∧ nc ≤ i ∧ i ≤ 19 ∧ LS x w0 c0 Y wx c BB p f g' ∧ (∀ k s : Nat,ord[k]? = some s → g' s = if nc ≤ k ∧ k < i then 0 else g s) ∧ k = 19 - i)
 case atStart => exact ⟨nc,g,rfl,Nat.le_refl _,hnc,H.out,fun k s hk => by rw [if_neg (by omega)],HK0.out.symm⟩
 case round =>
  obtain ⟨i,g1,rfl,hi0,hi,hls,hgg,hk⟩:=hrel
  obtain ⟨wo,rfl⟩ : ∃ wo : World,wo = wr:=⟨_,rfl⟩
  have HLS:=Lib.hid hls;have HGG:=Lib.hid hgg;have HK:=Lib.hid hk
  clear hls hgg hk
  rcases Nat.lt_or_ge i 19 with hlt | hge
  ·obtain ⟨s,hs,hs19⟩:=ord_lt i hlt
   have hcc : wo.cell? ⟨x.F,1036,none⟩ = some (.pointer (some ⟨x.Cb,0,none⟩)):=by rw [HLS.out.tk.blk.cell,HLS.out.same.2 1036 (by unfold BM;omega)];exact HCP.out
   have hg7:=HLS.out.g7 i s hs
   have hcs : wo.cell? ⟨x.Cb,s,none⟩ = some (.int .i64 (g1 s)):=by rw [HLS.out.cb.cell,arr_get 19 _ s hs19]
   have hf2:=HLS.out.cb.free
   have HS:=Lib.hid hs
   have hl0 : (0 : Int) ≤ (s : Int):=by omega
   have hl19 : (s : Int) < 19:=by omega
   have hi0' : (0 : Int) ≤ (i : Int):=by omega
   have hi19 : (i : Int) < 19:=by omega
   obtain ⟨y,hy⟩ : ∃ y,g1 s = y:=⟨_,rfl⟩
   rw [hy] at hcs
   clear hs hy
   go_wp2_with fail
   refine region_tail2 9 (by kernel_rfl) (by kernel_rfl) ?_
   intro w3 hw3
   have he3 : Ext (fun _ => False) wo w3:=by rw [hw3];exact (Ext.refl _ _).drew
   have HLS3 : Hid (LS x w0 c0 Y w3 c BB p f g1):=Lib.hid (by rw [hw3];exact HLS.out.drew)
   clear hw3
   have hcc':=he3.cellSome (fun e => e) hcc
   have hg7':=he3.cellSome (fun e => e) hg7
   have hcs':=he3.cellSome (fun e => e) hcs
   have hf2':=HLS3.out.cb.free
   clear he3 hcc hg7 hcs hf2
   simp only [List.take_succ_cons,List.take_zero,List.drop_succ_cons,List.drop_zero]
   repeat still_step
   refine wpStill_nil ?_
   go_wp2_with fail
   go_roundg (19 - (i + 1))
   case measure => have:=HK.out;omega
   case rel =>
    refine ⟨i + 1,fun j => if j = s then 0 else g1 j,by go_num,by omega,by omega,HLS3.out.setC ap s 0 (fun _ _ => rfl),fun k s' hs' => ?_,rfl⟩
    have h1:=HGG.out k s' hs'
    by_cases e : s' = s
    ·have : k = i:=ord_inj k i s (e ▸ hs') HS.out
     simp only [if_pos e]
     rw [if_pos (by omega)]
    ·have : k ≠ i:=fun e2 => e (by
      have h2:=HS.out
      rw [← e2,hs'] at h2
      exact Option.some.inj h2)
     simp only [if_neg e]
     rw [h1]
     by_cases e3 : nc ≤ k ∧ k < i
     ·rw [if_pos e3,if_pos (by omega)]
     ·rw [if_neg e3,if_neg (by omega)]
  ·go_wp2_with fail
   refine HKK.out _ _ _ _ _ _ _ _ _ _ _ _ _ _ _ g1 HLS.out (fun k s hs => ?_)
   have hk19 : k < 19:=by
    rcases Nat.lt_or_ge k 19 with h | h
    ·exact h
    ·rw [List.getElem?_eq_none (by rw [ord_len];exact h)] at hs;cases hs
   rw [HGG.out k s hs]
   by_cases e : nc ≤ k
   ·rw [if_pos ⟨e,by omega⟩,if_pos e]
   ·rw [if_neg (fun h => e h.1),if_neg e]
set_option maxRecDepth 100000 in
set_option maxHeartbeats 8000000 in
theorem head_fill (x : Pl) (ap : Apart x) (i0 rep bv : Nat) (w0 w : World) (c0 c : Array Value) (BB Y : List Bool) (p : Nat) (f g : Nat → Nat) (h : LS x w0 c0 Y w c BB p f g) (hsz : c0.size = 1054) (hbp : c0[1035]? = some (.pointer (some ⟨x.Bb,0,none⟩)))
  (hi0 : i0 + rep ≤ 316) (Q : Exit → Act → World → Prop)
  (hK : ∀ (u10 u18 u267 u268 u269 u270 u271 u272 u273 u274 u275 u276 u277 u278 u279 u280 u281 : Value) (wx : World),LS x w0 c0 Y wx c BB p (fun j => if i0 ≤ j ∧ j < i0 + rep then bv else f j) g → u10 = .int .i64 ((i0 + rep : Nat) : Int) → Q .normal ⟨List.toArray ((.pointer (some ⟨x.F,0,none⟩))::c1::c2::c3::c4::c5::c6::c7::c8::c9::u10::c11::c12::c13::(.int .i64 rep)::c15::(.int .i64 bv)::c17::u18::c19::c20::c21::c22::c23::c24::c25::c26::c27::c28::c29::c30::c31::c32::c33::c34::c35::c36::c37::c38::c39::c40::c41::c42::c43::c44::c45::c46::c47::c48::c49::c50::c51::c52::c53::c54::c55::c56::c57::c58::c59::c60::c61::c62::c63::c64::c65::c66::c67::c68::c69::c70::c71::c72::c73::c74::c75::c76::c77::c78::c79::c80::c81::c82::c83::c84::c85::c86::c87::c88::c89::c90::c91::c92::c93::c94::c95::c96::c97::c98::c99::c100::c101::c102::c103::c104::c105::c106::c107::c108::c109::c110::c111::c112::c113::c114::c115::c116::c117::c118::c119::c120::c121::c122::c123::c124::c125::c126::c127::c128::c129::c130::c131::c132::c133::c134::c135::c136::c137::c138::c139::c140::c141::c142::c143::c144::c145::c146::c147::c148::c149::c150::c151::c152::c153::c154::c155::c156::c157::c158::c159::c160::c161::c162::c163::c164::c165::c166::c167::c168::c169::c170::c171::c172::c173::c174::c175::c176::c177::c178::c179::c180::c181::c182::c183::c184::c185::c186::c187::c188::c189::c190::c191::c192::c193::c194::c195::c196::c197::c198::c199::c200::c201::c202::c203::c204::c205::c206::c207::c208::c209::c210::c211::c212::c213::c214::c215::c216::c217::c218::c219::c220::c221::c222::c223::c224::c225::c226::c227::c228::c229::c230::c231::c232::c233::c234::c235::c236::c237::c238::c239::c240::c241::c242::c243::c244::c245::c246::c247::c248::c249::c250::c251::c252::c253::c254::c255::c256::c257::c258::c259::c260::c261::c262::c263::c264::c265::c266::u267::u268::u269::u270::u271::u272::u273::u274::u275::u276::u277::u278::u279::u280::u281::c282::c283::c284::c285::c286::c287::c288::c289::c290::c291::c292::c293::c294::c295::c296::c297::c298::c299::c300::c301::c302::c303::c304::c305::c306::c307::c308::c309::c310::c311::c312::c313::c314::c315::c316::c317::c318::c319::c320::c321::c322::c323::c324::c325::c326::c327::c328::c329::c330::c331::c332::c333::c334::c335::c336::c337::c338::c339::[]),[]⟩ wx) :
  Code.wp Tryz.prog (blk70 13) Q ⟨List.toArray ((.pointer (some ⟨x.F,0,none⟩))::c1::c2::c3::c4::c5::c6::c7::c8::c9::(.int .i64 i0)::c11::c12::c13::(.int .i64 rep)::c15::(.int .i64 bv)::c17::(.int .i64 0)::c19::c20::c21::c22::c23::c24::c25::c26::c27::c28::c29::c30::c31::c32::c33::c34::c35::c36::c37::c38::c39::c40::c41::c42::c43::c44::c45::c46::c47::c48::c49::c50::c51::c52::c53::c54::c55::c56::c57::c58::c59::c60::c61::c62::c63::c64::c65::c66::c67::c68::c69::c70::c71::c72::c73::c74::c75::c76::c77::c78::c79::c80::c81::c82::c83::c84::c85::c86::c87::c88::c89::c90::c91::c92::c93::c94::c95::c96::c97::c98::c99::c100::c101::c102::c103::c104::c105::c106::c107::c108::c109::c110::c111::c112::c113::c114::c115::c116::c117::c118::c119::c120::c121::c122::c123::c124::c125::c126::c127::c128::c129::c130::c131::c132::c133::c134::c135::c136::c137::c138::c139::c140::c141::c142::c143::c144::c145::c146::c147::c148::c149::c150::c151::c152::c153::c154::c155::c156::c157::c158::c159::c160::c161::c162::c163::c164::c165::c166::c167::c168::c169::c170::c171::c172::c173::c174::c175::c176::c177::c178::c179::c180::c181::c182::c183::c184::c185::c186::c187::c188::c189::c190::c191::c192::c193::c194::c195::c196::c197::c198::c199::c200::c201::c202::c203::c204::c205::c206::c207::c208::c209::c210::c211::c212::c213::c214::c215::c216::c217::c218::c219::c220::c221::c222::c223::c224::c225::c226::c227::c228::c229::c230::c231::c232::c233::c234::c235::c236::c237::c238::c239::c240::c241::c242::c243::c244::c245::c246::c247::c248::c249::c250::c251::c252::c253::c254::c255::c256::c257::c258::c259::c260::c261::c262::c263::c264::c265::c266::c267::c268::c269::c270::c271::c272::c273::c274::c275::c276::c277::c278::c279::c280::c281::c282::c283::c284::c285::c286::c287::c288::c289::c290::c291::c292::c293::c294::c295::c296::c297::c298::c299::c300::c301::c302::c303::c304::c305::c306::c307::c308::c309::c310::c311::c312::c313::c314::c315::c316::c317::c318::c319::c320::c321::c322::c323::c324::c325::c326::c327::c328::c329::c330::c331::c332::c333::c334::c335::c336::c337::c338::c339::[]),[]⟩ w:=by
 have H:=Lib.hid h;have HKK:=Lib.hid hK;have HBP:=Lib.hid hbp
 clear h hK hbp
 conv => arg 2;whnf
 go_wp2_with fail
 obtain ⟨k0,hk0⟩ : ∃ k,rep = k:=⟨_,rfl⟩
 have HK0:=Lib.hid hk0
 clear hk0
 go_loopg [10,18] k0 (fun k s10 s18 wx => ∃ j : Nat,s18 = .int .i64 j ∧ s10 = .int .i64 ((i0 + j : Nat) : Int) ∧ j ≤ rep ∧ LS x w0 c0 Y wx c BB p (fun t => if i0 ≤ t ∧ t < i0 + j then bv else f t) g ∧ k = rep - j)
 case atStart =>
  refine ⟨0,rfl,rfl,by omega,?_,HK0.out.symm⟩
  have e : (fun t => if i0 ≤ t ∧ t < i0 + 0 then bv else f t) = f:=funext fun t => if_neg (by omega)
  rw [e];exact H.out
 case round =>
  obtain ⟨j,rfl,rfl,hj,hls,hk⟩:=hrel
  obtain ⟨wo,rfl⟩ : ∃ wo : World,wo = wr:=⟨_,rfl⟩
  have HLS:=Lib.hid hls;have HK:=Lib.hid hk
  clear hls hk
  rcases Nat.lt_or_ge j rep with hlt | hge
  ·obtain ⟨s,hs⟩ : ∃ s,i0 + j = s:=⟨_,rfl⟩
   have hcc : wo.cell? ⟨x.F,1035,none⟩ = some (.pointer (some ⟨x.Bb,0,none⟩)):=by rw [HLS.out.tk.blk.cell,HLS.out.same.2 1035 (by unfold BM;omega)];exact HBP.out
   have hcs : ∃ y : Nat,wo.cell? ⟨x.Bb,s,none⟩ = some (.int .i64 y):=⟨_,by rw [HLS.out.bb.cell,arr_get 316 _ s (by omega)]⟩
   obtain ⟨y,hcs⟩:=hcs
   have hf2:=HLS.out.bb.free
   rw [hs]
   have HS:=Lib.hid hs
   have hl0 : (0 : Int) ≤ (s : Int):=by omega
   have hl19 : (s : Int) < 316:=by omega
   clear hs
   go_wp2_with fail
   go_roundg (rep - (j + 1))
   case measure => have:=HK.out;omega
   case rel =>
    have hs:=HS.out
    refine ⟨j + 1,by go_num,by rw [show i0 + (j + 1) = s + 1 by omega];go_num,by omega,HLS.out.setB ap s bv (fun t ht => ?_),rfl⟩
    by_cases e : t = s
    ·rw [if_pos (by omega),if_pos e]
    ·rw [if_neg e]
     by_cases e2 : i0 ≤ t ∧ t < i0 + j
     ·rw [if_pos (by omega),if_pos e2]
     ·rw [if_neg (by omega),if_neg e2]
  ·go_wp2_with fail
   have hjr : j = rep:=by omega
   refine HKK.out _ _ _ _ _ _ _ _ _ _ _ _ _ _ _ _ _ _ ?_ (by rw [hjr])
   have h1:=HLS.out
   rw [hjr] at h1
   exact h1
end Go.Proofs.YthpapbilhjobnaaGreatDoor
namespace Go.Proofs.YthpapbilhjobnaaGreatDoor
open Go.RowKit Pu
variable {c0 c1 c2 c3 c4 c5 c6 c7 c8 c9 c10 c11 c12 c13 c14 c15 c16 c17 c18 c19 c20 c21 c22 c23 c24 c25 c26 c27 c28 c29 c30 c31 c32 c33 c34 c35 c36 c37 c38 c39 c40 c41 c42 c43 c44 c45 c46 c47 c48 c49 c50 c51 c52 c53 c54 c55 c56 c57 c58 c59 c60 c61 c62 c63 c64 c65 c66 c67 c68 c69 c70 c71 c72 c73 c74 c75 c76 c77 c78 c79 c80 c81 c82 c83 c84 c85 c86 c87 c88 c89 c90 c91 c92 c93 c94 c95 c96 c97 c98 c99 c100 c101 c102 c103 c104 c105 c106 c107 c108 c109 c110 c111 c112 c113 c114 c115 c116 c117 c118 c119 c120 c121 c122 c123 c124 c125 c126 c127 c128 c129 c130 c131 c132 c133 c134 c135 c136 c137 c138 c139 c140 c141 c142 c143 c144 c145 c146 c147 c148 c149 c150 c151 c152 c153 c154 c155 c156 c157 c158 c159 c160 c161 c162 c163 c164 c165 c166 c167 c168 c169 c170 c171 c172 c173 c174 c175 c176 c177 c178 c179 c180 c181 c182 c183 c184 c185 c186 c187 c188 c189 c190 c191 c192 c193 c194 c195 c196 c197 c198 c199 c200 c201 c202 c203 c204 c205 c206 c207 c208 c209 c210 c211 c212 c213 c214 c215 c216 c217 c218 c219 c220 c221 c222 c223 c224 c225 c226 c227 c228 c229 c230 c231 c232 c233 c234 c235 c236 c237 c238 c239 c240 c241 c242 c243 c244 c245 c246 c247 c248 c249 c250 c251 c252 c253 c254 c255 c256 c257 c258 c259 c260 c261 c262 c263 c264 c265 c266 c267 c268 c269 c270 c271 c272 c273 c274 c275 c276 c277 c278 c279 c280 c281 c282 c283 c284 c285 c286 c287 c288 c289 c290 c291 c292 c293 c294 c295 c296 c297 c298 c299 c300 c301 c302 c303 c304 c305 c306 c307 c308 c309 c310 c311 c312 c313 c314 c315 c316 c317 c318 c319 c320 c321 c322 c323 c324 c325 c326 c327 c328 c329 c330 c331 c332 c333 c334 c335 c336 c337 c338 c339 : Value}
structure Res (x : Pl) (w : World) (c : Array Value) (p : Nat) : Prop where
 blk : Blk w x.F c 147
 rdr : c[0]? = some (.iface 50 (.pointer (some ⟨x.R,0,none⟩)))
 src : Src w x.R x.sb x.so x.cap x.src p
 ends : Ends w x.A x.U
theorem Tak.res {x : Pl} {w0 : World} {c0 : Array Value} {Y : List Bool} {w : World} {c : Array Value} {BB : List Bool} {p : Nat} (h : Tak x w0 c0 Y w c BB p) : Res x w c p:=⟨h.blk,h.rdr,h.src,h.ends⟩
theorem FM_N {x : Pl} {k : Nat} (h : FM x.F x.R k) : k = x.F ∨ x.N k:=by
 rcases h with h | h
 ·exact .inl h
 ·exact .inr (.inl h)
theorem M4_N {x : Pl} {k : Nat} (h : x.M4 k) : k = x.F ∨ x.N k:=by
 rcases h with h | h | h | h
 ·exact .inl h
 ·exact .inr (.inl h)
 ·exact .inr (.inr (.inr (.inl h)))
 ·exact .inr (.inr (.inr (.inr (.inl h))))
theorem HT.stay {w w' : World} {x : Pl} {hb ho : Nat} {lens : List Nat} {mn : Nat} {c c' : Array Value} {M S : Nat → Prop} (h : HT w x.F x.N hb ho lens mn) (hw : Blk w x.F c 147) (hw' : Blk w' x.F c' 147) (hs : Same S c c') (hS : ∀ k,5 ≤ k → k < 1035 → ¬ S k) (he : Ext M w w') (hM : ∀ k,M k → k = x.F ∨ x.N k) :
  HT w' x.F x.N hb ho lens mn:=by
 refine h.kept fun b o v hv hn hf => ?_
 by_cases e : b = x.F
 ·subst e
  have h5:=hf rfl
  rw [hw'.cell,hs.2 o (hS o h5.1 h5.2),← hw.cell];exact hv
 ·exact he.cellSome (fun hm => by rcases hM b hm with h1 | h1;exact e h1;exact hn h1) hv
theorem BM_low {k : Nat} (h : 5 ≤ k) : ¬ BM k:=by unfold BM;omega
theorem SymPost.tak {x : Pl} {w : World} {c : Array Value} {BB Z : List Bool} {mn l s : Nat} {e : Ending} {w' : World} (ap : Apart x) (hr : c[0]? = some (.iface 50 (.pointer (some ⟨x.R,0,none⟩)))) (hE : Ends w x.A x.U) (h : SymPost w x.F x.R x.sb x.so x.cap x.src x.ext x.U c BB Z mn l s e w') :
  (∃ c' B' p',e = .returned (.tuple #[.int .i64 s,.nilIface]) ∧ Tak x w c Z w' c' B' p' ∧ (B'.length + l < max mn l + 8 ∨ B'.length + l = BB.length)) ∨
  (x.ext ≠ [] ∧ e = .returned (.tuple #[.int .i64 0,.iface 175 (.pointer (some x.U))]) ∧ ∃ c' p',Res x w' c' p' ∧ Same BM c c' ∧ Ext (FM x.F x.R) w w'):=by
 obtain ⟨c',hb,hs,he,h⟩:=h
 have hr' : c'[0]? = some (.iface 50 (.pointer (some ⟨x.R,0,none⟩))):=by rw [hs.2 0 (by unfold BM;omega)];exact hr
 have hE' : Ends w' x.A x.U:=hE.ext he (fun k hk e => by
  rcases e with e | e
  ·exact ap.E k hk (.inl e)
  ·exact ap.E k hk (.inr (.inl e)))
 rcases h with ⟨B',p',h1,h2,h3,h4,h5⟩ | ⟨h1,⟨p',h2⟩,h3⟩
 ·exact .inl ⟨c',B',p',h1,⟨hb,hs,hr',h2,h3,hE',he,h4⟩,h5⟩
 ·exact .inr ⟨h1,h3,c',p',⟨hb,hr',h2,hE'⟩,hs,he⟩
theorem huffSym_tak {x : Pl} {w0 : World} {c0 : Array Value} {w : World} {c : Array Value} {BB Z : List Bool} {p hb ho mn s : Nat} {lens : List Nat} (ap : Apart x) (h : Tak x w0 c0 (codeBits lens s ++ Z) w c BB p) (hT : HT w x.F x.N hb ho lens mn) (hg : Pu.Good lens) (hs : 0 < len lens s) (hll : lens.length ≤ 400)
  (hmn : mn ≤ 15) (hmZ : mn ≤ len lens s + Z.length) (hBB : BB.length ≤ 23) :
  Calls Tryz.prog 76 #[.pointer (some ⟨x.F,0,none⟩),.pointer (some ⟨hb,ho,none⟩)] w (SymPost w x.F x.R x.sb x.so x.cap x.src x.ext x.U c BB Z mn (len lens s) s) :=
 huffSym_any x.N x.F x.R x.sb x.so x.cap p hb ho mn s x.src x.ext x.A x.U c BB Z lens w h.blk h.rdr h.bits h.src h.ends hT (.inl rfl) hg hs hll h.z hmn hmZ hBB ap.FR ap.sF ap.ER ap.EF
structure LSE (x : Pl) (w0 : World) (c0 : Array Value) (w : World) (c : Array Value) (p : Nat) : Prop where
 res : Res x w c p
 same : Same BM c0 c
 ext : Ext x.M4 w0 w
 bb : ∃ f,Blk w x.Bb (arr 316 f) 149
 cb : ∃ g,Blk w x.Cb (arr 19 g) 150
 g7 : G7 w
theorem LS.lse {x : Pl} {w0 : World} {c0 : Array Value} {Y : List Bool} {w : World} {c : Array Value} {BB : List Bool} {p : Nat} {f g : Nat → Nat} (h : LS x w0 c0 Y w c BB p f g) : LSE x w0 c0 w c p:=⟨h.tk.res,h.same,h.ext,⟨f,h.bb⟩,⟨g,h.cb⟩,h.g7⟩
theorem LS.ended {x : Pl} {w0 : World} {c0 : Array Value} {Y : List Bool} {w w' : World} {c c' : Array Value} {BB : List Bool} {p p' : Nat} {f g : Nat → Nat} (h : LS x w0 c0 Y w c BB p f g) (ap : Apart x) (hr : Res x w' c' p') (hs : Same BM c c') (he : Ext (FM x.F x.R) w w') : LSE x w0 c0 w' c' p' :=
 ⟨hr,h.same.trans hs,h.ext.trans (he.mono (fun _ _ e => FM_M4 e)),⟨f,h.bb.ext he (fun e => by rcases e with e | e;exact ap.FB e.symm;exact ap.RB e.symm)⟩,⟨g,h.cb.ext he (fun e => by rcases e with e | e;exact ap.FC e.symm;exact ap.RC e.symm)⟩,
  h.g7.ext he (fun e => by rcases e with e | e;exact ap.g7 (.inl e);exact ap.g7 (.inr (.inl e)))⟩
theorem LS.anew {x : Pl} {w0 : World} {c0 : Array Value} {Y : List Bool} {w : World} {c : Array Value} {BB : List Bool} {p : Nat} {f g : Nat → Nat} (h : LS x w0 c0 Y w c BB p f g) : LS x w c Y w c BB p f g:=⟨h.tk,Same.refl _ _,Ext.refl _ _,h.bb,h.cb,h.g7⟩
theorem LS.since {x : Pl} {w0 : World} {c0 : Array Value} {Y Y' : List Bool} {w w' : World} {c c' : Array Value} {BB B' : List Bool} {p p' : Nat} {f g f' g' : Nat → Nat} (h : LS x w0 c0 Y w c BB p f g) (k : LS x w c Y' w' c' B' p' f' g') : LS x w0 c0 Y' w' c' B' p' f' g' :=
 ⟨k.tk,h.same.trans k.same,h.ext.trans k.ext,k.bb,k.cb,k.g7⟩
set_option maxRecDepth 100000 in
set_option maxHeartbeats 16000000 in
theorem head_runs (x : Pl) (ap : Apart x) (n mn : Nat) (l lens : List Nat) (rs : List Run) (w0 w : World) (c0 c : Array Value) (BB Z : List Bool) (p : Nat) (f g : Nat → Nat) (h : LS x w0 c0 (runsBits lens rs ++ Z) w c BB p f g) (hsz : c0.size = 1054) (hbp : c0[1035]? = some (.pointer (some ⟨x.Bb,0,none⟩)))
  (hT : HT w x.F x.N x.F 5 lens mn) (hg : Pu.Good lens) (hmn : ∀ s,0 < len lens s → mn ≤ len lens s) (hmn15 : mn ≤ 15) (hll : lens.length ≤ 400) (hfit : runsFit l 0 rs n) (hl : l.length = n) (hn : n ≤ 316) (hcd : ∀ r ∈ rs,0 < len lens r.sym) (hBB : BB.length < 8) (hl15 : ∀ y ∈ l,y ≤ 15) (Q : Exit → Act → World → Prop)
  (hK : ∀ (u2 u10 u12 u13 u14 u15 u16 u17 u18 u169 u170 u171 u172 u173 u174 u175 u176 u177 u178 u179 u180 u181 u182 u183 u184 u185 u186 u187 u188 u189 u190 u191 u192 u193 u194 u195 u196 u197 u198 u199 u200 u201 u202 u203 u204 u205 u206 u207 u208 u209 u210 u211 u212 u213 u214 u215 u216 u217 u218 u219 u220 u221 u222 u223 u224 u225 u226 u227 u228 u229 u230 u231 u232 u233 u234 u235 u236 u237 u238 u239 u240 u241 u242 u243 u244 u245 u246 u247 u248 u249 u250 u251 u252 u253 u254 u255 u256 u257 u258 u259 u260 u261 u262 u263 u264 u265 u266 u267 u268 u269 u270 u271 u272 u273 u274 u275 u276 u277 u278 u279 u280 u281 : Value) (wx : World) (c' : Array Value) (B' : List Bool) (p' : Nat) (f' : Nat → Nat),LS x w0 c0 Z wx c' B' p' f' g → B'.length < 8 → (∀ t : Nat,t < n → f' t = len l t) → Q .normal ⟨List.toArray ((.pointer (some ⟨x.F,0,none⟩))::c1::u2::c3::c4::c5::c6::c7::c8::c9::u10::(.int .i64 n)::u12::u13::u14::u15::u16::u17::u18::c19::c20::c21::c22::c23::c24::c25::c26::c27::c28::c29::c30::c31::c32::c33::c34::c35::c36::c37::c38::c39::c40::c41::c42::c43::c44::c45::c46::c47::c48::c49::c50::c51::c52::c53::c54::c55::c56::c57::c58::c59::c60::c61::c62::c63::c64::c65::c66::c67::c68::c69::c70::c71::c72::c73::c74::c75::c76::c77::c78::c79::c80::c81::c82::c83::c84::c85::c86::c87::c88::c89::c90::c91::c92::c93::c94::c95::c96::c97::c98::c99::c100::c101::c102::c103::c104::c105::c106::c107::c108::c109::c110::c111::c112::c113::c114::c115::c116::c117::c118::c119::c120::c121::c122::c123::c124::c125::c126::c127::c128::c129::c130::c131::c132::c133::c134::c135::c136::c137::c138::c139::c140::c141::c142::c143::c144::c145::c146::c147::c148::c149::c150::c151::c152::c153::c154::c155::c156::c157::c158::c159::c160::c161::c162::c163::c164::c165::c166::c167::c168::u169::u170::u171::u172::u173::u174::u175::u176::u177::u178::u179::u180::u181::u182::u183::u184::u185::u186::u187::u188::u189::u190::u191::u192::u193::u194::u195::u196::u197::u198::u199::u200::u201::u202::u203::u204::u205::u206::u207::u208::u209::u210::u211::u212::u213::u214::u215::u216::u217::u218::u219::u220::u221::u222::u223::u224::u225::u226::u227::u228::u229::u230::u231::u232::u233::u234::u235::u236::u237::u238::u239::u240::u241::u242::u243::u244::u245::u246::u247::u248::u249::u250::u251::u252::u253::u254::u255::u256::u257::u258::u259::u260::u261::u262::u263::u264::u265::u266::u267::u268::u269::u270::u271::u272::u273::u274::u275::u276::u277::u278::u279::u280::u281::c282::c283::c284::c285::c286::c287::c288::c289::c290::c291::c292::c293::c294::c295::c296::c297::c298::c299::c300::c301::c302::c303::c304::c305::c306::c307::c308::c309::c310::c311::c312::c313::c314::c315::c316::c317::c318::c319::c320::c321::c322::c323::c324::c325::c326::c327::c328::c329::c330::c331::c332::c333::c334::c335::c336::c337::c338::c339::[]),[]⟩ wx)
  (hR : ∀ (u2 u10 u12 u13 u14 u15 u16 u17 u18 u169 u170 u171 u172 u173 u174 u175 u176 u177 u178 u179 u180 u181 u182 u183 u184 u185 u186 u187 u188 u189 u190 u191 u192 u193 u194 u195 u196 u197 u198 u199 u200 u201 u202 u203 u204 u205 u206 u207 u208 u209 u210 u211 u212 u213 u214 u215 u216 u217 u218 u219 u220 u221 u222 u223 u224 u225 u226 u227 u228 u229 u230 u231 u232 u233 u234 u235 u236 u237 u238 u239 u240 u241 u242 u243 u244 u245 u246 u247 u248 u249 u250 u251 u252 u253 u254 u255 u256 u257 u258 u259 u260 u261 u262 u263 u264 u265 u266 u267 u268 u269 u270 u271 u272 u273 u274 u275 u276 u277 u278 u279 u280 u281 : Value) (wx : World) (c' : Array Value) (p' : Nat),LSE x w0 c0 wx c' p' → x.ext ≠ [] → u2 = .iface 175 (.pointer (some x.U)) → Q .ret ⟨List.toArray ((.pointer (some ⟨x.F,0,none⟩))::c1::u2::c3::c4::c5::c6::c7::c8::c9::u10::(.int .i64 n)::u12::u13::u14::u15::u16::u17::u18::c19::c20::c21::c22::c23::c24::c25::c26::c27::c28::c29::c30::c31::c32::c33::c34::c35::c36::c37::c38::c39::c40::c41::c42::c43::c44::c45::c46::c47::c48::c49::c50::c51::c52::c53::c54::c55::c56::c57::c58::c59::c60::c61::c62::c63::c64::c65::c66::c67::c68::c69::c70::c71::c72::c73::c74::c75::c76::c77::c78::c79::c80::c81::c82::c83::c84::c85::c86::c87::c88::c89::c90::c91::c92::c93::c94::c95::c96::c97::c98::c99::c100::c101::c102::c103::c104::c105::c106::c107::c108::c109::c110::c111::c112::c113::c114::c115::c116::c117::c118::c119::c120::c121::c122::c123::c124::c125::c126::c127::c128::c129::c130::c131::c132::c133::c134::c135::c136::c137::c138::c139::c140::c141::c142::c143::c144::c145::c146::c147::c148::c149::c150::c151::c152::c153::c154::c155::c156::c157::c158::c159::c160::c161::c162::c163::c164::c165::c166::c167::c168::u169::u170::u171::u172::u173::u174::u175::u176::u177::u178::u179::u180::u181::u182::u183::u184::u185::u186::u187::u188::u189::u190::u191::u192::u193::u194::u195::u196::u197::u198::u199::u200::u201::u202::u203::u204::u205::u206::u207::u208::u209::u210::u211::u212::u213::u214::u215::u216::u217::u218::u219::u220::u221::u222::u223::u224::u225::u226::u227::u228::u229::u230::u231::u232::u233::u234::u235::u236::u237::u238::u239::u240::u241::u242::u243::u244::u245::u246::u247::u248::u249::u250::u251::u252::u253::u254::u255::u256::u257::u258::u259::u260::u261::u262::u263::u264::u265::u266::u267::u268::u269::u270::u271::u272::u273::u274::u275::u276::u277::u278::u279::u280::u281::c282::c283::c284::c285::c286::c287::c288::c289::c290::c291::c292::c293::c294::c295::c296::c297::c298::c299::c300::c301::c302::c303::c304::c305::c306::c307::c308::c309::c310::c311::c312::c313::c314::c315::c316::c317::c318::c319::c320::c321::c322::c323::c324::c325::c326::c327::c328::c329::c330::c331::c332::c333::c334::c335::c336::c337::c338::c339::[]),[]⟩ wx) :
  Code.wp Tryz.prog (blk70 8) Q ⟨List.toArray ((.pointer (some ⟨x.F,0,none⟩))::c1::c2::c3::c4::c5::c6::c7::c8::c9::(.int .i64 0)::(.int .i64 n)::c12::c13::c14::c15::c16::c17::c18::c19::c20::c21::c22::c23::c24::c25::c26::c27::c28::c29::c30::c31::c32::c33::c34::c35::c36::c37::c38::c39::c40::c41::c42::c43::c44::c45::c46::c47::c48::c49::c50::c51::c52::c53::c54::c55::c56::c57::c58::c59::c60::c61::c62::c63::c64::c65::c66::c67::c68::c69::c70::c71::c72::c73::c74::c75::c76::c77::c78::c79::c80::c81::c82::c83::c84::c85::c86::c87::c88::c89::c90::c91::c92::c93::c94::c95::c96::c97::c98::c99::c100::c101::c102::c103::c104::c105::c106::c107::c108::c109::c110::c111::c112::c113::c114::c115::c116::c117::c118::c119::c120::c121::c122::c123::c124::c125::c126::c127::c128::c129::c130::c131::c132::c133::c134::c135::c136::c137::c138::c139::c140::c141::c142::c143::c144::c145::c146::c147::c148::c149::c150::c151::c152::c153::c154::c155::c156::c157::c158::c159::c160::c161::c162::c163::c164::c165::c166::c167::c168::c169::c170::c171::c172::c173::c174::c175::c176::c177::c178::c179::c180::c181::c182::c183::c184::c185::c186::c187::c188::c189::c190::c191::c192::c193::c194::c195::c196::c197::c198::c199::c200::c201::c202::c203::c204::c205::c206::c207::c208::c209::c210::c211::c212::c213::c214::c215::c216::c217::c218::c219::c220::c221::c222::c223::c224::c225::c226::c227::c228::c229::c230::c231::c232::c233::c234::c235::c236::c237::c238::c239::c240::c241::c242::c243::c244::c245::c246::c247::c248::c249::c250::c251::c252::c253::c254::c255::c256::c257::c258::c259::c260::c261::c262::c263::c264::c265::c266::c267::c268::c269::c270::c271::c272::c273::c274::c275::c276::c277::c278::c279::c280::c281::c282::c283::c284::c285::c286::c287::c288::c289::c290::c291::c292::c293::c294::c295::c296::c297::c298::c299::c300::c301::c302::c303::c304::c305::c306::c307::c308::c309::c310::c311::c312::c313::c314::c315::c316::c317::c318::c319::c320::c321::c322::c323::c324::c325::c326::c327::c328::c329::c330::c331::c332::c333::c334::c335::c336::c337::c338::c339::[]),[]⟩ w:=by
 have H:=Lib.hid h;have HKK:=Lib.hid hK;have HRR:=Lib.hid hR;have HBP:=Lib.hid hbp;have HTT:=Lib.hid hT;have HG:=Lib.hid hg;have HMN:=Lib.hid hmn;have HFIT:=Lib.hid hfit;have HL:=Lib.hid hl;have HCD:=Lib.hid hcd;have HL15:=Lib.hid hl15
 clear h hK hR hbp hT hg hmn hfit hl hcd hl15
 conv => arg 2;whnf
 go_wp2_with fail
 obtain ⟨k0,hk0⟩ : ∃ k,n = k:=⟨_,rfl⟩
 have HK0:=Lib.hid hk0
 clear hk0
 go_loopg [10] k0 (fun k s10 wx => ∃ (i : Nat) (rs' : List Run) (c' : Array Value) (B' : List Bool) (p' : Nat) (f' : Nat → Nat),s10 = .int .i64 i ∧ i ≤ n ∧ LS x w0 c0 (runsBits lens rs' ++ Z) wx c' B' p' f' g ∧ HT wx x.F x.N x.F 5 lens mn ∧ runsFit l i rs' n ∧ (∀ r ∈ rs',0 < len lens r.sym) ∧ B'.length < 8 ∧ (∀ t,t < i → f' t = len l t) ∧ k = n - i)
 case atStart => exact ⟨0,rs,c,BB,p,f,rfl,by omega,H.out,HTT.out,HFIT.out,HCD.out,hBB,fun t ht => by omega,HK0.out.symm⟩
 case round =>
  obtain ⟨i,rs1,c1,B1,p1,f1,rfl,hi,hls,hht,hrf,hrc,hb1,hff,hk⟩:=hrel
  obtain ⟨wo,rfl⟩ : ∃ wo : World,wo = wr:=⟨_,rfl⟩
  have HLS:=Lib.hid hls;have HHT:=Lib.hid hht;have HFF:=Lib.hid hff;have HK:=Lib.hid hk;have HRC:=Lib.hid hrc;have HRF:=Lib.hid hrf
  clear hls hht hff hk hrc hrf
  rcases Nat.lt_or_ge i n with hlt | hge
  ·cases rs1 with
   | nil =>
    exfalso
    have h1 : i = n:=HRF.out
    omega
   | cons r t =>
    obtain ⟨hrfit,hrest⟩:=HRF.out
    have hr0:=HRC.out r (by simp)
    have hle:=Run.fits_le hrfit
    have HREST:=Lib.hid hrest;have HRFIT:=Lib.hid hrfit
    have hT1:=HLS.out.tk
    have hbits : runsBits lens (r::t) ++ Z = codeBits lens r.sym ++ (lsb r.more r.extra ++ (runsBits lens t ++ Z)):=by simp [runsBits,runBits]
    rw [hbits] at hT1
    have HS:=Lib.hid (huffSym_tak ap hT1 HHT.out HG.out hr0 hll hmn15 (Nat.le_trans (HMN.out _ hr0) (Nat.le_add_right _ _)) (by omega))
    have hcr : c1[0]? = some (.iface 50 (.pointer (some ⟨x.R,0,none⟩))):=hT1.rdr
    have hce:=hT1.ends
    have hmnr:=HMN.out _ hr0
    have HB1:=Lib.hid hb1
    obtain ⟨sy,hsy⟩ : ∃ s,r.sym = s:=⟨_,rfl⟩
    rw [hsy] at HS hmnr hr0
    have HSY:=Lib.hid hsy
    clear hrest hrfit hT1 hbits hsy hb1
    go_wp2_with fail
    refine HS.out.mono ?_
    rintro e w1 hpost
    rcases hpost.tak ap hcr hce with ⟨c2,B2,p2,rfl,hT2,hb2⟩ | ⟨hx,rfl,c2,p2,hres,hs2,he2⟩
    ·have HLS2:=Lib.hid (HLS.out.took ap hT2)
     have hb28 : B2.length < 8:=by have:=HB1.out;omega
     have HHT2:=Lib.hid (HHT.out.stay HLS.out.tk.blk hT2.blk hT2.same (fun k hk _ => BM_low hk) hT2.ext (fun k hk => FM_N hk))
     have hbpc : w1.cell? ⟨x.F,1035,none⟩ = some (.pointer (some ⟨x.Bb,0,none⟩)):=hT2.other (by omega) (by rw [HLS.out.same.2 1035 (by unfold BM;omega)];exact HBP.out)
     have HT2:=Lib.hid hT2
     have hl2 : c2.size = 1054:=by rw [HLS2.out.same.1];exact hsz
     clear hpost hb2 hT2 HS
     rcases HRFIT.out with ⟨h1,h2,h3,h4⟩ | ⟨h1,h2,h3,h4,h5,h6⟩ | ⟨h1,h2,h3,h4,h5⟩ | ⟨h1,h2,h3,h4,h5⟩
     ·rw [HSY.out] at h1 h4
      have hs16 : (sy : Int) < 16:=by omega
      have hcs : ∃ y : Nat,w1.cell? ⟨x.Bb,i,none⟩ = some (.int .i64 y):=⟨_,by rw [HLS2.out.bb.cell,arr_get 316 _ i (by omega)]⟩
      obtain ⟨y,hcs⟩:=hcs
      have hf2:=HLS2.out.bb.free
      have hi0 : (0 : Int) ≤ (i : Int):=by omega
      have hi316 : (i : Int) < 316:=by omega
      have H2:=Lib.hid h2;have H3:=Lib.hid h3;have H4:=Lib.hid h4
      clear h2 h3 h4
      go_wp2_with fail
      go_roundg (n - (i + 1))
      case measure => have:=HK.out;omega
      case rel =>
       have hL:=HLS2.out
       rw [H2.out,H3.out] at hL
       have hst : r.step = 1:=by unfold Run.step;rw [HSY.out,if_pos (by omega)]
       have hrest:=HREST.out
       rw [hst] at hrest
       have hlen : len l i = sy:=by unfold len;rw [H4.out];rfl
       refine ⟨i + 1,t,c2,B2,p2,fun j => if j = i then sy else f1 j,by go_num,by omega,(show lsb 0 0 ++ (runsBits lens t ++ Z) = runsBits lens t ++ Z from rfl) ▸ (hL.setB ap i sy (fun _ _ => rfl)),?_,hrest,fun q hq => HRC.out q (by simp [hq]),hb28,fun j hj => ?_,rfl⟩
       ·exact HHT2.out.stay HT2.out.blk (hL.setB ap i sy (f':=fun j => if j = i then sy else f1 j) (fun _ _ => rfl)).tk.blk (Same.refl (fun _ => False) c2) (fun _ _ _ e => e) ((Ext.refl (fun k => k = x.Bb) w1).only _) (fun k hk => .inr (.inr (.inr (.inl hk))))
       ·by_cases e : j = i
        ·simp only [if_pos e];rw [e,hlen]
        ·simp only [if_neg e];exact HFF.out j (by omega)
     ·rw [HSY.out] at h1
      subst h1
      have hi1 : (1 : Int) ≤ (i : Int):=by omega
      have hiq : ((i : Int) == 0) = false:=by simp;omega
      obtain ⟨bv,hbv⟩ : ∃ y,len l (i - 1) = y:=⟨_,rfl⟩
      have hcs : w1.cell? ⟨x.Bb,i - 1,none⟩ = some (.int .i64 bv):=by rw [HLS2.out.bb.cell,arr_get 316 _ _ (by omega),HFF.out (i - 1) (by omega),hbv]
      have HBV:=Lib.hid hbv
      have him : (i : Int) - 1 = ((i - 1 : Nat) : Int):=by omega
      have hil : (((i - 1 : Nat)) : Int) < 316:=by omega
      have hil0 : (0 : Int) ≤ (((i - 1 : Nat)) : Int):=by omega
      clear hbv
      have H2:=Lib.hid h2;have H3:=Lib.hid h3;have H5:=Lib.hid h6
      have hmore : r.more < 4:=h2
      obtain ⟨mo,hmo⟩ : ∃ m,r.more = m:=⟨_,rfl⟩
      rw [hmo] at hmore
      have HMO:=Lib.hid hmo
      have hir : i + (3 + mo) ≤ n:=by rw [← hmo];have:=HL.out;omega
      have hY2:=HLS2.out
      rw [HMO.out,H3.out] at hY2
      have HY2:=Lib.hid hY2
      clear h2 h3 h4 h5 h6 hmo hY2
      go_upto_block 11 with (fail)
      refine need70_11 x ap 2 (by omega) w1 w1 c2 c2 B2 _ p2 HY2.out.tk hl2 (by simp) (by omega) _ ?_ ?_
      ·intro u2 u17 u219 u220 u221 u222 u223 u224 u225 u226 u227 u228 u229 w3 c3 B3 p3 hT3 hn3 hb3
       have HLS3:=Lib.hid (HY2.out.took ap hT3)
       have HHT3:=Lib.hid (HHT2.out.stay HT2.out.blk hT3.blk hT3.same (fun k hk _ => BM_low hk) hT3.ext (fun k hk => FM_N hk))
       obtain ⟨hc3,hc4⟩:=hT3.cells
       have hf1:=hT3.blk.free
       obtain ⟨vb,hvb⟩ : ∃ v,val B3 = v:=⟨_,rfl⟩
       obtain ⟨nb,hnb⟩ : ∃ v,B3.length = v:=⟨_,rfl⟩
       have hnbl : nb < 16:=by omega
       rw [hnb] at hc4 hn3
       rw [hvb] at hc3
       have hvl : vb < 65536:=by
        have:=val_lt B3
        rw [hvb,hnb] at this
        exact Nat.lt_of_lt_of_le this (Nat.le_trans (Nat.pow_le_pow_right (by omega) (show nb ≤ 16 by omega)) (by decide))
       have hbt:=(bits_take hT3.z (by rw [hnb];exact hn3)).1
       rw [hvb] at hbt
       have hand : bits BinOp.and IntKind.u32 (vb : Int) 3 = (mo : Int):=by
        have:=u32_low vb 2 (by omega) (by omega)
        rw [show vb % 2 ^ 2 = mo by omega] at this
        exact this
       have hn3i : (2 : Int) ≤ (nb : Int):=by omega
       have hmo0 : (mo : Int) < 4:=by omega
       have hin : ¬ ((n : Int) < (i : Int) + (3 + (mo : Int))):=by omega
       have HT3:=Lib.hid hT3;have HVB:=Lib.hid hvb;have HNB:=Lib.hid hnb;have HB3:=Lib.hid hb3
       clear hT3 hvb hnb hb3 hbt
       go_upto_block 13 with (fail)
       have e1 : (3 : Int) + (mo : Int) = ((3 + mo : Nat) : Int):=by omega
       rw [e1]
       have hv8 : (vb : Int) / 4 = ((vb / 2 ^ 2 : Nat) : Int):=by omega
       have hn8 : (nb : Int) - 2 = ((nb - 2 : Nat) : Int):=by omega
       have hs4 : 5 ≤ c3.size:=by have:=get_lt HT3.out.bits.nb;omega
       have hU:=HLS3.out.tk.used (w':=(w3.setCell ⟨x.F,3,none⟩ (.int .u32 ((vb / 2 ^ 2 : Nat) : Int))).setCell ⟨x.F,4,none⟩ (.int .u64 ((nb - 2 : Nat) : Int))) (c':=(c3.setIfInBounds 3 (.int .u32 ((vb / 2 ^ 2 : Nat) : Int))).setIfInBounds 4 (.int .u64 ((nb - 2 : Nat) : Int)))
        (by rw [HNB.out];exact hn3) ap ((HT3.out.blk.set 3 _).set 4 _) (((Same.refl _ c3).set (.inl rfl) _).set (.inr rfl) _) (((Ext.refl _ _).only _).only _) (by rw [set_ne _ _ (by decide),set_eq _ (by omega),HVB.out]) (by rw [set_eq _ (by simp;omega),HNB.out])
       have HLS4:=Lib.hid (HLS3.out.took ap hU.1)
       have HHT4:=Lib.hid (HHT3.out.stay HT3.out.blk hU.1.blk hU.1.same (fun k hk _ => BM_low hk) hU.1.ext (fun k hk => FM_N hk))
       rw [hv8,hn8]
       clear hU hc3 hc4 hf1 hand hv8 hn8 e1
       refine head_fill x ap i (3 + mo) bv _ _ _ _ _ _ p3 f1 g HLS4.out.anew (by rw [HLS4.out.same.1];exact hsz) (by rw [HLS4.out.same.2 1035 (BM_low (by omega))];exact HBP.out) (by omega) _ ?_
       intro u10 u18 u267 u268 u269 u270 u271 u272 u273 u274 u275 u276 u277 u278 u279 u280 u281 w5 hL5 hu10
       subst hu10
       have HHT5:=Lib.hid (HHT4.out.stay HLS4.out.tk.blk hL5.tk.blk hL5.same (fun k hk _ => BM_low hk) hL5.ext (fun k hk => M4_N hk))
       have HL5:=Lib.hid (HLS4.out.since hL5)
       clear hL5
       go_wp2_with fail
       go_roundg (n - (i + (3 + mo)))
       case measure => have:=HK.out;omega
       case rel =>
        have hst : r.step = 3 + mo:=by unfold Run.step;rw [HSY.out,HMO.out];rfl
        have hrest:=HREST.out
        rw [hst] at hrest
        refine ⟨i + (3 + mo),t,_,_,p3,_,by go_num,by omega,HL5.out,HHT5.out,hrest,fun q hq => HRC.out q (by simp [hq]),by rw [List.length_drop,HNB.out];have:=HB3.out;rw [HNB.out] at this;omega,fun j hj => ?_,rfl⟩
        by_cases e : i ≤ j ∧ j < i + (3 + mo)
        ·simp only [if_pos e]
         have h6:=H5.out (j - i) (by rw [HMO.out];omega)
         rw [show i + (j - i) = j by omega] at h6
         unfold len
         rw [h6]
         exact HBV.out.symm
        ·simp only [if_neg e]
         exact HFF.out j (by omega)
      ·intro u2 u17 u219 u220 u221 u222 u223 u224 u225 u226 u227 u228 u229 wx wy c3 B3 p3 hT3 hx he
       obtain ⟨rfl,rfl⟩:=he
       have HLS3:=Lib.hid (HY2.out.took ap hT3)
       clear hT3
       go_wp2_with fail
       exact HRR.out _ _ _ _ _ _ _ _ _ _ _ _ _ _ _ _ _ _ _ _ _ _ _ _ _ _ _ _ _ _ _ _ _ _ _ _ _ _ _ _ _ _ _ _ _ _ _ _ _ _ _ _ _ _ _ _ _ _ _ _ _ _ _ _ _ _ _ _ _ _ _ _ _ _ _ _ _ _ _ _ _ _ _ _ _ _ _ _ _ _ _ _ _ _ _ _ _ _ _ _ _ _ _ _ _ _ _ _ _ _ _ _ _ _ _ _ _ _ _ _ _ _ _ c3 p3 HLS3.out.lse hx rfl
     ·rw [HSY.out] at h1
      subst h1
      skip
      have H2:=Lib.hid h2;have H3:=Lib.hid h3;have H5:=Lib.hid h5
      have hmore : r.more < 8:=h2
      obtain ⟨mo,hmo⟩ : ∃ m,r.more = m:=⟨_,rfl⟩
      rw [hmo] at hmore
      have HMO:=Lib.hid hmo
      have hir : i + (3 + mo) ≤ n:=by rw [← hmo];have:=HL.out;omega
      have hY2:=HLS2.out
      rw [HMO.out,H3.out] at hY2
      have HY2:=Lib.hid hY2
      clear h2 h3 h4 h5 hmo hY2
      go_upto_block 11 with (fail)
      refine need70_11 x ap 3 (by omega) w1 w1 c2 c2 B2 _ p2 HY2.out.tk hl2 (by simp) (by omega) _ ?_ ?_
      ·intro u2 u17 u219 u220 u221 u222 u223 u224 u225 u226 u227 u228 u229 w3 c3 B3 p3 hT3 hn3 hb3
       have HLS3:=Lib.hid (HY2.out.took ap hT3)
       have HHT3:=Lib.hid (HHT2.out.stay HT2.out.blk hT3.blk hT3.same (fun k hk _ => BM_low hk) hT3.ext (fun k hk => FM_N hk))
       obtain ⟨hc3,hc4⟩:=hT3.cells
       have hf1:=hT3.blk.free
       obtain ⟨vb,hvb⟩ : ∃ v,val B3 = v:=⟨_,rfl⟩
       obtain ⟨nb,hnb⟩ : ∃ v,B3.length = v:=⟨_,rfl⟩
       have hnbl : nb < 16:=by omega
       rw [hnb] at hc4 hn3
       rw [hvb] at hc3
       have hvl : vb < 65536:=by
        have:=val_lt B3
        rw [hvb,hnb] at this
        exact Nat.lt_of_lt_of_le this (Nat.le_trans (Nat.pow_le_pow_right (by omega) (show nb ≤ 16 by omega)) (by decide))
       have hbt:=(bits_take hT3.z (by rw [hnb];exact hn3)).1
       rw [hvb] at hbt
       have hand : bits BinOp.and IntKind.u32 (vb : Int) 7 = (mo : Int):=by
        have:=u32_low vb 3 (by omega) (by omega)
        rw [show vb % 2 ^ 3 = mo by omega] at this
        exact this
       have hn3i : (3 : Int) ≤ (nb : Int):=by omega
       have hmo0 : (mo : Int) < 8:=by omega
       have hin : ¬ ((n : Int) < (i : Int) + (3 + (mo : Int))):=by omega
       have HT3:=Lib.hid hT3;have HVB:=Lib.hid hvb;have HNB:=Lib.hid hnb;have HB3:=Lib.hid hb3
       clear hT3 hvb hnb hb3 hbt
       go_upto_block 13 with (fail)
       have e1 : (3 : Int) + (mo : Int) = ((3 + mo : Nat) : Int):=by omega
       rw [e1]
       have hv8 : (vb : Int) / 8 = ((vb / 2 ^ 3 : Nat) : Int):=by omega
       have hn8 : (nb : Int) - 3 = ((nb - 3 : Nat) : Int):=by omega
       have hs4 : 5 ≤ c3.size:=by have:=get_lt HT3.out.bits.nb;omega
       have hU:=HLS3.out.tk.used (w':=(w3.setCell ⟨x.F,3,none⟩ (.int .u32 ((vb / 2 ^ 3 : Nat) : Int))).setCell ⟨x.F,4,none⟩ (.int .u64 ((nb - 3 : Nat) : Int))) (c':=(c3.setIfInBounds 3 (.int .u32 ((vb / 2 ^ 3 : Nat) : Int))).setIfInBounds 4 (.int .u64 ((nb - 3 : Nat) : Int)))
        (by rw [HNB.out];exact hn3) ap ((HT3.out.blk.set 3 _).set 4 _) (((Same.refl _ c3).set (.inl rfl) _).set (.inr rfl) _) (((Ext.refl _ _).only _).only _) (by rw [set_ne _ _ (by decide),set_eq _ (by omega),HVB.out]) (by rw [set_eq _ (by simp;omega),HNB.out])
       have HLS4:=Lib.hid (HLS3.out.took ap hU.1)
       have HHT4:=Lib.hid (HHT3.out.stay HT3.out.blk hU.1.blk hU.1.same (fun k hk _ => BM_low hk) hU.1.ext (fun k hk => FM_N hk))
       rw [hv8,hn8]
       clear hU hc3 hc4 hf1 hand hv8 hn8 e1
       refine head_fill x ap i (3 + mo) 0 _ _ _ _ _ _ p3 f1 g HLS4.out.anew (by rw [HLS4.out.same.1];exact hsz) (by rw [HLS4.out.same.2 1035 (BM_low (by omega))];exact HBP.out) (by omega) _ ?_
       intro u10 u18 u267 u268 u269 u270 u271 u272 u273 u274 u275 u276 u277 u278 u279 u280 u281 w5 hL5 hu10
       subst hu10
       have HHT5:=Lib.hid (HHT4.out.stay HLS4.out.tk.blk hL5.tk.blk hL5.same (fun k hk _ => BM_low hk) hL5.ext (fun k hk => M4_N hk))
       have HL5:=Lib.hid (HLS4.out.since hL5)
       clear hL5
       go_wp2_with fail
       go_roundg (n - (i + (3 + mo)))
       case measure => have:=HK.out;omega
       case rel =>
        have hst : r.step = 3 + mo:=by unfold Run.step;rw [HSY.out,HMO.out];rfl
        have hrest:=HREST.out
        rw [hst] at hrest
        refine ⟨i + (3 + mo),t,_,_,p3,_,by go_num,by omega,HL5.out,HHT5.out,hrest,fun q hq => HRC.out q (by simp [hq]),by rw [List.length_drop,HNB.out];have:=HB3.out;rw [HNB.out] at this;omega,fun j hj => ?_,rfl⟩
        by_cases e : i ≤ j ∧ j < i + (3 + mo)
        ·simp only [if_pos e]
         have h6:=H5.out (j - i) (by rw [HMO.out];omega)
         rw [show i + (j - i) = j by omega] at h6
         unfold len
         rw [h6]
         rfl
        ·simp only [if_neg e]
         exact HFF.out j (by omega)
      ·intro u2 u17 u219 u220 u221 u222 u223 u224 u225 u226 u227 u228 u229 wx wy c3 B3 p3 hT3 hx he
       obtain ⟨rfl,rfl⟩:=he
       have HLS3:=Lib.hid (HY2.out.took ap hT3)
       clear hT3
       go_wp2_with fail
       exact HRR.out _ _ _ _ _ _ _ _ _ _ _ _ _ _ _ _ _ _ _ _ _ _ _ _ _ _ _ _ _ _ _ _ _ _ _ _ _ _ _ _ _ _ _ _ _ _ _ _ _ _ _ _ _ _ _ _ _ _ _ _ _ _ _ _ _ _ _ _ _ _ _ _ _ _ _ _ _ _ _ _ _ _ _ _ _ _ _ _ _ _ _ _ _ _ _ _ _ _ _ _ _ _ _ _ _ _ _ _ _ _ _ _ _ _ _ _ _ _ _ _ _ _ _ c3 p3 HLS3.out.lse hx rfl
     ·rw [HSY.out] at h1
      subst h1
      skip
      have H2:=Lib.hid h2;have H3:=Lib.hid h3;have H5:=Lib.hid h5
      have hmore : r.more < 128:=h2
      obtain ⟨mo,hmo⟩ : ∃ m,r.more = m:=⟨_,rfl⟩
      rw [hmo] at hmore
      have HMO:=Lib.hid hmo
      have hir : i + (11 + mo) ≤ n:=by rw [← hmo];have:=HL.out;omega
      have hY2:=HLS2.out
      rw [HMO.out,H3.out] at hY2
      have HY2:=Lib.hid hY2
      clear h2 h3 h4 h5 hmo hY2
      go_upto_block 11 with (fail)
      refine need70_11 x ap 7 (by omega) w1 w1 c2 c2 B2 _ p2 HY2.out.tk hl2 (by simp) (by omega) _ ?_ ?_
      ·intro u2 u17 u219 u220 u221 u222 u223 u224 u225 u226 u227 u228 u229 w3 c3 B3 p3 hT3 hn3 hb3
       have HLS3:=Lib.hid (HY2.out.took ap hT3)
       have HHT3:=Lib.hid (HHT2.out.stay HT2.out.blk hT3.blk hT3.same (fun k hk _ => BM_low hk) hT3.ext (fun k hk => FM_N hk))
       obtain ⟨hc3,hc4⟩:=hT3.cells
       have hf1:=hT3.blk.free
       obtain ⟨vb,hvb⟩ : ∃ v,val B3 = v:=⟨_,rfl⟩
       obtain ⟨nb,hnb⟩ : ∃ v,B3.length = v:=⟨_,rfl⟩
       have hnbl : nb < 16:=by omega
       rw [hnb] at hc4 hn3
       rw [hvb] at hc3
       have hvl : vb < 65536:=by
        have:=val_lt B3
        rw [hvb,hnb] at this
        exact Nat.lt_of_lt_of_le this (Nat.le_trans (Nat.pow_le_pow_right (by omega) (show nb ≤ 16 by omega)) (by decide))
       have hbt:=(bits_take hT3.z (by rw [hnb];exact hn3)).1
       rw [hvb] at hbt
       have hand : bits BinOp.and IntKind.u32 (vb : Int) 127 = (mo : Int):=by
        have:=u32_low vb 7 (by omega) (by omega)
        rw [show vb % 2 ^ 7 = mo by omega] at this
        exact this
       have hn3i : (7 : Int) ≤ (nb : Int):=by omega
       have hmo0 : (mo : Int) < 128:=by omega
       have hin : ¬ ((n : Int) < (i : Int) + (11 + (mo : Int))):=by omega
       have HT3:=Lib.hid hT3;have HVB:=Lib.hid hvb;have HNB:=Lib.hid hnb;have HB3:=Lib.hid hb3
       clear hT3 hvb hnb hb3 hbt
       go_upto_block 13 with (fail)
       have e1 : (11 : Int) + (mo : Int) = ((11 + mo : Nat) : Int):=by omega
       rw [e1]
       have hv8 : (vb : Int) / 128 = ((vb / 2 ^ 7 : Nat) : Int):=by omega
       have hn8 : (nb : Int) - 7 = ((nb - 7 : Nat) : Int):=by omega
       have hs4 : 5 ≤ c3.size:=by have:=get_lt HT3.out.bits.nb;omega
       have hU:=HLS3.out.tk.used (w':=(w3.setCell ⟨x.F,3,none⟩ (.int .u32 ((vb / 2 ^ 7 : Nat) : Int))).setCell ⟨x.F,4,none⟩ (.int .u64 ((nb - 7 : Nat) : Int))) (c':=(c3.setIfInBounds 3 (.int .u32 ((vb / 2 ^ 7 : Nat) : Int))).setIfInBounds 4 (.int .u64 ((nb - 7 : Nat) : Int)))
        (by rw [HNB.out];exact hn3) ap ((HT3.out.blk.set 3 _).set 4 _) (((Same.refl _ c3).set (.inl rfl) _).set (.inr rfl) _) (((Ext.refl _ _).only _).only _) (by rw [set_ne _ _ (by decide),set_eq _ (by omega),HVB.out]) (by rw [set_eq _ (by simp;omega),HNB.out])
       have HLS4:=Lib.hid (HLS3.out.took ap hU.1)
       have HHT4:=Lib.hid (HHT3.out.stay HT3.out.blk hU.1.blk hU.1.same (fun k hk _ => BM_low hk) hU.1.ext (fun k hk => FM_N hk))
       rw [hv8,hn8]
       clear hU hc3 hc4 hf1 hand hv8 hn8 e1
       refine head_fill x ap i (11 + mo) 0 _ _ _ _ _ _ p3 f1 g HLS4.out.anew (by rw [HLS4.out.same.1];exact hsz) (by rw [HLS4.out.same.2 1035 (BM_low (by omega))];exact HBP.out) (by omega) _ ?_
       intro u10 u18 u267 u268 u269 u270 u271 u272 u273 u274 u275 u276 u277 u278 u279 u280 u281 w5 hL5 hu10
       subst hu10
       have HHT5:=Lib.hid (HHT4.out.stay HLS4.out.tk.blk hL5.tk.blk hL5.same (fun k hk _ => BM_low hk) hL5.ext (fun k hk => M4_N hk))
       have HL5:=Lib.hid (HLS4.out.since hL5)
       clear hL5
       go_wp2_with fail
       go_roundg (n - (i + (11 + mo)))
       case measure => have:=HK.out;omega
       case rel =>
        have hst : r.step = 11 + mo:=by unfold Run.step;rw [HSY.out,HMO.out];rfl
        have hrest:=HREST.out
        rw [hst] at hrest
        refine ⟨i + (11 + mo),t,_,_,p3,_,by go_num,by omega,HL5.out,HHT5.out,hrest,fun q hq => HRC.out q (by simp [hq]),by rw [List.length_drop,HNB.out];have:=HB3.out;rw [HNB.out] at this;omega,fun j hj => ?_,rfl⟩
        by_cases e : i ≤ j ∧ j < i + (11 + mo)
        ·simp only [if_pos e]
         have h6:=H5.out (j - i) (by rw [HMO.out];omega)
         rw [show i + (j - i) = j by omega] at h6
         unfold len
         rw [h6]
         rfl
        ·simp only [if_neg e]
         exact HFF.out j (by omega)
      ·intro u2 u17 u219 u220 u221 u222 u223 u224 u225 u226 u227 u228 u229 wx wy c3 B3 p3 hT3 hx he
       obtain ⟨rfl,rfl⟩:=he
       have HLS3:=Lib.hid (HY2.out.took ap hT3)
       clear hT3
       go_wp2_with fail
       exact HRR.out _ _ _ _ _ _ _ _ _ _ _ _ _ _ _ _ _ _ _ _ _ _ _ _ _ _ _ _ _ _ _ _ _ _ _ _ _ _ _ _ _ _ _ _ _ _ _ _ _ _ _ _ _ _ _ _ _ _ _ _ _ _ _ _ _ _ _ _ _ _ _ _ _ _ _ _ _ _ _ _ _ _ _ _ _ _ _ _ _ _ _ _ _ _ _ _ _ _ _ _ _ _ _ _ _ _ _ _ _ _ _ _ _ _ _ _ _ _ _ _ _ _ _ c3 p3 HLS3.out.lse hx rfl
    ·have HE2:=Lib.hid (HLS.out.ended ap hres hs2 he2)
     clear hpost hres hs2 he2 HS
     go_wp2_with fail
     exact HRR.out _ _ _ _ _ _ _ _ _ _ _ _ _ _ _ _ _ _ _ _ _ _ _ _ _ _ _ _ _ _ _ _ _ _ _ _ _ _ _ _ _ _ _ _ _ _ _ _ _ _ _ _ _ _ _ _ _ _ _ _ _ _ _ _ _ _ _ _ _ _ _ _ _ _ _ _ _ _ _ _ _ _ _ _ _ _ _ _ _ _ _ _ _ _ _ _ _ _ _ _ _ _ _ _ _ _ _ _ _ _ _ _ _ _ _ _ _ _ _ _ _ _ _ c2 p2 HE2.out hx rfl
  ·have hin : i = n:=by omega
   have hrs : rs1 = []:=by
    have:=runsFit_le HRF.out
    exact List.eq_nil_of_length_eq_zero (by omega)
   subst hrs
   go_wp2_with fail
   exact HKK.out _ _ _ _ _ _ _ _ _ _ _ _ _ _ _ _ _ _ _ _ _ _ _ _ _ _ _ _ _ _ _ _ _ _ _ _ _ _ _ _ _ _ _ _ _ _ _ _ _ _ _ _ _ _ _ _ _ _ _ _ _ _ _ _ _ _ _ _ _ _ _ _ _ _ _ _ _ _ _ _ _ _ _ _ _ _ _ _ _ _ _ _ _ _ _ _ _ _ _ _ _ _ _ _ _ _ _ _ _ _ _ _ _ _ _ _ _ _ _ _ _ _ _ c1 B1 p1 f1 HLS.out hb1 (fun t ht => HFF.out t (by omega))
end Go.Proofs.YthpapbilhjobnaaGreatDoor
namespace Go.Proofs.YthpapbilhjobnaaGreatDoor
open Go.RowKit Pu
theorem lay_eq (hs l : List UInt8) (d : Nat) (h : d + l.length ≤ hs.length) : hs.take d ++ l ++ hs.drop (d + l.length) = lay hs d l:=by
 refine List.ext_getElem? fun i => ?_
 rw [lay_get hs d l h]
 rcases Nat.lt_trichotomy i d with h1 | h1 | h1
 ·rw [if_neg (by omega),List.append_assoc,List.getElem?_append_left (by simp;omega),List.getElem?_take,if_pos h1]
 ·subst h1
  split
  ·rename_i h2
   rw [List.append_assoc,List.getElem?_append_right (by simp;omega),List.getElem?_append_left (by simp;omega)]
   congr 1;simp;omega
  ·rename_i h2
   have : l = []:=List.eq_nil_of_length_eq_zero (by omega)
   subst this
   simp
 ·split
  ·rename_i h2
   rw [List.append_assoc,List.getElem?_append_right (by simp;omega),List.getElem?_append_left (by simp;omega)]
   congr 1;simp;omega
  ·rename_i h2
   rw [List.getElem?_append_right (by simp;omega),List.getElem?_drop]
   congr 1;simp;omega
section
variable {P : Program}
theorem run_copy_bytes (w : World) (dT sT ty elem : TypeId) (hu : P.underlying dT = some (.slice elem)) (hsz : (P.info? elem).map (·.size) = some 1)
  (g off dLen dCap sLen sCap : Nat) (dp sp : Option Addr) (hs : List UInt8) (t : TypeId) (hg : Blk w g (hs.map U8).toArray t) (cs : List UInt8) (hn : cs.length = Nat.min sLen dLen)
  (hpos : 0 < cs.length → dp = some ⟨g,off,none⟩ ∧ ∃ b o,sp = some ⟨b,o,none⟩ ∧ ∀ j x,(cs.map U8)[j]? = some x → w.cell? ⟨b,o + j,none⟩ = some x) (hfit : off + cs.length ≤ hs.length) :
  ∃ w',(Builtin.copy_ #[dT,sT] ty #[.slice dp dLen dCap,.slice sp sLen sCap]).run P w = .ok (.int .i64 cs.length) w' ∧ Blk w' g ((lay hs off cs).map U8).toArray t ∧ Ext (fun k => k = g) w w':=by
 rcases Nat.eq_zero_or_pos cs.length with h0 | h0
 ·have : cs = []:=List.eq_nil_of_length_eq_zero h0
  subst this
  exact ⟨w,run_copy_none (P:=P) w dT sT ty elem dp sp dLen dCap sLen sCap hu hsz (by simpa using hn.symm),hg,Ext.refl _ _⟩
 ·obtain ⟨rfl,b,o,rfl,hcl⟩:=hpos h0
  have hcells : ∀ j v,(cs.map U8)[j]? = some v → w.cell? ((⟨b,o,none⟩ : Addr).add j) = some v:=by
   intro j u hu
   have:=hcl j u hu
   by_cases hj : j = 0
   ·subst hj;simpa [Addr.add] using this
   ·simpa [Addr.add,hj] using this
  have h1 : ∀ v ∈ cs.map U8,v.oneCell' = true:=by intro u hu;obtain ⟨y,_,rfl⟩:=List.mem_map.1 hu;rfl
  have hr:=run_copy_row (P:=P) w dT sT ty elem g off dLen dCap ⟨b,o,none⟩ sLen sCap (hs.map U8).toArray t (cs.map U8) hu hsz hg (by rw [List.length_map];exact hn) hcells (by simpa using hfit) h1
  rw [List.length_map] at hr
  refine ⟨_,hr,?_,?_⟩
  ·have:=setRow_heap w g _ ((hs.map U8).toArray.toList.take off ++ cs.map U8 ++ (hs.map U8).toArray.toList.drop (off + cs.length)).toArray t (0,0) hg
   rw [← lay_eq hs cs off hfit]
   unfold Blk
   rw [this]
   simp [List.map_take,List.map_drop]
  ·exact ⟨rfl,rfl,rfl,by simp,fun k hk hm => setRow_other w g k _ hm⟩
theorem step_copy_bytes {ops : Array Oper} {o : Oper} {a : Act} {w : World} {K : Act → World → Prop} {Q : Exit → Act → World → Prop} {E : Prop} (hgd : o.guard = none) (d s : Operand) (dT sT : TypeId)
  (ho : o.op = .call { callee:=.builtin .copy,args:=#[d,s],argTypes:=#[dT,sT] }) (elem : TypeId) (hu : P.underlying dT = some (.slice elem)) (hsz : (P.info? elem).map (·.size) = some 1)
  (dp sp : Option Addr) (dLen dCap sLen sCap : Nat) (hd : a.eval d = .slice dp dLen dCap) (hs' : a.eval s = .slice sp sLen sCap)
  (g off : Nat) (hs : List UInt8) (t : TypeId) (hg : Blk w g (hs.map U8).toArray t) (cs : List UInt8) (hn : cs.length = Nat.min sLen dLen)
  (hpos : 0 < cs.length → dp = some ⟨g,off,none⟩ ∧ ∃ b o,sp = some ⟨b,o,none⟩ ∧ ∀ j x,(cs.map U8)[j]? = some x → w.cell? ⟨b,o + j,none⟩ = some x) (hfit : off + cs.length ≤ hs.length)
  (h : ∀ w',Blk w' g ((lay hs off cs).map U8).toArray t → Ext (fun k => k = g) w w' → K (a.put o.dst (.int .i64 cs.length)) w') :
  if Region.wanted o (yielded ops a.tmps) = true then Oper.wp P o a w K Q else E:=by
 have hw : Region.wanted o (yielded ops a.tmps) = true:=by simp [Region.wanted,hgd]
 rw [if_pos hw]
 obtain ⟨w',hr,h1,h2⟩:=run_copy_bytes (P:=P) w dT sT o.type elem hu hsz g off dLen dCap sLen sCap dp sp hs t hg cs hn hpos hfit
 unfold Oper.wp
 simp [execOp,ho,resolve,invoke,builtin,hd,hs',hr,Result.andThen]
 exact h w' h1 h2
end
theorem Tryz.size5 : (Tryz.prog.info? 5).map (·.size) = some 1:=by kernel_rfl
end Go.Proofs.YthpapbilhjobnaaGreatDoor
