/-
  Parts of the proofs over the reader and the encoder of streams, joined: Rh4 Rs Cy Db N1. Conditions: each theorem names its own.
-/
import Derived.Test.YthpapbilhjobnaaGreatDoorM04
import Derived.Test.YthpapbilhjobnaaGreatDoorM05
import Derived.Test.YthpapbilhjobnaaGreatDoorM06
import Derived.Test.YthpapbilhjobnaaGreatDoorM08
import Derived.Test.YthpapbilhjobnaaGreatDoorM10
import Derived.Deep.RegionHeld3
import Derived.WalkMore
import Derived.BigQuiet
set_option linter.unusedVariables false
set_option linter.unusedSimpArgs false
namespace Go.Proofs.YthpapbilhjobnaaGreatDoor
open Go.RowKit Pu
variable {c0 c1 c2 c3 c4 c5 c6 c7 c8 c9 c10 c11 c12 c13 c14 c15 c16 c17 c18 c19 c20 c21 c22 c23 c24 c25 c26 c27 c28 c29 c30 c31 c32 c33 c34 c35 c36 c37 c38 c39 c40 c41 c42 c43 c44 c45 c46 c47 c48 c49 c50 c51 c52 c53 c54 c55 c56 c57 c58 c59 c60 c61 c62 c63 c64 c65 c66 c67 c68 c69 c70 c71 c72 c73 c74 c75 c76 c77 c78 c79 c80 c81 c82 c83 c84 c85 c86 c87 c88 c89 c90 c91 c92 c93 c94 c95 c96 c97 c98 c99 c100 c101 c102 c103 c104 c105 c106 c107 c108 c109 c110 c111 c112 c113 c114 c115 c116 c117 c118 c119 c120 c121 c122 c123 c124 c125 c126 c127 c128 c129 c130 c131 c132 c133 c134 c135 c136 c137 c138 c139 c140 c141 c142 c143 c144 c145 c146 c147 c148 c149 c150 c151 c152 c153 c154 c155 c156 c157 c158 c159 c160 c161 c162 c163 c164 c165 c166 c167 c168 c169 c170 c171 c172 c173 c174 c175 c176 c177 c178 c179 c180 c181 c182 c183 c184 c185 c186 c187 c188 c189 c190 c191 c192 c193 c194 c195 c196 c197 c198 c199 c200 c201 c202 c203 c204 c205 c206 c207 c208 c209 c210 c211 c212 c213 c214 c215 c216 c217 c218 c219 c220 c221 c222 c223 c224 c225 c226 c227 c228 c229 c230 c231 c232 c233 c234 c235 c236 c237 c238 c239 c240 c241 c242 c243 c244 c245 c246 c247 c248 c249 c250 c251 c252 c253 c254 c255 c256 c257 c258 c259 c260 c261 c262 c263 c264 c265 c266 c267 c268 c269 c270 c271 c272 c273 c274 c275 c276 c277 c278 c279 c280 c281 c282 c283 c284 c285 c286 c287 c288 c289 c290 c291 c292 c293 c294 c295 c296 c297 c298 c299 c300 c301 c302 c303 c304 c305 c306 c307 c308 c309 c310 c311 c312 c313 c314 c315 c316 c317 c318 c319 c320 c321 c322 c323 c324 c325 c326 c327 c328 c329 c330 c331 c332 c333 c334 c335 c336 c337 c338 c339 : Value}
theorem lsb_three (a b d : Nat) (ha : a < 32) (hb : b < 32) (hd : d < 16) (R : List Bool) : lsb a 5 ++ lsb b 5 ++ lsb d 4 ++ R = lsb (a + 32 * b + 1024 * d) 14 ++ R:=by
 have h1 : lsb (a + 32 * b + 1024 * d) (5 + 9) = lsb (a + 32 * b + 1024 * d) 5 ++ lsb ((a + 32 * b + 1024 * d) / 2 ^ 5) 9:=lsb_append _ 5 9
 have h2 : lsb (b + 32 * d) (5 + 4) = lsb (b + 32 * d) 5 ++ lsb ((b + 32 * d) / 2 ^ 5) 4:=lsb_append _ 5 4
 have e1 : (a + 32 * b + 1024 * d) / 2 ^ 5 = b + 32 * d:=by omega
 have e2 : (b + 32 * d) / 2 ^ 5 = d:=by omega
 have e3 : lsb (a + 32 * b + 1024 * d) 5 = lsb a 5:=by rw [← lsb_mod (a + 32 * b + 1024 * d) 5,← lsb_mod a 5];congr 1;omega
 have e4 : lsb (b + 32 * d) 5 = lsb b 5:=by rw [← lsb_mod (b + 32 * d) 5,← lsb_mod b 5];congr 1;omega
 rw [show (14 : Nat) = 5 + 9 by rfl,h1,e1,show (9 : Nat) = 5 + 4 by rfl,h2,e2,e3,e4]
 simp
def SB : Nat → Prop:=fun k => BM k ∨ (5 ≤ k ∧ k < 1035)
theorem LS.inited {x : Pl} {w0 : World} {c0 : Array Value} {Y : List Bool} {w w' : World} {c c' : Array Value} {BB : List Bool} {p : Nat} {f g : Nat → Nat} (h : LS x w0 c0 Y w c BB p f g) (ap : Apart x) (hb : Blk w' x.F c' 147) (hs : Same (fun k => 5 ≤ k ∧ k < 1035) c c') (he : Ext (fun k => k = x.F) w w') : LS x w' c' Y w' c' BB p f g:=by
 have t:=h.tk
 obtain ⟨z,hz⟩:=t.bits.off
 exact ⟨⟨hb,Same.refl _ _,by rw [hs.2 0 (by omega)];exact t.rdr,⟨by rw [hs.2 3 (by omega)];exact t.bits.b,by rw [hs.2 4 (by omega)];exact t.bits.nb,z,by rw [hs.2 2 (by omega)];exact hz⟩,t.src.ext he (fun e => ap.FR e.symm) ap.sF,t.ends.ext he (fun k hk e => ap.E k hk (.inl e)),Ext.refl _ _,t.z⟩,
  Same.refl _ _,Ext.refl _ _,h.bb.ext he (Ne.symm ap.FB),h.cb.ext he (Ne.symm ap.FC),h.g7.ext he (fun e => ap.g7 (.inl e))⟩
def RHPost (x : Pl) (w0 : World) (c0 : Array Value) (lit dist : List Nat) (Z : List Bool) (e : Ending) (w' : World) : Prop :=
 ∃ c' p',Res x w' c' p' ∧ Same SB c0 c' ∧ Ext x.M4 w0 w' ∧ (∃ f,Blk w' x.Bb (arr 316 f) 149) ∧ (∃ g,Blk w' x.Cb (arr 19 g) 150) ∧ HD c' 5 ∧ HD c' 520 ∧
  ((e = .returned .nilIface ∧ ∃ B' mn1 mn2,Tak x w' c' Z w' c' B' p' ∧ B'.length < 8 ∧ HT w' x.F x.N x.F 5 lit mn1 ∧ mn1 ≤ len lit 256 ∧ HT w' x.F x.N x.F 520 dist mn2 ∧ (∀ s,0 < len dist s → mn2 ≤ len dist s) ∧ mn2 ≤ 15) ∨
   (x.ext ≠ [] ∧ e = .returned (.iface 175 (.pointer (some x.U)))))
theorem LSE.post {x : Pl} {w0 w1 : World} {c0 c1 : Array Value} {lit dist : List Nat} {Z : List Bool} {w' : World} {c' : Array Value} {p' : Nat} (h : LSE x w1 c1 w' c' p') (hs : Same SB c0 c1) (he : Ext x.M4 w0 w1) (h5 : HD c1 5) (h520 : HD c1 520) (hx : x.ext ≠ []) : RHPost x w0 c0 lit dist Z (.returned (.iface 175 (.pointer (some x.U)))) w' :=
 ⟨c',p',h.res,hs.trans (h.same.mono (fun _ e => .inl e)),he.trans h.ext,h.bb,h.cb,h5.same h.same (fun k a b => BM_low (by omega)),h520.same h.same (fun k a b => BM_low (by omega)),.inr ⟨hx,rfl⟩⟩
theorem htKept2 {w w' : World} {F : Nat} {N : Nat → Prop} {hb ho : Nat} {lens : List Nat} {mn : Nat} (h : HT w F N hb ho lens mn)
  (hk : ∀ b o v,w.cell? ⟨b,o,none⟩ = some v → ¬ N b → (b = F → ho ≤ o ∧ o < ho + 515) → w'.cell? ⟨b,o,none⟩ = some v) : HT w' F N hb ho lens mn:=by
 obtain ⟨hR,hF,hmin,ch,lk,nl,nk,Lb,lcap,g,h1,h2,h3⟩:=h
 refine ⟨hR,hF,hk _ _ _ hmin hR (fun e => by omega),ch,lk,nl,nk,Lb,lcap,g,h1,fun x hx => hk _ _ _ (h2 x hx) hR (fun e => by omega),fun hs => ?_⟩
 obtain ⟨a,b,c,d,e,f⟩:=h3 hs
 refine ⟨a,b,c,hk _ _ _ d hR (fun e => by omega),hk _ _ _ e hR (fun e => by omega),fun v hv => ?_⟩
 obtain ⟨p,q,r,t⟩:=f v hv
 exact ⟨p,q,hk _ _ _ r b (fun e => absurd e c),fun y hy => hk _ _ _ (t y hy) p (fun e => absurd e q)⟩
set_option maxRecDepth 100000 in
set_option maxHeartbeats 16000000 in
theorem head_tables (x : Pl) (ap : Apart x) (nl nd : Nat) (lit dist : List Nat) (w5 w8 : World) (cA cB : Array Value) (B8 Z : List Bool) (p8 : Nat) (f8 g8 : Nat → Nat) (hL8 : LS x w5 cA Z w8 cB B8 p8 f8 g8) (hbp : cA[1035]? = some (.pointer (some ⟨x.Bb,0,none⟩))) (hD5 : HD cA 5) (hD520 : HD cA 520)
  (hNL : lit.length = nl) (hND : dist.length = nd) (hl2 : nl ≤ 286) (hd1 : 1 ≤ nd) (hd2 : nd ≤ 30) (hgl : Pu.Good lit) (hgd : Pu.Good dist ∨ ∀ s,len dist s = 0) (hfl : ∀ s,s < nl → f8 s = len lit s) (hfd : ∀ s,s < nd → f8 (nl + s) = len dist s) (hNn : ∀ k,x.N k → k < w8.heap.size) (Q : Exit → Act → World → Prop)
  (hK : ∀ (u282 u283 u284 u285 u286 u287 u288 u289 u290 u291 u292 u293 u294 u295 u296 u297 u298 u299 u300 u301 u302 u303 u304 u305 u306 u307 u308 u309 u310 : Value) (wx : World),u310 = .bool false → (∃ cC,LS x wx cC Z wx cC B8 p8 f8 g8 ∧ Same SB cA cC ∧ Ext x.M4 w5 wx ∧ HD cC 5 ∧ HD cC 520 ∧ HT wx x.F x.N x.F 5 lit (mnOf lit) ∧ HT wx x.F x.N x.F 520 dist (mnOf dist)) → Q .normal ⟨List.toArray ((.pointer (some ⟨x.F,0,none⟩))::c1::c2::c3::(.int .i64 nl)::(.int .i64 nd)::c6::c7::c8::c9::c10::c11::c12::c13::c14::c15::c16::c17::c18::c19::c20::c21::c22::c23::c24::c25::c26::c27::c28::c29::c30::c31::c32::c33::c34::c35::c36::c37::c38::c39::c40::c41::c42::c43::c44::c45::c46::c47::c48::c49::c50::c51::c52::c53::c54::c55::c56::c57::c58::c59::c60::c61::c62::c63::c64::c65::c66::c67::c68::c69::c70::c71::c72::c73::c74::c75::c76::c77::c78::c79::c80::c81::c82::c83::c84::c85::c86::c87::c88::c89::c90::c91::c92::c93::c94::c95::c96::c97::c98::c99::c100::c101::c102::c103::c104::c105::c106::c107::c108::c109::c110::c111::c112::c113::c114::c115::c116::c117::c118::c119::c120::c121::c122::c123::c124::c125::c126::c127::c128::c129::c130::c131::c132::c133::c134::c135::c136::c137::c138::c139::c140::c141::c142::c143::c144::c145::c146::c147::c148::c149::c150::c151::c152::c153::c154::c155::c156::c157::c158::c159::c160::c161::c162::c163::c164::c165::c166::c167::c168::c169::c170::c171::c172::c173::c174::c175::c176::c177::c178::c179::c180::c181::c182::c183::c184::c185::c186::c187::c188::c189::c190::c191::c192::c193::c194::c195::c196::c197::c198::c199::c200::c201::c202::c203::c204::c205::c206::c207::c208::c209::c210::c211::c212::c213::c214::c215::c216::c217::c218::c219::c220::c221::c222::c223::c224::c225::c226::c227::c228::c229::c230::c231::c232::c233::c234::c235::c236::c237::c238::c239::c240::c241::c242::c243::c244::c245::c246::c247::c248::c249::c250::c251::c252::c253::c254::c255::c256::c257::c258::c259::c260::c261::c262::c263::c264::c265::c266::c267::c268::c269::c270::c271::c272::c273::c274::c275::c276::c277::c278::c279::c280::c281::u282::u283::u284::u285::u286::u287::u288::u289::u290::u291::u292::u293::u294::u295::u296::u297::u298::u299::u300::u301::u302::u303::u304::u305::u306::u307::u308::u309::u310::c311::c312::c313::c314::c315::c316::c317::c318::c319::c320::c321::c322::c323::c324::c325::c326::c327::c328::c329::c330::c331::c332::c333::c334::c335::c336::c337::c338::c339::[]),[]⟩ wx) :
  Code.wp Tryz.prog (reg70 73) Q ⟨List.toArray ((.pointer (some ⟨x.F,0,none⟩))::c1::c2::c3::(.int .i64 nl)::(.int .i64 nd)::c6::c7::c8::c9::c10::c11::c12::c13::c14::c15::c16::c17::c18::c19::c20::c21::c22::c23::c24::c25::c26::c27::c28::c29::c30::c31::c32::c33::c34::c35::c36::c37::c38::c39::c40::c41::c42::c43::c44::c45::c46::c47::c48::c49::c50::c51::c52::c53::c54::c55::c56::c57::c58::c59::c60::c61::c62::c63::c64::c65::c66::c67::c68::c69::c70::c71::c72::c73::c74::c75::c76::c77::c78::c79::c80::c81::c82::c83::c84::c85::c86::c87::c88::c89::c90::c91::c92::c93::c94::c95::c96::c97::c98::c99::c100::c101::c102::c103::c104::c105::c106::c107::c108::c109::c110::c111::c112::c113::c114::c115::c116::c117::c118::c119::c120::c121::c122::c123::c124::c125::c126::c127::c128::c129::c130::c131::c132::c133::c134::c135::c136::c137::c138::c139::c140::c141::c142::c143::c144::c145::c146::c147::c148::c149::c150::c151::c152::c153::c154::c155::c156::c157::c158::c159::c160::c161::c162::c163::c164::c165::c166::c167::c168::c169::c170::c171::c172::c173::c174::c175::c176::c177::c178::c179::c180::c181::c182::c183::c184::c185::c186::c187::c188::c189::c190::c191::c192::c193::c194::c195::c196::c197::c198::c199::c200::c201::c202::c203::c204::c205::c206::c207::c208::c209::c210::c211::c212::c213::c214::c215::c216::c217::c218::c219::c220::c221::c222::c223::c224::c225::c226::c227::c228::c229::c230::c231::c232::c233::c234::c235::c236::c237::c238::c239::c240::c241::c242::c243::c244::c245::c246::c247::c248::c249::c250::c251::c252::c253::c254::c255::c256::c257::c258::c259::c260::c261::c262::c263::c264::c265::c266::c267::c268::c269::c270::c271::c272::c273::c274::c275::c276::c277::c278::c279::c280::c281::c282::c283::c284::c285::c286::c287::c288::c289::c290::c291::c292::c293::c294::c295::c296::c297::c298::c299::c300::c301::c302::c303::c304::c305::c306::c307::c308::c309::c310::c311::c312::c313::c314::c315::c316::c317::c318::c319::c320::c321::c322::c323::c324::c325::c326::c327::c328::c329::c330::c331::c332::c333::c334::c335::c336::c337::c338::c339::[]),[]⟩ w8:=by
  have HL8:=Lib.hid hL8;have HBP5:=Lib.hid hbp;have HD5:=Lib.hid hD5;have HD520:=Lib.hid hD520;have HNL:=Lib.hid hNL;have HND:=Lib.hid hND;have HGL:=Lib.hid hgl;have HGD:=Lib.hid hgd;have HFL:=Lib.hid hfl;have HFD:=Lib.hid hfd;have HNn:=Lib.hid hNn;have HKK:=Lib.hid hK
  clear hL8 hbp hD5 hD520 hNL hND hgl hgd hfl hfd hNn hK
  have hbc : w8.cell? ⟨x.F,1035,none⟩ = some (.pointer (some ⟨x.Bb,0,none⟩)):=by rw [HL8.out.tk.blk.cell,HL8.out.same.2 1035 (BM_low (by omega))];exact HBP5.out
  have hnx : ∀ h : x.N x.F,False:=fun h => by rcases h with h | h | h | h | h;exact ap.FR h;exact ap.Fh h;exact ap.FB h;exact ap.FC h;exact ap.OF h
  have HIa : Hid (∀ w' : World,LS x w5 cA Z w' cB B8 p8 f8 g8 → Ext (fun _ => False) w8 w' → Calls Tryz.prog 75 #[.pointer (some ⟨x.F,5,none⟩),.slice (some ⟨x.Bb,0,none⟩) nl 316] w' (InitPost w' x.N x.F x.F 5 147 cB lit)):=Lib.hid (by
   intro w' hl he
   have hi:=init_any x.N x.F x.F 5 x.Bb 0 316 147 cB lit w' hl.tk.blk (HD5.out.same hl.same (fun k a b => BM_low (by omega))) (fun j y hy => by
    have hj:=(List.getElem?_eq_some_iff.1 hy).1
    rw [List.length_map,HNL.out] at hj
    rw [Nat.zero_add,hl.bb.cell,arr_get 316 _ j (by omega),HFL.out j hj]
    rw [← hy]
    simp [IV,len,HNL.out,hj]) (Ne.symm ap.FB) hl.bb.lt (by rw [HNL.out];omega) (fun y hy => HGL.out.mem y hy) (.inl HGL.out) hnx (fun k hk => by have:=HNn.out k hk;have:=he.size;omega) hl.tk.blk.lt (fun _ => by omega)
   rw [HNL.out] at hi
   exact hi)
  have HIb : Hid (∀ (w' : World) (c' : Array Value),LS x w' c' Z w' c' B8 p8 f8 g8 → HD c' 520 → w8.heap.size ≤ w'.heap.size → Calls Tryz.prog 75 #[.pointer (some ⟨x.F,520,none⟩),.slice (some ⟨x.Bb,nl,none⟩) nd (316 - nl)] w' (InitPost w' x.N x.F x.F 520 147 c' dist)):=Lib.hid (by
   intro w' c' hl h520 he
   have hi:=init_any x.N x.F x.F 520 x.Bb nl (316 - nl) 147 c' dist w' hl.tk.blk h520 (fun j y hy => by
    have hj:=(List.getElem?_eq_some_iff.1 hy).1
    rw [List.length_map,HND.out] at hj
    rw [hl.bb.cell,arr_get 316 _ (nl + j) (by omega),HFD.out j hj]
    rw [← hy]
    simp [IV,len,HND.out,hj]) (Ne.symm ap.FB) hl.bb.lt (by rw [HND.out];omega) (fun y hy => by
     rcases HGD.out with h1 | h1
     ·exact h1.mem y hy
     ·obtain ⟨s,hs,he⟩:=List.getElem_of_mem hy
      have:=h1 s
      rw [len_eq hs,he] at this
      omega) HGD.out hnx (fun k hk => by have:=HNn.out k hk;omega) hl.tk.blk.lt (fun _ => by omega)
   rw [HND.out] at hi
   exact hi)
  clear hnx
  have hnl0 : (0 : Int) ≤ (nl : Int):=by omega
  have hnl316 : (nl : Int) ≤ 316:=by omega
  have hsum1 : (nl : Int) ≤ (nl : Int) + (nd : Int):=by omega
  have hsum2 : (nl : Int) + (nd : Int) ≤ 316:=by omega
  have hne : ¬ 316 = nl:=by omega
  have HI1:=Lib.hid (HIa.out w8.drew HL8.out.drew (Ext.refl _ _).drew)
  have hL9 : ∀ (w1 : World) (cD : Array Value),Blk w1 x.F cD 147 → Same (fun k => 5 ≤ k ∧ k < 5 + 515) cB cD → Ext (fun k => k = x.F) w8.drew w1 → w1.cell? ⟨x.F,1035,none⟩ = some (.pointer (some ⟨x.Bb,0,none⟩)) ∧ LS x w1 cD Z w1 cD B8 p8 f8 g8:=fun w1 cD hb hs he =>
   ⟨by rw [hb.cell,hs.2 1035 (by omega),← HL8.out.tk.blk.cell];exact hbc,HL8.out.drew.inited ap hb (hs.mono (fun k h => by omega)) he⟩
  have HL9:=Lib.hid hL9
  have HZ : Hid (∀ w1 : World,Ext (fun k => k = x.F) w8.drew w1 → w8.heap.size ≤ w1.heap.size):=Lib.hid (fun w1 he => he.size)
  have HW : Hid (∀ (w1 w2 : World) (cD cE : Array Value),w1.cell? ⟨x.F,1035,none⟩ = some (.pointer (some ⟨x.Bb,0,none⟩)) → Blk w1 x.F cD 147 → Blk w2 x.F cE 147 → Same (fun k => 520 ≤ k ∧ k < 520 + 515) cD cE → w2.cell? ⟨x.F,1035,none⟩ = some (.pointer (some ⟨x.Bb,0,none⟩))):=Lib.hid (fun w1 w2 cD cE h a b s => by rw [b.cell,s.2 1035 (by omega),← a.cell];exact h)
  have HQ : Hid (∀ cD,Same (fun k => 5 ≤ k ∧ k < 5 + 515) cB cD → HD cD 520):=Lib.hid (fun cD hs => (HD520.out.same HL8.out.same (fun k a b => BM_low (by omega))).same hs (fun k a b => by omega))
  clear hL9 HIa
  have hw1 : IntKind.i64.wrap ((nl : Int) + (nd : Int)) = (nl : Int) + (nd : Int):=IntWalk.i64_in _ (by omega)
  have hw2 : (0 : Int) ≤ (nl : Int) + (nd : Int):=by omega
  have hw3 : ((nl : Int) + (nd : Int)).toNat = nl + nd:=by omega
  have hw4 : nl + nd - nl = nd:=by omega
  conv => arg 2;whnf
  go_region_held3 (fun w' => w'.cell? ⟨x.F,1035,none⟩ = some (.pointer (some ⟨x.Bb,0,none⟩))) (first
   | go_keep
   | assumption)
   ((first
     | (go_at_call 75
        with_reducible refine HI1.out.mono ?_
        rintro e w1 ⟨rfl,cD,hb1,hs1,hd1,ht1,he1⟩
        have hbc1:=(HL9.out w1 cD hb1 hs1 he1).1
        have HB1:=Lib.hid hb1
        have HS1:=Lib.hid hs1
        have HD1:=Lib.hid hd1
        have HT1:=Lib.hid ht1
        have HE1:=Lib.hid he1
        clear hb1 hs1 hd1 ht1 he1)
     | (go_at_call 75
        with_reducible refine (HIb.out w1 cD (HL9.out w1 cD HB1.out HS1.out HE1.out).2 (HQ.out cD HS1.out) (HZ.out w1 HE1.out)).mono ?_
        rintro e w2 ⟨rfl,cE,hb2,hs2,hd2,ht2,he2⟩
        have hbc2 : w2.cell? ⟨x.F,1035,none⟩ = some (.pointer (some ⟨x.Bb,0,none⟩)):=HW.out w1 w2 cD cE hbc1 HB1.out hb2 hs2
        have HB2:=Lib.hid hb2
        have HS2:=Lib.hid hs2
        have HD2:=Lib.hid hd2
        have HT2:=Lib.hid ht2
        have HE2:=Lib.hid he2
        clear hb2 hs2 hd2 ht2 he2)))
  have hl1:=(HL9.out w1 cD HB1.out HS1.out HE1.out).2
  refine HKK.out _ _ _ _ _ _ _ _ _ _ _ _ _ _ _ _ _ _ _ _ _ _ _ _ _ _ _ _ _ _ rfl ⟨cE,hl1.inited ap HB2.out (HS2.out.mono (fun k h => by omega)) HE2.out,((HL8.out.same.mono (fun _ e => Or.inl e)).trans (HS1.out.mono (fun k h => Or.inr (by omega)))).trans (HS2.out.mono (fun k h => Or.inr (by omega))),
   (HL8.out.drew.ext.trans (HE1.out.mono (fun _ _ e => .inl e))).trans (HE2.out.mono (fun _ _ e => .inl e)),HD1.out.same HS2.out (fun k a b => by omega),HD2.out,?_,HT2.out⟩
  refine htKept2 HT1.out fun b o v hv hn hf => ?_
  by_cases e : b = x.F
  ·subst e
   have h5:=hf rfl
   rw [HB2.out.cell,HS2.out.2 o (by omega),← HB1.out.cell];exact hv
  ·exact HE2.out.cellSome e hv
end Go.Proofs.YthpapbilhjobnaaGreatDoor
namespace Go.Proofs.YthpapbilhjobnaaGreatDoor
open Go.RowKit Pu
structure Std (x : Pl) (w : World) (c : Array Value) : Prop where
 nob : c[1]? = some (.pointer none)
 bp : c[1035]? = some (.pointer (some ⟨x.Bb,0,none⟩))
 cp : c[1036]? = some (.pointer (some ⟨x.Cb,0,none⟩))
 h5 : HD c 5
 h520 : HD c 520
 bb : ∃ f,Blk w x.Bb (arr 316 f) 149
 cb : ∃ g,Blk w x.Cb (arr 19 g) 150
 g7 : G7 w
 O : ∀ k,x.O k → k < w.heap.size
theorem Std.stay {x : Pl} {w w' : World} {c c' : Array Value} {M S : Nat → Prop} (h : Std x w c) (hs : Same S c c') (hS : ∀ k,(k = 1 ∨ (5 ≤ k ∧ k < 1037)) → ¬ S k) (he : Ext M w w') (h1 : ¬ M x.Bb) (h2 : ¬ M x.Cb) (h3 : ¬ M 7) : Std x w' c':=by
 obtain ⟨f,hf⟩:=h.bb
 obtain ⟨g,hg⟩:=h.cb
 exact ⟨by rw [hs.2 _ (hS _ (by omega))];exact h.nob,by rw [hs.2 _ (hS _ (by omega))];exact h.bp,by rw [hs.2 _ (hS _ (by omega))];exact h.cp,h.h5.same hs (fun k a b => hS k (by omega)),h.h520.same hs (fun k a b => hS k (by omega)),
  ⟨f,hf.ext he h1⟩,⟨g,hg.ext he h2⟩,h.g7.ext he h3,fun k hk => Nat.lt_of_lt_of_le (h.O k hk) he.size⟩
theorem Std.m3 {x : Pl} {w w' : World} {c c' : Array Value} (ap : Apart x) (h : Std x w c) (hs : Same DBM c c') (he : Ext x.M3 w w') : Std x w' c' :=
 h.stay hs (fun k hk => by unfold DBM HBM;omega) he (fun e => by rcases e with e | e | e;exact ap.FB e.symm;exact ap.RB e.symm;exact ap.hB e.symm) (fun e => by rcases e with e | e | e;exact ap.FC e.symm;exact ap.RC e.symm;exact ap.hC e.symm) (fun e => ap.g7 (M3_M e))
def Blkc.at (g : Blkc) (lit dist : List Nat) (fin : Bool) (pos j : Nat) (Y : List Bool) : Blkc:=⟨g.all,g.ok,g.Z,lit,dist,fin,pos,j,Y,g.e,g.d⟩
inductive RS (x : Pl) (g : Blkc) (w : World) (c : Array Value) (q : Nat) (T : List UInt8) : Nat → Prop
 | next {H hs : List UInt8} {wr rd : Nat} {fu : Bool} {X BB : List Bool} {p pos i : Nat} (hd : Dec x w c q H hs wr rd fu T (X ++ g.Z) BB p) (hB : BB.length < 8) (ha : Ahead g.all pos i X) (h8 : (pos + (X ++ g.Z).length) % 8 = 0) (hh : HistOk g.ok g.all i H)
   (hb : H.length + g.e = i + g.d) (hs : c[1045]? = some (fnV 61)) (he : c[1048]? = some .nilIface) (st : Std x w c) (hj : JS c wr fu) : RS x g w c q T (2 * (X ++ g.Z).length)
 | toks {H hs : List UInt8} {wr rd : Nat} {fu : Bool} {BB : List Bool} {p : Nat} {ts : List Tok} {i : Nat} {lit dist : List Nat} {fin : Bool} {pos j : Nat} {Y : List Bool} (h : S0 x (g.at lit dist fin pos j Y) w c w c q H hs wr rd fu T BB p ts i)
   (hs : c[1045]? = some (fnV 69)) (hz : c[1046]? = some (.int .i64 0)) (st : Std x w c) : RS x g w c q T (2 * Y.length + 1)
 | copy {H hs : List UInt8} {wr rd : Nat} {fu : Bool} {BB : List Bool} {p : Nat} {ts : List Tok} {i far n : Nat} {lit dist : List Nat} {fin : Bool} {pos j : Nat} {Y : List Bool} (h : S1 x (g.at lit dist fin pos j Y) w c w c q H hs wr rd fu T BB p ts i far n)
   (hs : c[1045]? = some (fnV 69)) (hz : c[1046]? = some (.int .i64 1)) (st : Std x w c) : RS x g w c q T (2 * Y.length + 1)
 | raw {H hs : List UInt8} {wr rd : Nat} {fu : Bool} {p i n : Nat} {fin : Bool} {pos j : Nat} {Y : List Bool} (h : D0 x (g.at [] [] fin pos j Y) w c w c q H hs wr rd fu T p i n) (hs : c[1045]? = some (fnV 74)) (st : Std x w c) : RS x g w c q T (2 * Y.length + 1)
 | eof {H hs : List UInt8} {wr rd : Nat} {fu : Bool} {BB : List Bool} {p : Nat} (hd : Dec x w c q H hs wr rd fu T g.Z BB p) (hB : BB.length < 8) (hw : wr = rd) (hh : HistOk g.ok g.all g.all.length H) (hb : H.length + g.e = g.all.length + g.d)
   (he : c[1048]? = some (.iface 175 (.pointer (some x.A)))) (st : Std x w c) : RS x g w c q T 0
 | bad {H hs : List UInt8} {wr rd : Nat} {fu : Bool} {p : Nat} (res : Res x w c p) (w3 : W3 x w c q H hs wr rd fu T) (sz : c.size = 1054) (hb : H.length + g.e ≤ g.all.length + g.d)
   (why : (¬ g.ok ∧ ∃ z : Int,c[1048]? = some (.iface 159 (.int .i64 z))) ∨ (x.ext ≠ [] ∧ c[1048]? = some (.iface 175 (.pointer (some x.U))))) (st : Std x w c) : RS x g w c q T 0
theorem S0.anew {x : Pl} {k : Blkc} {w0 : World} {c0 : Array Value} {w : World} {c : Array Value} {q : Nat} {H hs : List UInt8} {wr rd : Nat} {full : Bool} {T : List UInt8} {BB : List Bool} {p : Nat} {ts : List Tok} {i : Nat} (h : S0 x k w0 c0 w c q H hs wr rd full T BB p ts i) : S0 x k w c w c q H hs wr rd full T BB p ts i :=
 ⟨h.dec,h.tabs,h.fin,h.err,h.rest,h.fit,h.coded,h.hist,h.base,h.hand,Same.refl _ _,Ext.refl _ _,h.js⟩
theorem S1.anew {x : Pl} {k : Blkc} {w0 : World} {c0 : Array Value} {w : World} {c : Array Value} {q : Nat} {H hs : List UInt8} {wr rd : Nat} {full : Bool} {T : List UInt8} {BB : List Bool} {p : Nat} {ts : List Tok} {i far n : Nat} (h : S1 x k w0 c0 w c q H hs wr rd full T BB p ts i far n) : S1 x k w c w c q H hs wr rd full T BB p ts i far n :=
 ⟨h.dec,h.tabs,h.fin,h.err,h.rest,h.fit,h.coded,h.hist,h.base,h.hand,Same.refl _ _,Ext.refl _ _,h.cl,h.cd,h.far1,h.far2,h.n2,h.js⟩
theorem D0.anew {x : Pl} {k : Blkc} {w0 : World} {c0 : Array Value} {w : World} {c : Array Value} {q : Nat} {H hs : List UInt8} {wr rd : Nat} {full : Bool} {T : List UInt8} {p i n : Nat} (h : D0 x k w0 c0 w c q H hs wr rd full T p i n) : D0 x k w c w c q H hs wr rd full T p i n :=
 ⟨h.dec,h.fin,h.err,h.rest,h.here,h.hist,h.base,h.cl,h.n2,Same.refl _ _,Ext.refl _ _,h.jr⟩
def StepPost (x : Pl) (g : Blkc) (w0 : World) (q m : Nat) (e : Ending) (w : World) : Prop :=
 e = .returned (.tuple #[]) ∧ ∃ c T m',RS x g w c q T m' ∧ (m' < m ∨ T ≠ []) ∧ Ext x.M w0 w
theorem StepPost.next {x : Pl} {g : Blkc} {w0 w : World} {q m : Nat} {c : Array Value} {H hs T : List UInt8} {wr rd : Nat} {fu fin : Bool} {BB Y : List Bool} {p pos j : Nat} (hm : 2 * Y.length < m) (hd : Dec x w c q H hs wr rd fu T Y BB p) (hB : BB.length < 8) (hh : HistOk g.ok g.all j H)
  (hb : H.length + g.e = j + g.d) (hr : RestOf g.all fin pos j g.Z Y) (hs : c[1045]? = some (fnV 61)) (he : (fin = false ∧ c[1048]? = some .nilIface) ∨ (fin = true ∧ wr = rd ∧ c[1048]? = some (.iface 175 (.pointer (some x.A))))) (st : Std x w c) (hx : Ext x.M w0 w) (hj : JS c wr fu) :
  StepPost x g w0 q m (.returned (.tuple #[])) w:=by
 obtain ⟨h8,hr⟩:=hr
 rcases he with ⟨rfl,he⟩ | ⟨rfl,hw,he⟩
 ·rcases hr with ⟨h,_⟩ | ⟨_,X,ha,rfl⟩
  ·exact absurd h (by simp)
  ·exact ⟨rfl,c,T,_,.next hd hB ha h8 hh hb hs he st hj,.inl hm,hx⟩
 ·rcases hr with ⟨_,rfl,rfl⟩ | ⟨h,_⟩
  ·exact ⟨rfl,c,T,_,.eof hd hB hw hh hb he st,.inl (by omega),hx⟩
  ·exact absurd h (by simp)
theorem Bad.rs {x : Pl} {g : Blkc} {w : World} {c : Array Value} {q : Nat} {H hs : List UInt8} {wr rd : Nat} {fu : Bool} {p : Nat} (h : Bad x g.ok w c q H hs wr rd fu p) (hb : H.length + g.e ≤ g.all.length + g.d) (st : Std x w c) : RS x g w c q [] 0 :=
 .bad h.res h.w3 h.sz hb h.why st
theorem HBEnd.step {x : Pl} {g : Blkc} {w0 w1 w : World} {c1 : Array Value} {q m : Nat} {lit dist : List Nat} {fin : Bool} {pos j : Nat} {Y : List Bool} (ap : Apart x) (h : HBEnd x (g.at lit dist fin pos j Y) w1 c1 q w) (st : Std x w1 c1) (hx : Ext x.M w0 w1) (hm : 2 * Y.length < m) : StepPost x g w0 q m (.returned (.tuple #[])) w:=by
 cases h with
 | toks h ht hs hz => exact ⟨rfl,_,_,_,.toks h.anew hs hz (st.m3 ap (h.same.mono (fun _ e => .inl e)) h.ext),.inr ht,hx.trans (h.ext.mono (fun _ _ e => M3_M e))⟩
 | copy h ht hs hz => exact ⟨rfl,_,_,_,.copy h.anew hs hz (st.m3 ap (h.same.mono (fun _ e => .inl e)) h.ext),.inr ht,hx.trans (h.ext.mono (fun _ _ e => M3_M e))⟩
 | done hd hB hh hb hr hs he hsm hx' hj =>
  refine StepPost.next hm hd hB hh hb hr hs ?_ (st.m3 ap (hsm.mono (fun _ e => .inl e)) hx') (hx.trans (hx'.mono (fun _ _ e => M3_M e))) hj
  rcases he with ⟨a,_,b⟩ | ⟨a,b,d⟩
  ·exact .inl ⟨a,b⟩
  ·exact .inr ⟨a,b,d⟩
 | bad h hb hsm hx' => exact ⟨rfl,_,_,_,Bad.rs h hb (st.m3 ap (hsm.mono (fun _ e => .inl e)) hx'),.inl (by omega),hx.trans (hx'.mono (fun _ _ e => M3_M e))⟩
theorem CDEnd.step {x : Pl} {g : Blkc} {w0 w1 w : World} {c1 : Array Value} {q m : Nat} {fin : Bool} {pos j : Nat} {Y : List Bool} (ap : Apart x) (h : CDEnd x (g.at [] [] fin pos j Y) w1 c1 q w) (st : Std x w1 c1) (hx : Ext x.M w0 w1) (hm : 2 * Y.length < m) : StepPost x g w0 q m (.returned (.tuple #[])) w:=by
 cases h with
 | more h ht hs => exact ⟨rfl,_,_,_,.raw h.anew hs (st.m3 ap h.same h.ext),.inr ht,hx.trans (h.ext.mono (fun _ _ e => M3_M e))⟩
 | done hd hh hb hr hs he hsm hx' hj => exact StepPost.next hm hd (by simp) hh hb hr hs he (st.m3 ap hsm hx') (hx.trans (hx'.mono (fun _ _ e => M3_M e))) hj
 | bad h hb hsm hx' => exact ⟨rfl,_,_,_,Bad.rs h hb (st.m3 ap hsm hx'),.inl (by omega),hx.trans (hx'.mono (fun _ _ e => M3_M e))⟩
end Go.Proofs.YthpapbilhjobnaaGreatDoor
namespace Go.Proofs.YthpapbilhjobnaaGreatDoor
open Go.RowKit Pu
variable {c0 c1 c2 c3 c4 c5 c6 c7 c8 c9 c10 c11 c12 c13 c14 c15 c16 c17 c18 c19 c20 c21 c22 c23 c24 c25 c26 c27 c28 c29 c30 c31 c32 c33 c34 c35 c36 c37 c38 c39 c40 c41 c42 c43 c44 c45 c46 c47 c48 c49 c50 c51 c52 c53 c54 c55 c56 c57 c58 c59 c60 c61 c62 c63 c64 c65 c66 c67 c68 c69 c70 c71 c72 c73 c74 c75 c76 c77 c78 c79 c80 c81 c82 : Value}
structure Cs (x : Pl) (k : Blkc) (w0 : World) (c0 : Array Value) (w : World) (c : Array Value) (q : Nat) (H hs : List UInt8) (wr rd : Nat) (full : Bool) (p i n : Nat) : Prop where
 tk : Tak x w c (bitsOf ((k.all.take (i + n)).drop i) ++ k.Y) w c [] p
 dd : DD w x.F x.hb c hs wr rd full
 win : Win hs wr full H
 out : OutIs c x.hb hs []
 len : H.length = q + (wr - rd)
 sz : c.size = 1054
 fin : c[1047]? = some (.bool k.fin)
 err : c[1048]? = some .nilIface
 rest : RestOf k.all k.fin k.pos k.j k.Z k.Y
 here : i + n = k.j
 hist : HistOk k.ok k.all i H
 base : H.length + k.e = i + k.d
 cl : c[1052]? = some (.int .i64 n)
 n2 : n ≤ 65535
 same : Same DBM c0 c
 ext : Ext x.M3 w0 w
 jr : JR c wr full
theorem D0.read {x : Pl} {k : Blkc} {w0 : World} {d0 : Array Value} {w w1 w3 : World} {d d3 : Array Value} {q : Nat} {H hs : List UInt8} {wr rd : Nat} {full : Bool} {p i n p' : Nat} (ap : Apart x) (h : D0 x k w0 d0 w d q H hs wr rd full [] p i n) {z : Int} {v : Value} (cs : List UInt8)
  (he1 : Ext (fun j => j = x.R ∨ j = x.hb) w w1) (hs1 : Src w1 x.R x.sb x.so x.cap x.src p') (hb1 : Blk w1 x.hb (splice (hs.map U8).toArray.toList wr (cs.map U8)).toArray 5) (hw : wr + cs.length ≤ 32768)
  (hd3 : DD w3 x.F x.hb d3 (Pu.lay hs wr cs) (wr + cs.length) rd full) (hs3 : Same (fun j => j = 1038) ((d.setIfInBounds 2 (.int .i64 z)).setIfInBounds 1052 v) d3) (he3 : Ext (fun j => j = x.F) ((w1.setCell ⟨x.F,2,none⟩ (.int .i64 z)).setCell ⟨x.F,1052,none⟩ v) w3) :
  Same (fun j => j = 2 ∨ j = 1038 ∨ j = 1052) d d3 ∧ Ext x.M3 w w3 ∧ Res x w3 d3 p' ∧ OutIs d3 x.hb (Pu.lay hs wr cs) [] ∧ d3.size = 1054 ∧ d3[1052]? = some v ∧ d3[2]? = some (.int .i64 z):=by
 have hsz:=h.dec.sz
 have hs : Same (fun j => j = 2 ∨ j = 1038 ∨ j = 1052) d d3:=(((Same.refl _ d).set (by omega) _).set (by omega) _).trans (hs3.mono (fun j e => by omega))
 have he2 : Ext (fun j => j = x.F) w1 w3:=(((Ext.refl _ w1).only _).only _).trans he3
 have hsz3 : d3.size = 1054:=by rw [hs.1];exact hsz
 refine ⟨hs,(he1.mono (fun j _ e => by rcases e with e | e;exact .inr (.inl e);exact .inr (.inr e))).trans (he2.mono (fun _ _ e => .inl e)),?_,h.dec.w3.out.none _ (hs.2 1049 (by omega)),hsz3,?_,?_⟩
 ·exact ⟨hd3.blk,by rw [hs.2 0 (by omega)];exact h.dec.tk.rdr,hs1.ext he2 (fun e => ap.FR e.symm) ap.sF,(h.dec.tk.ends.ext he1 (fun j hj e => by rcases e with e | e;exact ap.E j hj (.inr (.inl e));exact ap.E j hj (.inr (.inr (.inl e))))).ext he2 (fun j hj e => ap.E j hj (.inl e))⟩
 ·rw [hs3.2 1052 (by omega)];exact set_eq _ (by simp;omega)
 ·rw [hs3.2 2 (by omega),set_ne _ _ (by decide)];exact set_eq _ (by omega)
theorem D0.fill {x : Pl} {k : Blkc} {w0 : World} {d0 : Array Value} {w w1 w3 : World} {d d3 : Array Value} {q : Nat} {H hs : List UInt8} {wr rd : Nat} {full : Bool} {p i n m : Nat} (ap : Apart x) (h : D0 x k w0 d0 w d q H hs wr rd full [] p i n) {z : Int} (hm : m ≤ n) (hwm : wr + m ≤ 32768) (hp : p + m ≤ x.src.length) (cs : List UInt8) (hcs : (x.src.drop p).take m = cs)
  (he1 : Ext (fun j => j = x.R ∨ j = x.hb) w w1) (hs1 : Src w1 x.R x.sb x.so x.cap x.src (p + m)) (hb1 : Blk w1 x.hb (splice (hs.map U8).toArray.toList wr (cs.map U8)).toArray 5)
  (hd3 : DD w3 x.F x.hb d3 (Pu.lay hs wr cs) (wr + m) rd full) (hs3 : Same (fun j => j = 1038) ((d.setIfInBounds 2 (.int .i64 z)).setIfInBounds 1052 (.int .i64 ((n - m : Nat) : Int))) d3) (he3 : Ext (fun j => j = x.F) ((w1.setCell ⟨x.F,2,none⟩ (.int .i64 z)).setCell ⟨x.F,1052,none⟩ (.int .i64 ((n - m : Nat) : Int))) w3) :
  Cs x k w0 d0 w3 d3 q (H ++ cs) (Pu.lay hs wr cs) (wr + m) rd full (p + m) (i + m) (n - m):=by
 have hle:=RestOf.le h.rest
 have hj:=h.here
 have hz : bitsOf (x.src.drop p ++ x.ext) = bitsOf ((k.all.take (i + n)).drop i) ++ k.Y:=by simpa using h.dec.tk.z
 obtain ⟨hc,hY⟩:=Pu.raw_split hz m hm (by omega) hp
 rw [hcs] at hc
 have hcl : cs.length = m:=by rw [← hcs];simp;omega
 rw [← hcl] at hd3 hwm
 obtain ⟨a1,a2,a3,a4,a5,a6,a7⟩:=h.read ap cs he1 hs1 hb1 hwm hd3 hs3 he3
 rw [hcl] at hd3 hwm
 have hb3:=h.dec.tk.bits.b
 have hb4:=h.dec.tk.bits.nb
 have hl:=h.dec.w3.len
 have hrd:=h.dec.w3.dd.rdle
 have hba:=h.base
 have hwin:=h.dec.w3.win.lay cs (by omega)
 rw [hcl] at hwin
 refine ⟨⟨a3.blk,Same.refl _ _,a3.rdr,⟨by rw [a1.2 3 (by omega)];exact hb3,by rw [a1.2 4 (by omega)];exact hb4,z,a7⟩,a3.src,a3.ends,Ext.refl _ _,?_⟩,hd3,hwin,a4,by simp at *;omega,a5,by rw [a1.2 _ (by omega)];exact h.fin,by rw [a1.2 _ (by omega)];exact h.err,h.rest,by omega,?_,by simp;omega,a6,by have:=h.n2;omega,
  h.same.trans (a1.mono (fun j e => by unfold DBM HBM;omega)),h.ext.trans a2,h.jr.same (a1.2 _ (by omega)) (a1.2 _ (by omega)) (hsize_up wr m full)⟩
 ·rw [show i + m + (n - m) = i + n by omega]
  simpa using hY
 ·rw [hc];exact h.hist.raw
theorem D0.lack {x : Pl} {k : Blkc} {w0 : World} {d0 : Array Value} {w w1 w3 : World} {d d3 : Array Value} {q : Nat} {H hs : List UInt8} {wr rd : Nat} {full : Bool} {p i n m l : Nat} (ap : Apart x) (h : D0 x k w0 d0 w d q H hs wr rd full [] p i n) {z : Int} {v : Value} (hm : m ≤ n) (hwm : wr + m ≤ 32768) (hp : x.src.length < p + m) (hl : x.src.length - p = l)
  (he1 : Ext (fun j => j = x.R ∨ j = x.hb) w w1) (hs1 : Src w1 x.R x.sb x.so x.cap x.src x.src.length) (hb1 : Blk w1 x.hb (splice (hs.map U8).toArray.toList wr ((x.src.drop p).map U8)).toArray 5)
  (hd3 : DD w3 x.F x.hb d3 (Pu.lay hs wr (x.src.drop p)) (wr + l) rd full) (hs3 : Same (fun j => j = 1038) ((d.setIfInBounds 2 (.int .i64 z)).setIfInBounds 1052 v) d3) (he3 : Ext (fun j => j = x.F) ((w1.setCell ⟨x.F,2,none⟩ (.int .i64 z)).setCell ⟨x.F,1052,none⟩ v) w3) :
  CDEnd x k w0 d0 q (w3.setCell ⟨x.F,1048,none⟩ (.iface 175 (.pointer (some x.U)))):=by
 have hle:=RestOf.le h.rest
 have hj:=h.here
 have hple:=h.dec.tk.src.le
 have hz : bitsOf (x.src.drop p ++ x.ext) = bitsOf ((k.all.take (i + n)).drop i) ++ k.Y:=by simpa using h.dec.tk.z
 have hx:=Pu.raw_short hz m hm (by omega) hp hple
 have hcl : (x.src.drop p).length = l:=by simp;omega
 rw [← hcl] at hd3
 obtain ⟨a1,a2,a3,a4,a5,a6,a7⟩:=h.read ap _ he1 hs1 hb1 (by omega) hd3 hs3 he3
 have hwin:=h.dec.w3.win.lay (x.src.drop p) (by omega)
 have hlen:=h.dec.w3.len
 have hrd:=h.dec.w3.dd.rdle
 have hba:=h.base
 have hW : W3 x w3 d3 q (H ++ x.src.drop p) (Pu.lay hs wr (x.src.drop p)) (wr + (x.src.drop p).length) rd full [] :=
  ⟨hd3,hwin,by omega,a4,by simp at *;omega,by simp⟩
 exact .bad ⟨a3.setF ap _ (by omega),hW.setF _ (by omega),by simpa using a5,.inr ⟨hx,set_eq _ (by omega)⟩⟩ (by simp at *;omega) ((h.same.trans (a1.mono (fun j e => by unfold DBM HBM;omega))).set (by unfold DBM HBM;omega) _) ((h.ext.trans a2).setCell (p:=⟨x.F,1048,none⟩) (fun _ => .inl rfl) _)
theorem Cs.quiet {x : Pl} {k : Blkc} {w0 : World} {d0 : Array Value} {w w' : World} {d : Array Value} {q : Nat} {H hs : List UInt8} {wr rd : Nat} {full : Bool} {p i n : Nat} (h : Cs x k w0 d0 w d q H hs wr rd full p i n) (he : Ext (fun _ => False) w w') : Cs x k w0 d0 w' d q H hs wr rd full p i n :=
 ⟨(h.tk.quiet he).anew,h.dd.ext he (fun e => e) (fun e => e),h.win,h.out,h.len,h.sz,h.fin,h.err,h.rest,h.here,h.hist,h.base,h.cl,h.n2,h.same,h.ext.trans (he.mono (fun _ _ e => e.elim)),h.jr⟩
theorem Cs.flush {x : Pl} {k : Blkc} {w0 : World} {d0 : Array Value} {w w' : World} {d d4 : Array Value} {q : Nat} {H hs : List UInt8} {wr rd : Nat} {full : Bool} {p i n fl : Nat} (ap : Apart x) (h : Cs x k w0 d0 w d q H hs wr rd full p i n) (hwr : wr = 32768) (hrd : rd < 32768) (hfl : wr - rd = fl)
  (hd4 : DD w' x.F x.hb d4 hs (if wr = 32768 then 0 else wr) (if wr = 32768 then 0 else wr) (if wr = 32768 then true else full)) (hs4 : Same (fun j => j = 1038 ∨ j = 1039 ∨ j = 1040) d d4) (he4 : Ext (fun j => j = x.F) w w') :
  CDEnd x k w0 d0 q ((w'.setCell ⟨x.F,1049,none⟩ (.slice (some ⟨x.hb,rd,none⟩) fl (32768 - rd))).setCell ⟨x.F,1045,none⟩ (fnV 74)):=by
 subst hwr
 rw [if_pos rfl,if_pos rfl] at hd4
 have hsz4 : d4.size = 1054:=by rw [hs4.1];exact h.sz
 obtain ⟨T,t1,t2,t3,t4⟩:=flushT h.win h.dd.rdle h.len
 rw [hfl] at t1
 have hs5 : Same (fun j => j = 1038 ∨ j = 1039 ∨ j = 1040 ∨ j = 1045 ∨ j = 1049) d ((d4.setIfInBounds 1049 (.slice (some ⟨x.hb,rd,none⟩) fl (32768 - rd))).setIfInBounds 1045 (fnV 74)):=((hs4.mono (fun j e => by omega)).set (by omega) _).set (by omega) _
 have he5 : Ext (fun j => j = x.F) w ((w'.setCell ⟨x.F,1049,none⟩ (.slice (some ⟨x.hb,rd,none⟩) fl (32768 - rd))).setCell ⟨x.F,1045,none⟩ (fnV 74)):=(he4.only _).only _
 have hdd:=(hd4.setF (k:=1049) (.slice (some ⟨x.hb,rd,none⟩) fl (32768 - rd)) (by omega)).setF (k:=1045) (fnV 74) (by omega)
 have hTk:=((h.tk.wind ap hd4.blk hs4 (fun j hj => by omega) (he4.mono (fun _ _ e => .inl e))).setF ap (k:=1049) (.slice (some ⟨x.hb,rd,none⟩) fl (32768 - rd)) (by omega)).setF ap (k:=1045) (fnV 74) (by omega)
 have hout : OutIs ((d4.setIfInBounds 1049 (.slice (some ⟨x.hb,rd,none⟩) fl (32768 - rd))).setIfInBounds 1045 (fnV 74)) x.hb hs T :=
  .inr ⟨rd,32768 - rd,by rw [set_ne _ _ (by decide),set_eq _ (by omega),t1],by omega,by omega,t2⟩
 refine .more (T:=T) (p:=p) (i:=i) (n:=n) ⟨⟨hTk,⟨hdd,h.win.turn,by omega,hout,by omega,t3⟩,by simpa using hsz4⟩,by rw [hs5.2 _ (by omega)];exact h.fin,by rw [hs5.2 _ (by omega)];exact h.err,h.rest,h.here,h.hist,h.base,by rw [hs5.2 _ (by omega)];exact h.cl,h.n2,h.same.trans (hs5.mono (fun j e => by unfold DBM HBM;omega)),h.ext.trans (he5.mono (fun _ _ e => .inl e)),
  h.jr.same (hs5.2 _ (by omega)) (hs5.2 _ (by omega)) (by simp [hsize])⟩ (fun e => by rw [e] at t1;simp at t1;omega) (set_eq _ (by simp;omega))
theorem Cs.ended {x : Pl} {k : Blkc} {w0 : World} {d0 : Array Value} {w w' : World} {d : Array Value} {q : Nat} {H hs : List UInt8} {wr rd : Nat} {full : Bool} {p i : Nat} {e : Ending} (ap : Apart x) (h : Cs x k w0 d0 w d q H hs wr rd full p i 0) (hwr : wr < 32768) (hf : FinPost x w d k.fin hs wr rd full e w') :
  e = .returned (.tuple #[]) ∧ CDEnd x k w0 d0 q w':=by
 obtain ⟨rfl,d2,hs2,he2,h45,hfin⟩:=hf
 refine ⟨rfl,?_⟩
 have hij : i = k.j:=h.here
 have hdd2 : Blk w' x.F d2 147:=by
  rcases hfin with ⟨_,h,_⟩ | ⟨_,_,⟨_,h,_⟩ | ⟨_,h,_⟩⟩ <;> exact h.blk
 have htk:=h.tk
 rw [hij] at htk
 have hY : bitsOf ((k.all.take (k.j + 0)).drop k.j) ++ k.Y = k.Y:=by
  rw [List.drop_eq_nil_of_le (by simp;omega)];simp [bitsOf]
 rw [hY] at htk
 have hT2 : Tak x w' d2 k.Y w' d2 [] p:=htk.wind ap hdd2 hs2 (fun j hj => by unfold FBM;omega) (he2.mono (fun _ _ e => .inl e))
 have hsm : Same DBM d0 d2:=h.same.trans (hs2.mono (fun _ e => .inl (FBM_HBM e)))
 have hex : Ext x.M3 w0 w':=h.ext.trans (he2.mono (fun _ _ e => .inl e))
 have hsz2 : d2.size = 1054:=by rw [hs2.1];exact h.sz
 have hhist : HistOk k.ok k.all k.j H:=by have:=h.hist;rw [hij] at this;exact this
 have hbase : H.length + k.e = k.j + k.d:=by have:=h.base;rw [hij] at this;exact this
 have hjs : JS d2 wr full:=(h.jr.same (hs2.2 _ (by unfold FBM;omega)) (hs2.2 _ (by unfold FBM;omega)) (Nat.le_refl _)).js (by rw [hs2.2 _ (by unfold FBM;omega)];exact h.cl)
 have hlen:=h.len
 rcases hfin with ⟨f1,f2,f3,f4⟩ | ⟨f1,f2,⟨f3,f4,f5⟩ | ⟨f3,f4,f5⟩⟩
 ·exact .done (T:=[]) ⟨hT2,⟨f2,h.win,hwr,h.out.none _ f4,by simpa using hlen,by simp⟩,hsz2⟩ hhist hbase h.rest h45 (.inl ⟨f1,by rw [f3];exact h.err⟩) hsm hex hjs
 ·exact .done (T:=[]) ⟨hT2,⟨f4,h.win,hwr,h.out.none _ f5,by simpa using hlen,by simp⟩,hsz2⟩ hhist hbase h.rest h45 (.inr ⟨f1,f3,f2⟩) hsm hex hjs
 ·obtain ⟨T,t1,t2,t3,t4⟩:=flushT h.win h.dd.rdle h.len
  exact .done (T:=T) ⟨hT2,⟨f4,h.win,hwr,.inr ⟨rd,32768 - rd,by rw [t1];exact f5,by omega,by omega,t2⟩,by omega,t3⟩,hsz2⟩ hhist hbase h.rest h45 (.inr ⟨f1,rfl,f2⟩) hsm hex hjs
noncomputable def if74 (n : Nat) : Code:=(Tryz.f74.body.bind (condOf n)).getD .skip
set_option maxRecDepth 100000 in
theorem copy_cut (x : Pl) (w : World) (wr av n m : Nat) (bb : Bool) (hbb : bb = decide (n < av)) (hm : (n < av ∧ n = m) ∨ (av ≤ n ∧ av = m)) (hc : w.cell? ⟨x.F,1052,none⟩ = some (.int .i64 n)) (Q : Exit → Act → World → Prop)
  (hK : ∀ (u2 u16 u17 u18 u19 u20 u21 : Value),u2 = .slice (some ⟨x.hb,wr,none⟩) m av → Q .normal ⟨List.toArray ((.pointer (some ⟨x.F,0,none⟩))::c1::u2::c3::c4::c5::c6::c7::c8::c9::c10::c11::c12::c13::c14::(.bool bb)::u16::u17::u18::u19::u20::u21::c22::c23::c24::c25::c26::c27::c28::c29::c30::c31::c32::c33::c34::c35::c36::c37::c38::c39::c40::c41::c42::c43::c44::c45::c46::c47::c48::c49::c50::c51::c52::c53::c54::c55::c56::c57::c58::c59::c60::c61::c62::c63::c64::c65::c66::c67::c68::c69::c70::c71::c72::c73::c74::c75::c76::c77::c78::c79::c80::c81::c82::[]),[]⟩ w) :
  Code.wp Tryz.prog (if74 15) Q ⟨List.toArray ((.pointer (some ⟨x.F,0,none⟩))::c1::(.slice (some ⟨x.hb,wr,none⟩) av av)::c3::c4::c5::c6::c7::c8::c9::c10::c11::c12::c13::c14::(.bool bb)::c16::c17::c18::c19::c20::c21::c22::c23::c24::c25::c26::c27::c28::c29::c30::c31::c32::c33::c34::c35::c36::c37::c38::c39::c40::c41::c42::c43::c44::c45::c46::c47::c48::c49::c50::c51::c52::c53::c54::c55::c56::c57::c58::c59::c60::c61::c62::c63::c64::c65::c66::c67::c68::c69::c70::c71::c72::c73::c74::c75::c76::c77::c78::c79::c80::c81::c82::[]),[]⟩ w:=by
 rcases hm with ⟨h1,rfl⟩ | ⟨h1,rfl⟩
 ·obtain rfl : bb = true:=by rw [hbb];exact decide_eq_true h1
  have HK:=Lib.hid hK
  clear hK hbb
  have h2 : (n : Int) < (av : Int):=by omega
  have h3 : n ≤ av:=by omega
  have h4 : (n : Int) ≤ (av : Int):=by omega
  conv => arg 2;whnf
  go_wp2_with fail
  exact HK.out _ _ _ _ _ _ _ rfl
 ·obtain rfl : bb = false:=by rw [hbb];exact decide_eq_false (by omega)
  have HK:=Lib.hid hK
  clear hK hbb
  have h2 : ¬ ((n : Int) < (av : Int)):=by omega
  conv => arg 2;whnf
  go_wp2_with fail
  exact HK.out _ _ _ _ _ _ _ rfl
set_option maxRecDepth 100000 in
set_option maxHeartbeats 16000000 in
theorem copyData_any (x : Pl) (ap : Apart x) (k : Blkc) (w0 w : World) (d0 d : Array Value) (q : Nat) (H hs : List UInt8) (wr rd : Nat) (full : Bool) (p i n : Nat) (h : D0 x k w0 d0 w d q H hs wr rd full [] p i n) :
  Calls Tryz.prog 74 #[.pointer (some ⟨x.F,0,none⟩)] w fun e w' => e = .returned (.tuple #[]) ∧ CDEnd x k w0 d0 q w':=by
 have HH:=Lib.hid h
 have hw:=h.dec.w3
 have hlt:=hw.lt
 have hrd:=hw.dd.rdle
 have hn:=h.n2
 have ht:=h.dec.tk
 have hb:=ht.blk
 have hsz:=h.dec.sz
 have hER:=ap.ER
 have hc0 : w.cell? ⟨x.F,0,none⟩ = some (.iface 50 (.pointer (some ⟨x.R,0,none⟩))):=by rw [hb.cell];exact ht.rdr
 have hc52 : w.cell? ⟨x.F,1052,none⟩ = some (.int .i64 n):=by rw [hb.cell];exact h.cl
 have HWS:=Lib.hid (writeSlice_any x.F x.hb d hs wr rd full w hw.dd hlt)
 have hEh : ¬ EM x.A x.U x.hb:=fun e => ap.E _ e (.inr (.inr (.inl rfl)))
 obtain ⟨m,hm1,hm2,hm3,hm4⟩ : ∃ m,m ≤ n ∧ wr + m ≤ 32768 ∧ (wr + m < 32768 → m = n) ∧ ((n < 32768 - wr ∧ n = m) ∨ (32768 - wr ≤ n ∧ 32768 - wr = m)):=by
  rcases Nat.lt_or_ge n (32768 - wr) with h1 | h1
  ·exact ⟨n,by omega,by omega,fun _ => rfl,.inl ⟨h1,rfl⟩⟩
  ·exact ⟨32768 - wr,by omega,by omega,fun _ => by omega,.inr ⟨h1,rfl⟩⟩
 clear h hw ht hb
 have HM3:=Lib.hid hm3
 clear hm3
 have key : ∀ w1 : World,Ext (fun _ => False) w w1 → Hid (Calls Tryz.prog 48 #[.iface 50 (.pointer (some ⟨x.R,0,none⟩)),.slice (some ⟨x.hb,wr,none⟩) m (32768 - wr)] w1 fun e w2 =>
   (p + m ≤ x.src.length ∧ e = .returned (.tuple #[.int .i64 m,.nilIface]) ∧ Src w2 x.R x.sb x.so x.cap x.src (p + m) ∧ Blk w2 x.hb (splice (hs.map U8).toArray.toList wr (((x.src.drop p).take m).map U8)).toArray 5 ∧ Ext (fun j => j = x.R ∨ j = x.hb) w w2) ∨
   (x.src.length < p + m ∧ ∃ l u,x.src.length - p = l ∧ e = .returned (.tuple #[.int .i64 l,.iface 175 (.pointer (some u))]) ∧ (u = x.A ∨ u = x.U) ∧ Src w2 x.R x.sb x.so x.cap x.src x.src.length ∧ Blk w2 x.hb (splice (hs.map U8).toArray.toList wr ((x.src.drop p).map U8)).toArray 5 ∧ Ext (fun j => j = x.R ∨ j = x.hb) w w2)):=by
  intro w1 he1
  have hS:=HH.out.dec.tk.src.ext he1 (fun e => e) (fun e => e)
  have hE:=HH.out.dec.tk.ends.ext he1 (fun _ _ e => e)
  have hB:=HH.out.dec.w3.dd.hblk.ext he1 (fun e => e)
  have hz : (hs.map U8).toArray.size = 32768:=by simp;exact HH.out.dec.w3.dd.size
  rcases Nat.lt_or_ge x.src.length (p + m) with hp | hp
  ·refine Lib.hid ((readFull_short x.R x.sb x.so x.cap x.src p x.A x.U x.hb wr m (32768 - wr) _ 5 w1 hS hE hER hEh hB (Ne.symm ap.Rh) (Ne.symm ap.sh) (by rw [hz];exact hm2) ap.room (by omega) (by omega) hp).mono ?_)
   rintro e w2 ⟨a,b,c,f⟩
   have hf:=(he1.mono (M':=fun j => j = x.R ∨ j = x.hb) (fun _ _ e => e.elim)).trans f
   rcases a with ⟨a,_⟩ | ⟨a,_⟩
   ·exact .inr ⟨hp,_,x.A,rfl,a,.inl rfl,b,c,hf⟩
   ·exact .inr ⟨hp,_,x.U,rfl,a,.inr rfl,b,c,hf⟩
  ·refine Lib.hid ((readFull_all x.R x.sb x.so x.cap x.src p x.A x.hb wr m (32768 - wr) _ 5 w1 hS hE.eof (fun e => hER (.inl e)) hB (Ne.symm ap.Rh) (Ne.symm ap.sh) (by rw [hz];exact hm2) ap.room (by omega) (by omega) hp).mono ?_)
   rintro e w2 ⟨a,b,c,f⟩
   exact .inl ⟨hp,a,b,c,(he1.mono (M':=fun j => j = x.R ∨ j = x.hb) (fun _ _ e => e.elim)).trans f⟩
 have KEY:=Lib.hid key
 clear key
 obtain ⟨av,hav⟩ : ∃ y,32768 - wr = y:=⟨_,rfl⟩
 rw [hav] at HWS KEY hm4
 have HAV:=Lib.hid hav
 have HM4:=Lib.hid hm4
 clear hav hm4
 go_enter Tryz.func74,Tryz.ntmps74
 go_wp2_with fail
 refine HWS.out.mono ?_
 rintro e w1 ⟨rfl,he1⟩
 have hc01:=he1.cellSome (fun e => e) hc0
 have hc521:=he1.cellSome (fun e => e) hc52
 clear hc0 hc52
 have HKK:=Lib.hid (KEY.out w1 he1)
 clear he1
 go_upto_if 15 with (fail)
 refine copy_cut x w1 wr av n m _ rfl HM4.out hc521 _ ?_
 intro u2 u16 u17 u18 u19 u20 u21 hu
 subst hu
 go_wp2_with fail
 refine HKK.out.out.mono ?_
 obtain ⟨r,hr⟩ : ∃ y,n - m = y:=⟨_,rfl⟩
 have hnn : (n : Int) - (m : Int) = (r : Int):=by omega
 have HR:=Lib.hid hr
 clear hr
 rintro e w2 (⟨hp,rfl,hs2,hb2,he2⟩ | ⟨hp,l,u,hl,rfl,hu,hs2,hb2,he2⟩)
 ·have hd2 : DD w2 x.F x.hb d (Pu.lay hs wr ((x.src.drop p).take m)) wr rd full:=HH.out.dec.w3.dd.filled _ he2 ap.FR hb2 (by simp;omega)
  have hf2:=hd2.blk.free
  obtain ⟨z,hz⟩:=HH.out.dec.tk.bits.off
  have hc2 : w2.cell? ⟨x.F,2,none⟩ = some (.int .i64 z):=by rw [hd2.blk.cell];exact hz
  have hc522 : w2.cell? ⟨x.F,1052,none⟩ = some (.int .i64 n):=by rw [hd2.blk.cell];exact HH.out.cl
  obtain ⟨s,hs0⟩ : ∃ s : Int,wrap64 (z + (m : Int)) = s:=⟨_,rfl⟩
  have HWM:=Lib.hid (writeMark_any x.F x.hb _ _ wr rd m full _ ((hd2.setF (k:=2) (.int .i64 s) (by omega)).setF (k:=1052) (.int .i64 r) (by omega)) hm2)
  have HD2:=Lib.hid hd2;have HS2:=Lib.hid hs2;have HB2:=Lib.hid hb2;have HE2:=Lib.hid he2
  clear hd2 hs2 hb2 he2 hz hc01 hc521
  go_wp2_with fail
  refine HWM.out.mono ?_
  rintro e w3 ⟨rfl,d3,hd3,hs3,he3⟩
  obtain ⟨cs,hcs⟩ : ∃ cs,(x.src.drop p).take m = cs:=⟨_,rfl⟩
  rw [hcs] at hd3
  have hb2':=HB2.out
  rw [hcs] at hb2'
  have hrr:=HR.out
  have hCs:=HH.out.fill ap (z:=s) (m:=m) hm1 hm2 hp cs hcs HE2.out HS2.out hb2' hd3 (by rw [hrr];exact hs3) (by rw [hrr];exact he3)
  rw [hrr] at hCs
  have HCS:=Lib.hid hCs
  have HAW:=Lib.hid (availWrite_any x.F x.hb d3 _ _ rd full w3 hd3)
  have hc523 : w3.cell? ⟨x.F,1052,none⟩ = some (.int .i64 r):=by rw [hd3.blk.cell];exact hCs.cl
  clear hd3 hs3 he3 hb2' hrr hCs hc2 hc522 hf2 hs0
  go_wp2_with fail
  refine HAW.out.mono ?_
  rintro e w4 ⟨rfl,he4⟩
  have hc524:=he4.cellSome (fun e => e) hc523
  have HC4:=Lib.hid (HCS.out.quiet he4)
  clear hc523 he4
  obtain ⟨av2,hav2⟩ : ∃ y,32768 - (wr + m) = y:=⟨_,rfl⟩
  rw [hav2]
  rcases Nat.lt_or_ge (wr + m) 32768 with hl | hg
  ·have hmn:=HM3.out hl
   have hr0 : r = 0:=by have:=HR.out;omega
   have hq : ((av2 : Int) == 0) = false:=by simp;omega
   have hri : ¬ ((0 : Int) < (r : Int)):=by omega
   have hrd0 : decide ((0 : Int) < (r : Int)) = false:=by simp;omega
   have hCf:=HC4.out
   have HF:=Lib.hid (finishBlock_any x ap w4 d3 k.fin (Pu.lay hs wr cs) (wr + m) rd full hCf.sz hCf.dd hl hCf.fin hCf.tk.ends)
   rw [hr0] at hCf
   have HCF:=Lib.hid hCf
   clear hr0 hmn hav2 hCf
   go_wp2_with fail
   refine HF.out.mono ?_
   intro e w5 hf
   obtain ⟨rfl,h5⟩:=HCF.out.ended ap hl hf
   have H5:=Lib.hid h5
   clear hf h5
   go_wp2_with fail
   go_end0
   exact ⟨rfl,H5.out⟩
  ·have hwe : wr + m = 32768:=by omega
   have hq : ((av2 : Int) == 0) = true:=by simp;omega
   have HRF:=Lib.hid (readFlush_any x.F x.hb d3 (Pu.lay hs wr cs) (wr + m) rd full w4 HC4.out.dd (by omega))
   obtain ⟨fl,hfl⟩ : ∃ y,wr + m - rd = y:=⟨_,rfl⟩
   have HFL:=Lib.hid hfl
   clear hav2 hfl
   go_wp2_with fail
   refine HRF.out.mono ?_
   rintro e w5 ⟨d4,rfl,hd4,hs4,he4⟩
   rw [HFL.out]
   have hb4:=hd4.blk
   have hfr4:=hb4.free
   have hsz4 : d4.size = 1054:=by rw [hs4.1];exact HC4.out.sz
   have hc49 : ∃ v,w5.cell? ⟨x.F,1049,none⟩ = some v:=⟨d4[1049]'(by omega),by rw [hb4.cell,Array.getElem?_eq_getElem]⟩
   have hc45 : ∃ v,w5.cell? ⟨x.F,1045,none⟩ = some v:=⟨d4[1045]'(by omega),by rw [hb4.cell,Array.getElem?_eq_getElem]⟩
   obtain ⟨y49,hc49⟩:=hc49
   obtain ⟨y45,hc45⟩:=hc45
   have HEND:=Lib.hid (HC4.out.flush ap hwe (by omega) HFL.out hd4 hs4 he4)
   clear hd4 hs4 he4 hb4 hsz4
   go_wp2_with fail
   exact ⟨rfl,.tuple #[],by kernel_rfl,rfl,HEND.out⟩
 ·have hlm : l ≤ m:=by omega
  have hd2 : DD w2 x.F x.hb d (Pu.lay hs wr (x.src.drop p)) wr rd full:=HH.out.dec.w3.dd.filled _ he2 ap.FR hb2 (by have:=HH.out.dec.tk.src.le;simp;omega)
  have hf2:=hd2.blk.free
  obtain ⟨z,hz⟩:=HH.out.dec.tk.bits.off
  have hc2 : w2.cell? ⟨x.F,2,none⟩ = some (.int .i64 z):=by rw [hd2.blk.cell];exact hz
  have hc522 : w2.cell? ⟨x.F,1052,none⟩ = some (.int .i64 n):=by rw [hd2.blk.cell];exact HH.out.cl
  obtain ⟨s,hs0⟩ : ∃ s : Int,wrap64 (z + (l : Int)) = s:=⟨_,rfl⟩
  obtain ⟨r2,hr2⟩ : ∃ y,n - l = y:=⟨_,rfl⟩
  have hnn2 : (n : Int) - (l : Int) = (r2 : Int):=by omega
  have HWM:=Lib.hid (writeMark_any x.F x.hb _ _ wr rd l full _ ((hd2.setF (k:=2) (.int .i64 s) (by omega)).setF (k:=1052) (.int .i64 r2) (by omega)) (by omega))
  have HD2:=Lib.hid hd2;have HS2:=Lib.hid hs2;have HB2:=Lib.hid hb2;have HE2:=Lib.hid he2;have HLL:=Lib.hid hl;have HU:=Lib.hid hu
  clear hd2 hs2 hb2 he2 hz hc01 hc521 hl hu hr2 hnn
  go_wp2_with fail
  refine HWM.out.mono ?_
  rintro e w3 ⟨rfl,d3,hd3,hs3,he3⟩
  have hEND:=HH.out.lack ap (z:=s) (m:=m) hm1 hm2 hp HLL.out HE2.out HS2.out HB2.out hd3 hs3 he3
  have hER3:=HH.out.read ap (z:=s) (x.src.drop p) HE2.out HS2.out HB2.out (by have:=HH.out.dec.tk.src.le;have:=HLL.out;simp;omega) (by have:=HLL.out;simp;rw [this];exact hd3) hs3 he3
  have hends:=hER3.2.2.1.ends
  have hsz3:=hER3.2.2.2.2.1
  have hfr3:=hd3.blk.free
  have hc48 : ∃ v,w3.cell? ⟨x.F,1048,none⟩ = some v:=⟨d3[1048]'(by omega),by rw [hd3.blk.cell,Array.getElem?_eq_getElem]⟩
  obtain ⟨y48,hc48⟩:=hc48
  have HNE : Hid (Calls Tryz.prog 71 #[.iface 175 (.pointer (some u))] w3 fun e w' => e = .returned (.iface 175 (.pointer (some x.U))) ∧ w3 = w'):=by
   rcases HU.out with rfl | rfl
   ·exact Lib.hid (noEOF_eof x.A x.U w3 hends.eof hends.early)
   ·obtain ⟨cu,tu,hru⟩:=hends.early.row
    exact Lib.hid (noEOF_other x.A x.U w3 hends.eof cu tu hru hends.ne)
  have HEND:=Lib.hid hEND
  clear hEND hER3 hends hsz3 hd3 hs3 he3 hc2 hc522 hf2 hs0
  go_wp2_with fail
  refine HNE.out.mono ?_
  rintro e w4 ⟨rfl,rfl⟩
  go_wp2_with fail
  exact ⟨rfl,.tuple #[],by kernel_rfl,rfl,HEND.out⟩
end Go.Proofs.YthpapbilhjobnaaGreatDoor
namespace Go.Proofs.YthpapbilhjobnaaGreatDoor
open Go.RowKit Pu
variable {c0 c1 c2 c3 c4 c5 c6 c7 c8 c9 c10 c11 c12 c13 c14 c15 c16 c17 c18 c19 c20 c21 c22 c23 c24 c25 c26 c27 c28 c29 c30 c31 c32 c33 c34 c35 c36 c37 c38 c39 c40 c41 c42 c43 c44 c45 c46 c47 c48 c49 c50 c51 c52 c53 c54 c55 c56 c57 c58 c59 c60 c61 c62 c63 c64 c65 c66 c67 c68 c69 c70 c71 c72 c73 c74 c75 c76 c77 c78 c79 c80 c81 c82 c83 c84 c85 c86 c87 c88 c89 c90 c91 c92 c93 c94 c95 c96 c97 : Value}
structure Bk (x : Pl) (k : Blkc) (w : World) (c : Array Value) (q : Nat) (H hs : List UInt8) (wr rd : Nat) (full : Bool) (BB : List Bool) (p i : Nat) (B : List Bool) : Prop where
 dec : Dec x w c q H hs wr rd full [] B BB p
 hand : BB.length < 8
 fin : c[1047]? = some (.bool k.fin)
 err : c[1048]? = some .nilIface
 rest : RestOf k.all k.fin k.pos k.j k.Z k.Y
 hist : HistOk k.ok k.all i H
 base : H.length + k.e = i + k.d
 js : JS c wr full
structure Bh (x : Pl) (k : Blkc) (w0 : World) (c0 : Array Value) (w : World) (c : Array Value) (q : Nat) (H hs : List UInt8) (wr rd : Nat) (full : Bool) (p i n : Nat) : Prop where
 dec : Dec x w c q H hs wr rd full [] (bitsOf ((k.all.take (i + n)).drop i) ++ k.Y) [] p
 fin : c[1047]? = some (.bool k.fin)
 err : c[1048]? = some .nilIface
 rest : RestOf k.all k.fin k.pos k.j k.Z k.Y
 here : i + n = k.j
 hist : HistOk k.ok k.all i H
 base : H.length + k.e = i + k.d
 n2 : n ≤ 65535
 same : Same DBM c0 c
 ext : Ext x.M3 w0 w
 js : JS c wr full
theorem Bh.d0 {x : Pl} {k : Blkc} {w0 : World} {c0 : Array Value} {w : World} {c : Array Value} {q : Nat} {H hs : List UInt8} {wr rd : Nat} {full : Bool} {p i n : Nat} (ap : Apart x) (h : Bh x k w0 c0 w c q H hs wr rd full p i n) : D0 x k w0 c0 (w.setCell ⟨x.F,1052,none⟩ (.int .i64 n)) (c.setIfInBounds 1052 (.int .i64 n)) q H hs wr rd full [] p i n :=
 ⟨⟨h.dec.tk.setF ap _ (by omega),h.dec.w3.setF _ (by omega),by simp;exact h.dec.sz⟩,by rw [set_ne _ _ (by decide)];exact h.fin,by rw [set_ne _ _ (by decide)];exact h.err,h.rest,h.here,h.hist,h.base,set_eq _ (by rw [h.dec.sz];omega),h.n2,h.same.set (by unfold DBM HBM;omega) _,h.ext.setCell (p:=⟨x.F,1052,none⟩) (fun _ => .inl rfl) _,
  h.js.raw.same (set_ne _ _ (by decide)) (set_ne _ _ (by decide)) (Nat.le_refl _)⟩
theorem Bh.quiet {x : Pl} {k : Blkc} {w0 : World} {c0 : Array Value} {w w' : World} {c : Array Value} {q : Nat} {H hs : List UInt8} {wr rd : Nat} {full : Bool} {p i n : Nat} (h : Bh x k w0 c0 w c q H hs wr rd full p i n) (he : Ext (fun _ => False) w w') : Bh x k w0 c0 w' c q H hs wr rd full p i n :=
 ⟨⟨(h.dec.tk.quiet he).anew,⟨h.dec.w3.dd.ext he (fun e => e) (fun e => e),h.dec.w3.win,h.dec.w3.lt,h.dec.w3.out,h.dec.w3.len,h.dec.w3.tl⟩,h.dec.sz⟩,h.fin,h.err,h.rest,h.here,h.hist,h.base,h.n2,h.same,h.ext.trans (he.mono (fun _ _ e => e.elim)),h.js⟩
theorem Bh.zero {x : Pl} {k : Blkc} {w0 : World} {c0 : Array Value} {w w4 w5 : World} {c d4 : Array Value} {q : Nat} {H hs : List UInt8} {wr rd : Nat} {full : Bool} {p i : Nat} {e : Ending} (ap : Apart x) (h : Bh x k w0 c0 w c q H hs wr rd full p i 0)
  (hd4 : DD w4 x.F x.hb d4 hs wr wr full) (hs4 : Same (fun j => j = 1038 ∨ j = 1039 ∨ j = 1040) c d4) (he4 : Ext (fun j => j = x.F) w w4)
  (hf : FinPost x (w4.setCell ⟨x.F,1049,none⟩ (.slice (some ⟨x.hb,rd,none⟩) (wr - rd) (32768 - rd))) (d4.setIfInBounds 1049 (.slice (some ⟨x.hb,rd,none⟩) (wr - rd) (32768 - rd))) k.fin hs wr wr full e w5) :
  e = .returned (.tuple #[]) ∧ CDEnd x k w0 c0 q w5:=by
 obtain ⟨rfl,d5,hs5,he5,h45,hfin⟩:=hf
 refine ⟨rfl,?_⟩
 obtain ⟨T,t1,t2,t3,t4⟩:=h.dec.w3.flush
 have hsz4 : d4.size = 1054:=by rw [hs4.1];exact h.dec.sz
 have hij : i = k.j:=h.here
 have hlt:=h.dec.w3.lt
 have hrd:=h.dec.w3.dd.rdle
 have htk:=h.dec.tk
 rw [hij] at htk
 have hY : bitsOf ((k.all.take (k.j + 0)).drop k.j) ++ k.Y = k.Y:=by
  rw [List.drop_eq_nil_of_le (by simp;omega)];simp [bitsOf]
 rw [hY] at htk
 have hS : Same (fun j => j = 1038 ∨ j = 1039 ∨ j = 1040 ∨ j = 1045 ∨ j = 1048 ∨ j = 1049) c d5:=((hs4.mono (fun j e => by omega)).set (by omega) _).trans (hs5.mono (fun j e => by unfold FBM at e;omega))
 have hE : Ext (fun j => j = x.F) w w5:=(he4.only _).trans he5
 have hdd5 : Blk w5 x.F d5 147:=by
  rcases hfin with ⟨_,h,_⟩ | ⟨_,_,⟨_,h,_⟩ | ⟨_,h,_⟩⟩ <;> exact h.blk
 have hT5 : Tak x w5 d5 k.Y w5 d5 [] p:=htk.wind ap hdd5 hS (fun j hj => by omega) (hE.mono (fun _ _ e => .inl e))
 have hsz5 : d5.size = 1054:=by rw [hS.1];exact h.dec.sz
 have hsm : Same DBM c0 d5:=h.same.trans (hS.mono (fun j e => by unfold DBM HBM;omega))
 have hex : Ext x.M3 w0 w5:=h.ext.trans (hE.mono (fun _ _ e => .inl e))
 have hjs : JS d5 wr full:=h.js.same (hS.2 _ (by omega)) (hS.2 _ (by omega)) (hS.2 _ (by omega)) (Nat.le_refl _)
 have hhist : HistOk k.ok k.all k.j H:=by have:=h.hist;rw [hij] at this;exact this
 have hbase : H.length + k.e = k.j + k.d:=by have:=h.base;rw [hij] at this;exact this
 have hw : ∀ d : Array Value,d[1049]? = (d4.setIfInBounds 1049 (.slice (some ⟨x.hb,rd,none⟩) (wr - rd) (32768 - rd)))[1049]? → DD w5 x.F x.hb d hs wr wr full → W3 x w5 d q H hs wr wr full T:=fun d h1 h2 =>
  ⟨h2,h.dec.w3.win,hlt,.inr ⟨rd,32768 - rd,by rw [h1,set_eq _ (by omega),t1],by omega,by omega,t2⟩,by omega,t3⟩
 rcases hfin with ⟨f1,f2,f3,f4⟩ | ⟨f1,f2,⟨f3,f4,f5⟩ | ⟨f3,f4,f5⟩⟩
 ·exact .done (T:=T) ⟨hT5,hw _ f4 f2,hsz5⟩ hhist hbase h.rest h45 (.inl ⟨f1,by rw [f3,set_ne _ _ (by decide),hs4.2 _ (by omega)];exact h.err⟩) hsm hex hjs
 ·exact .done (T:=T) ⟨hT5,hw _ f5 f4,hsz5⟩ hhist hbase h.rest h45 (.inr ⟨f1,rfl,f2⟩) hsm hex hjs
 ·omega
theorem splice_same (c : Array Value) (o : Nat) (l : List Value) (h : o + l.length ≤ c.size) : Same (fun j => o ≤ j ∧ j < o + l.length) c (splice c.toList o l).toArray ∧ ∀ j y,l[j]? = some y → (splice c.toList o l).toArray[o + j]? = some y:=by
 have hl : (c.toList.take o).length = o:=by simp;omega
 refine ⟨⟨by simp [splice];omega,fun k hk => ?_⟩,fun j y hy => ?_⟩
 ·simp only [splice,List.getElem?_toArray]
  rcases Nat.lt_or_ge k o with h1 | h1
  ·rw [List.getElem?_append_left (by omega),List.getElem?_take,if_pos h1];simp
  ·have h2 : o + l.length ≤ k:=by
    rcases Nat.lt_or_ge k (o + l.length) with h2 | h2
    ·exact absurd ⟨h1,h2⟩ hk
    ·exact h2
   rw [List.getElem?_append_right (by omega),hl,List.getElem?_append_right (by omega),List.getElem?_drop,show o + l.length + (k - o - l.length) = k by omega]
   simp
 ·simp only [splice,List.getElem?_toArray]
  have hj:=(List.getElem?_eq_some_iff.1 hy).1
  try rw [List.append_assoc]
  (rw [List.getElem?_append_right (by omega),List.getElem?_append_left (by omega),hl,show o + j - o = j by omega,hy])
theorem Bk.read {x : Pl} {k : Blkc} {w w1 : World} {d : Array Value} {q : Nat} {H hs : List UInt8} {wr rd : Nat} {full : Bool} {BB B : List Bool} {p p' i : Nat} (ap : Apart x) (h : Bk x k w d q H hs wr rd full BB p i B) (l : List UInt8) (hl : l.length ≤ 4) (z : Int)
  (hb1 : Blk w1 x.F (splice (((d.setIfInBounds 4 (.int .u64 0)).setIfInBounds 3 (.int .u32 0))).toList 1041 (l.map U8)).toArray 147) (he1 : Ext (FM x.F x.R) w w1) (hs1 : Src w1 x.R x.sb x.so x.cap x.src p') :
  let d3:=(splice (((d.setIfInBounds 4 (.int .u64 0)).setIfInBounds 3 (.int .u32 0))).toList 1041 (l.map U8)).toArray.setIfInBounds 2 (.int .i64 z)
  let w3:=w1.setCell ⟨x.F,2,none⟩ (.int .i64 z)
  Same (fun j => j = 2 ∨ j = 3 ∨ j = 4 ∨ (1041 ≤ j ∧ j < 1045)) d d3 ∧ Ext (FM x.F x.R) w w3 ∧ Res x w3 d3 p' ∧ W3 x w3 d3 q H hs wr rd full [] ∧ d3.size = 1054 ∧ Bits d3 [] ∧ ∀ j y,(l.map U8)[j]? = some y → d3[1041 + j]? = some y:=by
 intro d3 w3
 have hsz:=h.dec.sz
 have hlm : (l.map U8).length = l.length:=by simp
 obtain ⟨s1,s2⟩:=splice_same ((d.setIfInBounds 4 (.int .u64 0)).setIfInBounds 3 (.int .u32 0)) 1041 (l.map U8) (by simp;omega)
 rw [hlm] at s1
 have hS : Same (fun j => j = 2 ∨ j = 3 ∨ j = 4 ∨ (1041 ≤ j ∧ j < 1045)) d d3:=((((Same.refl _ d).set (by omega) _).set (by omega) _).trans (s1.mono (fun j e => by omega))).set (by omega) _
 have he3 : Ext (FM x.F x.R) w w3:=he1.setCell (p:=⟨x.F,2,none⟩) (fun _ => .inl rfl) _
 have hE2 : Ext (fun j => j = x.F) w1 w3:=(Ext.refl _ w1).only _
 have hsz1 : (splice (((d.setIfInBounds 4 (.int .u64 0)).setIfInBounds 3 (.int .u32 0))).toList 1041 (l.map U8)).toArray.size = 1054:=by rw [s1.1];simp;exact hsz
 have hsz3 : d3.size = 1054:=by rw [hS.1];exact hsz
 have hb3 : Blk w3 x.F d3 147:=hb1.set 2 _
 have hdd:=h.dec.w3.dd
 refine ⟨hS,he3,⟨hb3,by rw [hS.2 0 (by omega)];exact h.dec.tk.rdr,hs1.ext hE2 (fun e => ap.FR e.symm) ap.sF,h.dec.tk.ends.ext he3 (fun j hj e => by rcases e with e | e;exact ap.E j hj (.inl e);exact ap.E j hj (.inr (.inl e)))⟩,⟨⟨hb3,by rw [hS.2 _ (by omega)];exact hdd.hist,by rw [hS.2 _ (by omega)];exact hdd.wrc,by rw [hS.2 _ (by omega)];exact hdd.rdc,by rw [hS.2 _ (by omega)];exact hdd.fullc,
  hdd.hblk.ext he3 (fun e => by rcases e with e | e;exact ap.Fh e.symm;exact ap.Rh e.symm),hdd.ne,hdd.size,hdd.wrle,hdd.rdle⟩,h.dec.w3.win,h.dec.w3.lt,h.dec.w3.out.none _ (hS.2 1049 (by omega)),h.dec.w3.len,h.dec.w3.tl⟩,hsz3,⟨?_,?_,z,set_eq _ (by omega)⟩,fun j y hy => ?_⟩
 ·rw [show d3[3]? = _ from set_ne _ _ (by decide),s1.2 3 (by omega)];exact set_eq _ (by simp;omega)
 ·rw [show d3[4]? = _ from set_ne _ _ (by decide),s1.2 4 (by omega),set_ne _ _ (by decide)];exact set_eq _ (by omega)
 ·rw [show d3[1041 + j]? = _ from set_ne _ _ (by omega)];exact s2 j y hy
theorem Bk.head {x : Pl} {k : Blkc} {w w1 : World} {d : Array Value} {q : Nat} {H hs : List UInt8} {wr rd : Nat} {full : Bool} {BB : List Bool} {p i n kk P : Nat} (ap : Apart x) (hn : n ≤ 65535) (hk : kk < 8) (hin : i + n = k.j) (hP : (P + kk) % 8 = 0) (hkp : k.pos = P + kk + 32 + 8 * n)
  (h : Bk x k w d q H hs wr rd full BB p i (List.replicate kk false ++ (lsb n 16 ++ (lsb (65535 - n) 16 ++ (bitsOf ((k.all.take (i + n)).drop i) ++ k.Y))))) :
  (p + 4 ≤ x.src.length ∨ x.ext ≠ []) ∧ ∀ (l : List UInt8) (z : Int),p + 4 ≤ x.src.length → l = (x.src.drop p).take 4 → l = [UInt8.ofNat (n % 256),UInt8.ofNat (n / 256),UInt8.ofNat ((65535 - n) % 256),UInt8.ofNat ((65535 - n) / 256)] ∧
   (Blk w1 x.F (splice (((d.setIfInBounds 4 (.int .u64 0)).setIfInBounds 3 (.int .u32 0))).toList 1041 (l.map U8)).toArray 147 → Ext (FM x.F x.R) w w1 → Src w1 x.R x.sb x.so x.cap x.src (p + 4) →
   Bh x k w d (w1.setCell ⟨x.F,2,none⟩ (.int .i64 z)) ((splice (((d.setIfInBounds 4 (.int .u64 0)).setIfInBounds 3 (.int .u32 0))).toList 1041 (l.map U8)).toArray.setIfInBounds 2 (.int .i64 z)) q H hs wr rd full (p + 4) i n):=by
 have hle:=RestOf.le h.rest
 have hlen : ((k.all.take (i + n)).drop i).length = n:=by simp;omega
 have h8:=h.rest.1
 have hz:=h.dec.tk.z
 have e : i + n - i = n:=by omega
 obtain ⟨L',hL1,hL2⟩:=stored_open (all:=k.all) (i:=i) (j:=i + n) (pos:=P) (k:=kk) (Y:=k.Y) (by rw [e];exact hz) h.hand hk hP (by rw [hlen,← hkp];exact h8) (by omega)
 rw [e] at hL1
 refine ⟨?_,?_⟩
 ·rcases Nat.lt_or_ge x.src.length (p + 4) with h1 | h1
  ·refine .inr fun hx => ?_
   have:=congrArg List.length hL1
   rw [hx] at this
   simp at this;omega
  ·exact .inl h1
 ·intro l z hp hl
  have hd : (x.src.drop p).length ≥ 4:=by simp;omega
  have e1:=congrArg (List.take 4) hL1
  have e2:=congrArg (List.drop 4) hL1
  rw [List.take_append_of_le_length (by omega),List.take_left' (by rfl)] at e1
  rw [List.drop_append_of_le_length (by omega),List.drop_left' (by rfl),List.drop_drop] at e2
  have hl4:=hl.trans e1
  refine ⟨hl4,fun hb1 he1 hs1 => ?_⟩
  obtain ⟨a1,a2,a3,a4,a5,a6,a7⟩:=h.read ap l (by rw [hl4];simp) z hb1 he1 hs1
  exact ⟨⟨⟨a3.blk,Same.refl _ _,a3.rdr,a6,a3.src,a3.ends,Ext.refl _ _,by rw [List.nil_append,e2];exact hL2⟩,a4,a5⟩,by rw [a1.2 _ (by omega)];exact h.fin,by rw [a1.2 _ (by omega)];exact h.err,h.rest,hin,h.hist,h.base,hn,a1.mono (fun j e => by unfold DBM HBM;omega),a2.mono (fun _ _ e => FM_M3 e),
   h.js.same (a1.2 _ (by omega)) (a1.2 _ (by omega)) (a1.2 _ (by omega)) (Nat.le_refl _)⟩
theorem i64_or_low (a b : Nat) (ha : a < 256) (hb : b < 256) : bits BinOp.or IntKind.i64 (a : Int) ((b : Int) * 256) = ((a + 256 * b : Nat) : Int):=by
 have h:=bits_join .i64 62 (by decide) (fun m h0 h1 => IntWalk.i64_in m (by constructor <;> omega)) 8 ((b : Int) * 256) (a : Int) (by omega) (by omega) (by omega) (by omega) (by omega) (by omega)
 have hc : bits BinOp.or IntKind.i64 (a : Int) ((b : Int) * 256) = bits BinOp.or IntKind.i64 ((b : Int) * 256) (a : Int):=by
  show IntKind.i64.wrap _ = IntKind.i64.wrap _
  rw [BitVec.or_comm]
 rw [hc,h];omega
theorem i64_inv (a : Nat) (ha : a < 9223372036854775808) : bits .xor .i64 (-1) (a : Int) = -1 - (a : Int):=by
 show IntKind.i64.wrap ((BitVec.ofInt 64 (-1) ^^^ BitVec.ofInt 64 (a : Int)).toNat : Int) = _
 have h1 : BitVec.ofInt 64 (-1) = BitVec.allOnes 64:=by decide
 rw [h1,BitVec.allOnes_xor,BitVec.toNat_not,ofInt_u64 a (by omega)]
 simp [IntKind.wrap,IntKind.bits,IntKind.signed]
 omega
noncomputable def reg67 (n : Nat) : Code:=(Tryz.f67.body.bind (regionOf n)).getD .skip
set_option maxRecDepth 100000 in
set_option maxHeartbeats 4000000 in
theorem data_read (F R : Nat) (w : World) (nr : Nat) (ev : Value) (S : World → Prop) (hc0 : w.cell? ⟨F,0,none⟩ = some (.iface 50 (.pointer (some ⟨R,0,none⟩))))
  (hX : Calls Tryz.prog 48 #[.iface 50 (.pointer (some ⟨R,0,none⟩)),.slice (some ⟨F,1041,none⟩) 4 4] w.drew fun e w' => e = .returned (.tuple #[.int .i64 nr,ev]) ∧ S w') (K : Act → World → Prop) (R0 : Ending → World → Prop)
  (hK : ∀ (u2 u3 u12 u13 u14 u15 u16 u17 u18 u19 u20 u21 u22 u23 : Value) (wx : World),u2 = .int .i64 nr → u3 = ev → S wx → K ⟨List.toArray ((.pointer (some ⟨F,0,none⟩))::c1::u2::u3::c4::c5::c6::c7::c8::c9::c10::c11::u12::u13::u14::u15::u16::u17::u18::u19::u20::u21::u22::u23::c24::c25::c26::c27::c28::c29::c30::c31::c32::c33::c34::c35::c36::c37::c38::c39::c40::c41::c42::c43::c44::c45::c46::c47::c48::c49::c50::c51::c52::c53::c54::c55::c56::c57::c58::c59::c60::c61::c62::c63::c64::c65::c66::c67::c68::c69::c70::c71::c72::c73::c74::c75::c76::c77::c78::c79::c80::c81::c82::c83::c84::c85::c86::c87::c88::c89::c90::c91::c92::c93::c94::c95::c96::c97::[]),[]⟩ wx) :
  Code.wp Tryz.prog (reg67 2) (Exit.then K (bodyPost Tryz.prog Tryz.f67 R0)) ⟨List.toArray ((.pointer (some ⟨F,0,none⟩))::c1::c2::c3::c4::c5::c6::c7::c8::c9::c10::c11::c12::c13::c14::c15::c16::c17::c18::c19::c20::c21::c22::c23::c24::c25::c26::c27::c28::c29::c30::c31::c32::c33::c34::c35::c36::c37::c38::c39::c40::c41::c42::c43::c44::c45::c46::c47::c48::c49::c50::c51::c52::c53::c54::c55::c56::c57::c58::c59::c60::c61::c62::c63::c64::c65::c66::c67::c68::c69::c70::c71::c72::c73::c74::c75::c76::c77::c78::c79::c80::c81::c82::c83::c84::c85::c86::c87::c88::c89::c90::c91::c92::c93::c94::c95::c96::c97::[]),[]⟩ w:=by
 have HX:=Lib.hid hX;have HK:=Lib.hid hK
 clear hX hK
 conv => arg 2;whnf
 go_region_with (go_at_call 48;refine HX.out.mono ?_;rintro e w1 ⟨rfl,hs1⟩;have HS1:=Lib.hid hs1;clear hs1)
 all_goals
  go_wp2_with fail
  exact HK.out _ _ _ _ _ _ _ _ _ _ _ _ _ _ _ rfl rfl HS1.out
set_option maxRecDepth 100000 in
set_option maxHeartbeats 16000000 in
theorem dataBlock_any (x : Pl) (ap : Apart x) (k : Blkc) (w : World) (d : Array Value) (q : Nat) (H hs : List UInt8) (wr rd : Nat) (full : Bool) (BB : List Bool) (p i n kk P : Nat) (hn : n ≤ 65535) (hk : kk < 8) (hin : i + n = k.j) (hP : (P + kk) % 8 = 0) (hkp : k.pos = P + kk + 32 + 8 * n)
  (h : Bk x k w d q H hs wr rd full BB p i (List.replicate kk false ++ (lsb n 16 ++ (lsb (65535 - n) 16 ++ (bitsOf ((k.all.take (i + n)).drop i) ++ k.Y))))) :
  Calls Tryz.prog 67 #[.pointer (some ⟨x.F,0,none⟩)] w fun e w' => e = .returned (.tuple #[]) ∧ CDEnd x k w d q w':=by
 have HH:=Lib.hid h
 have hb:=h.dec.tk.blk
 have hfr:=hb.free
 have hc0 : w.cell? ⟨x.F,0,none⟩ = some (.iface 50 (.pointer (some ⟨x.R,0,none⟩))):=by rw [hb.cell];exact h.dec.tk.rdr
 have hc3 : w.cell? ⟨x.F,3,none⟩ = some (.int .u32 (val BB : Nat)):=by rw [hb.cell];exact h.dec.tk.bits.b
 have hc4 : w.cell? ⟨x.F,4,none⟩ = some (.int .u64 BB.length):=by rw [hb.cell];exact h.dec.tk.bits.nb
 have hsz:=h.dec.sz
 clear h hb
 go_enter Tryz.func67,Tryz.ntmps67
 go_upto_region 2 with (fail)
 obtain ⟨w1,hw1⟩ : ∃ y,(w.setCell ⟨x.F,4,none⟩ (.int .u64 0)).setCell ⟨x.F,3,none⟩ (.int .u32 0) = y:=⟨_,rfl⟩
 rw [hw1]
 have he1 : Ext (fun j => j = x.F) w w1:=by rw [← hw1];exact ((Ext.refl _ w).only _).only _
 have hb1 : Blk w1 x.F ((d.setIfInBounds 4 (.int .u64 0)).setIfInBounds 3 (.int .u32 0)) 147:=by rw [← hw1];exact (HH.out.dec.tk.blk.set 4 _).set 3 _
 have hc01 : w1.cell? ⟨x.F,0,none⟩ = some (.iface 50 (.pointer (some ⟨x.R,0,none⟩))):=by rw [hb1.cell,set_ne _ _ (by decide),set_ne _ _ (by decide)];exact HH.out.dec.tk.rdr
 obtain ⟨hshort,hnum⟩:=HH.out.head (w1:=w1) ap hn hk hin hP hkp
 have hEF:=ap.EF
 have hER:=ap.ER
 have hsz1 : ((d.setIfInBounds 4 (.int .u64 0)).setIfInBounds 3 (.int .u32 0)).size = 1054:=by simp;exact hsz
 have hdr : Ext (fun j => j = x.F) w w1.drew:=he1.drew
 have hS:=HH.out.dec.tk.src.ext hdr (fun e => ap.FR e.symm) ap.sF
 have hE:=HH.out.dec.tk.ends.ext hdr (fun j hj e => ap.E j hj (.inl e))
 rcases Nat.lt_or_ge x.src.length (p + 4) with hp | hp
 ·have hx : x.ext ≠ []:=by
   rcases hshort with h | h
   ·omega
   ·exact h
  have hple:=HH.out.dec.tk.src.le
  have hX:=readFull_short x.R x.sb x.so x.cap x.src p x.A x.U x.F 1041 4 4 _ 147 w1.drew hS hE hER hEF hb1.drew ap.FR (Ne.symm ap.sF) (by rw [hsz1];decide) ap.room (by decide) (Nat.le_refl _) hp
  obtain ⟨u,hu,hX⟩ : ∃ u,(u = x.A ∨ u = x.U) ∧ Calls Tryz.prog 48 #[.iface 50 (.pointer (some ⟨x.R,0,none⟩)),.slice (some ⟨x.F,1041,none⟩) 4 4] w1.drew fun e w' => e = .returned (.tuple #[.int .i64 ((x.src.length - p : Nat) : Int),.iface 175 (.pointer (some u))]) ∧ Src w' x.R x.sb x.so x.cap x.src x.src.length ∧ Blk w' x.F (splice ((d.setIfInBounds 4 (.int .u64 0)).setIfInBounds 3 (.int .u32 0)).toList 1041 ((x.src.drop p).map U8)).toArray 147 ∧ Ext (fun j => j = x.R ∨ j = x.F) w1.drew w':=by
   rcases Nat.lt_or_ge p x.src.length with h1 | h1
   ·refine ⟨x.U,.inr rfl,hX.mono ?_⟩
    rintro e w' ⟨a,b,c,f⟩
    rcases a with ⟨a,a2⟩ | ⟨a,a2⟩
    ·omega
    ·exact ⟨a,b,c,f⟩
   ·refine ⟨x.A,.inl rfl,hX.mono ?_⟩
    rintro e w' ⟨a,b,c,f⟩
    rcases a with ⟨a,a2⟩ | ⟨a,a2⟩
    ·exact ⟨a,b,c,f⟩
    ·omega
  have hw1':=hw1
  clear hw1 he1 hb1 hdr hS hE hc0 hc3 hc4 hfr hshort hnum
  refine data_read x.F x.R w1 (x.src.length - p) (.iface 175 (.pointer (some u))) (fun w' => Src w' x.R x.sb x.so x.cap x.src x.src.length ∧ Blk w' x.F (splice ((d.setIfInBounds 4 (.int .u64 0)).setIfInBounds 3 (.int .u32 0)).toList 1041 ((x.src.drop p).map U8)).toArray 147 ∧ Ext (fun j => j = x.R ∨ j = x.F) w1.drew w') hc01 hX _ _ ?_
  intro u2 u3 u12 u13 u14 u15 u16 u17 u18 u19 u20 u21 u22 u23 w2 hu2 hu3 h2
  subst hu2 hu3
  obtain ⟨hs2,hb2,he2⟩:=h2
  have he2' : Ext (FM x.F x.R) w w2:=((Ext.mono (M:=fun j => j = x.F) (by rw [← hw1'];exact ((Ext.refl _ w).only _).only _) (fun _ _ e => .inl e)).drew).trans (he2.mono (fun _ _ e => by rcases e with e | e;exact .inr e;exact .inl e))
  obtain ⟨z,hz⟩:=HH.out.dec.tk.bits.off
  obtain ⟨ln,hln⟩ : ∃ y,x.src.length - p = y:=⟨_,rfl⟩
  have hl4 : (x.src.drop p).length = ln:=by simp;exact hln
  have hln4 : ln < 4:=by omega
  rw [hln]
  have hss:=(splice_same ((d.setIfInBounds 4 (.int .u64 0)).setIfInBounds 3 (.int .u32 0)) 1041 ((x.src.drop p).map U8) (by rw [hsz1,List.length_map,hl4];omega)).1
  have hc2 : w2.cell? ⟨x.F,2,none⟩ = some (.int .i64 z):=by rw [hb2.cell,hss.2 2 (by omega),set_ne _ _ (by decide),set_ne _ _ (by decide)];exact hz
  have hf2:=hb2.free
  obtain ⟨s,hs0⟩ : ∃ s : Int,wrap64 (z + (ln : Int)) = s:=⟨_,rfl⟩
  obtain ⟨a1,a2,a3,a4,a5,a6,a7⟩:=HH.out.read ap (x.src.drop p) (by omega) s hb2 he2' hs2
  have hc48 : (w2.setCell ⟨x.F,2,none⟩ (.int .i64 s)).cell? ⟨x.F,1048,none⟩ = some .nilIface:=by rw [a3.blk.cell,a1.2 _ (by omega)];exact HH.out.err
  have hfr3:=a3.blk.free
  have HNE : Hid (Calls Tryz.prog 71 #[.iface 175 (.pointer (some u))] (w2.setCell ⟨x.F,2,none⟩ (.int .i64 s)) fun e w' => e = .returned (.iface 175 (.pointer (some x.U))) ∧ (w2.setCell ⟨x.F,2,none⟩ (.int .i64 s)) = w'):=by
   rcases hu with rfl | rfl
   ·exact Lib.hid (noEOF_eof x.A x.U _ a3.ends.eof a3.ends.early)
   ·obtain ⟨cu,tu,hru⟩:=a3.ends.early.row
    exact Lib.hid (noEOF_other x.A x.U _ a3.ends.eof cu tu hru a3.ends.ne)
  have hle:=RestOf.le HH.out.rest
  have HEND : Hid (CDEnd x k w d q ((w2.setCell ⟨x.F,2,none⟩ (.int .i64 s)).setCell ⟨x.F,1048,none⟩ (.iface 175 (.pointer (some x.U))))):=Lib.hid
   (.bad ⟨a3.setF ap _ (by omega),a4.setF _ (by omega),by simpa using a5,.inr ⟨hx,set_eq _ (by omega)⟩⟩ (by have:=HH.out.base;omega) ((a1.mono (fun j e => by unfold DBM HBM;omega)).set (by unfold DBM HBM;omega) _) ((a2.mono (fun _ _ e => FM_M3 e)).setCell (p:=⟨x.F,1048,none⟩) (fun _ => .inl rfl) _))
  clear a1 a2 a3 a4 a5 a6 a7 hss hz hs2 hb2 he2 he2' hX hw1' hc01 hl4
  go_wp2_with fail
  refine HNE.out.mono ?_
  rintro e w4 ⟨rfl,rfl⟩
  go_wp2_with fail
  exact ⟨rfl,.tuple #[],by kernel_rfl,rfl,HEND.out⟩
 ·obtain ⟨l,hl⟩ : ∃ l,(x.src.drop p).take 4 = l:=⟨_,rfl⟩
  have hX:=readFull_all x.R x.sb x.so x.cap x.src p x.A x.F 1041 4 4 _ 147 w1.drew hS hE.eof (fun e => hER (.inl e)) hb1.drew ap.FR (Ne.symm ap.sF) (by rw [hsz1];decide) ap.room (by decide) (Nat.le_refl _) hp
  rw [hl] at hX
  have hw1':=hw1
  clear hw1 he1 hb1 hdr hS hE hc0 hc3 hc4 hfr hshort
  refine data_read x.F x.R w1 4 .nilIface (fun w' => Src w' x.R x.sb x.so x.cap x.src (p + 4) ∧ Blk w' x.F (splice ((d.setIfInBounds 4 (.int .u64 0)).setIfInBounds 3 (.int .u32 0)).toList 1041 (l.map U8)).toArray 147 ∧ Ext (fun j => j = x.R ∨ j = x.F) w1.drew w') hc01 ?_ _ _ ?_
  ·refine hX.mono ?_
   rintro e w' ⟨rfl,a,b,c⟩
   exact ⟨rfl,a,b,c⟩
  intro u2 u3 u12 u13 u14 u15 u16 u17 u18 u19 u20 u21 u22 u23 w2 hu2 hu3 h2
  subst hu2 hu3
  obtain ⟨hs2,hb2,he2⟩:=h2
  have he2' : Ext (FM x.F x.R) w w2:=((Ext.mono (M:=fun j => j = x.F) (by rw [← hw1'];exact ((Ext.refl _ w).only _).only _) (fun _ _ e => .inl e)).drew).trans (he2.mono (fun _ _ e => by rcases e with e | e;exact .inr e;exact .inl e))
  obtain ⟨z,hz⟩:=HH.out.dec.tk.bits.off
  have hl4' : l.length = 4:=by rw [← hl];simp;omega
  have hss:=(splice_same ((d.setIfInBounds 4 (.int .u64 0)).setIfInBounds 3 (.int .u32 0)) 1041 (l.map U8) (by rw [hsz1,List.length_map,hl4'];decide)).1
  have hc2 : w2.cell? ⟨x.F,2,none⟩ = some (.int .i64 z):=by rw [hb2.cell,hss.2 2 (by omega),set_ne _ _ (by decide),set_ne _ _ (by decide)];exact hz
  have hf2:=hb2.free
  obtain ⟨s,hs0⟩ : ∃ s : Int,wrap64 (z + 4) = s:=⟨_,rfl⟩
  obtain ⟨hl4,hBh⟩:=(HH.out.head (w1:=w2) ap hn hk hin hP hkp).2 l s hp hl.symm
  have hBh:=hBh hb2 he2' hs2
  have hcells:=(HH.out.read ap l (by omega) s hb2 he2' hs2).2.2.2.2.2.2
  have hb3:=hBh.dec.tk.blk
  have k0 : (w2.setCell ⟨x.F,2,none⟩ (.int .i64 s)).cell? ⟨x.F,1041,none⟩ = some (.int .u8 ((n % 256 : Nat) : Int)):=by rw [hb3.cell];rw [hcells 0 (U8 (UInt8.ofNat (n % 256))) (by rw [hl4];rfl)];simp [U8]
  have k1 : (w2.setCell ⟨x.F,2,none⟩ (.int .i64 s)).cell? ⟨x.F,1042,none⟩ = some (.int .u8 ((n / 256 : Nat) : Int)):=by rw [hb3.cell];rw [hcells 1 (U8 (UInt8.ofNat (n / 256))) (by rw [hl4];rfl)];simp [U8];omega
  have k2 : (w2.setCell ⟨x.F,2,none⟩ (.int .i64 s)).cell? ⟨x.F,1043,none⟩ = some (.int .u8 (((65535 - n) % 256 : Nat) : Int)):=by rw [hb3.cell];rw [hcells 2 (U8 (UInt8.ofNat ((65535 - n) % 256))) (by rw [hl4];rfl)];simp [U8]
  have k3 : (w2.setCell ⟨x.F,2,none⟩ (.int .i64 s)).cell? ⟨x.F,1044,none⟩ = some (.int .u8 (((65535 - n) / 256 : Nat) : Int)):=by rw [hb3.cell];rw [hcells 3 (U8 (UInt8.ofNat ((65535 - n) / 256))) (by rw [hl4];rfl)];simp [U8];omega
  obtain ⟨b0,hb0⟩ : ∃ y,n % 256 = y:=⟨_,rfl⟩
  obtain ⟨b1,hb1⟩ : ∃ y,n / 256 = y:=⟨_,rfl⟩
  obtain ⟨b2,hb2e⟩ : ∃ y,(65535 - n) % 256 = y:=⟨_,rfl⟩
  obtain ⟨b3,hb3e⟩ : ∃ y,(65535 - n) / 256 = y:=⟨_,rfl⟩
  rw [hb0] at k0
  rw [hb1] at k1
  rw [hb2e] at k2
  rw [hb3e] at k3
  have o1 : bits BinOp.or IntKind.i64 (b0 : Int) ((b1 : Int) * 256) = (n : Int):=by rw [i64_or_low b0 b1 (by omega) (by omega)];omega
  have o2 : bits BinOp.or IntKind.i64 (b2 : Int) ((b3 : Int) * 256) = ((65535 - n : Nat) : Int):=by rw [i64_or_low b2 b3 (by omega) (by omega)];omega
  have hx:=i64_inv n (by omega)
  obtain ⟨N2,hN2⟩ : ∃ y,65535 - n = y:=⟨_,rfl⟩
  rw [hN2] at o2
  have hx2 : (-1 - (n : Int)) % 65536 = (N2 : Int):=by omega
  have hx3 : IntKind.u16.wrap (-1 - (n : Int)) = (N2 : Int):=by rw [IntKind.wrap_u16];exact hx2
  have hsg : IntKind.i64.signed = true:=rfl
  have hN3 : (N2 : Int) % 65536 = (N2 : Int):=by omega
  have b0l : b0 < 256:=by omega
  have b1l : b1 < 256:=by omega
  have b2l : b2 < 256:=by omega
  have b3l : b3 < 256:=by omega
  have HBH:=Lib.hid hBh
  clear hb0 hb1 hb2e hb3e hl4 hl4' hcells hb3 hss hBh hX hnum hN2 hs2 hb2 he2 he2' hz hc01 hw1'
  go_upto_region 6 with (fail)
  go_quiet (fail)
  go_upto_region 7 with (fail)
  obtain ⟨na,rfl⟩ : ∃ n : Nat,n = nq:=⟨_,rfl⟩
  go_quiet (fail)
  go_upto_region 10 with (fail)
  obtain ⟨w3,hw3⟩ : ∃ y,(w2.setCell ⟨x.F,2,none⟩ (.int .i64 s)).drewN (na + nq) = y:=⟨_,rfl⟩
  have he3 : Ext (fun _ => False) (w2.setCell ⟨x.F,2,none⟩ (.int .i64 s)) w3:=by rw [← hw3];exact (Ext.refl _ _).drewN _
  obtain ⟨d3,hd3⟩ : ∃ y,(splice ((d.setIfInBounds 4 (.int .u64 0)).setIfInBounds 3 (.int .u32 0)).toList 1041 (l.map U8)).toArray.setIfInBounds 2 (.int .i64 s) = y:=⟨_,rfl⟩
  have hB3:=HBH.out.quiet he3
  rw [hd3] at hB3
  have HB3:=Lib.hid hB3
  rw [hw3]
  have hb3:=hB3.dec.tk.blk
  have hf3:=hb3.free
  have hsz3:=hB3.dec.sz
  clear hw3 he3 hd3 hB3 HBH k0 k1 k2 k3 hf2 hc2 hs0
  rcases Nat.eq_zero_or_pos n with hn0 | hn0
  ·subst hn0
   have HRF:=Lib.hid (readFlush_any x.F x.hb d3 hs wr rd full w3 HB3.out.dec.w3.dd (by have:=HB3.out.dec.w3.lt;have:=HB3.out.dec.w3.dd.rdle;omega))
   clear hb3
   go_wp2_with fail
   refine HRF.out.mono ?_
   rintro e w4 ⟨d4,rfl,hd4,hs4,he4⟩
   have hlt:=HB3.out.dec.w3.lt
   rw [if_neg (by omega),if_neg (by omega)] at hd4
   have hb4:=hd4.blk
   have hf4:=hb4.free
   have hsz4 : d4.size = 1054:=by rw [hs4.1];exact hsz3
   have hc49 : ∃ v,w4.cell? ⟨x.F,1049,none⟩ = some v:=⟨d4[1049]'(by omega),by rw [hb4.cell,Array.getElem?_eq_getElem]⟩
   obtain ⟨y49,hc49⟩:=hc49
   have HF:=Lib.hid (finishBlock_any x ap (w4.setCell ⟨x.F,1049,none⟩ (.slice (some ⟨x.hb,rd,none⟩) (wr - rd) (32768 - rd))) (d4.setIfInBounds 1049 (.slice (some ⟨x.hb,rd,none⟩) (wr - rd) (32768 - rd))) k.fin hs wr wr full (by simpa using hsz4) (hd4.setF _ (by omega)) hlt
    (by rw [set_ne _ _ (by decide),hs4.2 _ (by omega)];exact HB3.out.fin) ((HB3.out.dec.tk.ends.ext he4 (fun j hj e => ap.E j hj (.inl e))).ext (((Ext.refl (fun j => j = x.F) w4).only _)) (fun j hj e => ap.E j hj (.inl e))))
   have HD4:=Lib.hid hd4;have HS4:=Lib.hid hs4;have HE4:=Lib.hid he4
   clear hd4 hs4 he4 hb4 hsz4
   go_wp2_with fail
   refine HF.out.mono ?_
   intro e w5 hf
   obtain ⟨rfl,h5⟩:=HB3.out.zero ap HD4.out HS4.out HE4.out hf
   have H5:=Lib.hid h5
   clear hf h5
   go_wp2_with fail
   exact ⟨rfl,.tuple #[],by kernel_rfl,rfl,H5.out⟩
  ·have hn1 : ((n : Int) == 0) = false:=by simp;omega
   have hn2 : ¬ (n : Int) = 0:=by omega
   have hn3 : ¬ n = 0:=by omega
   have hc52 : ∃ v,w3.cell? ⟨x.F,1052,none⟩ = some v:=⟨d3[1052]'(by omega),by rw [hb3.cell,Array.getElem?_eq_getElem]⟩
   obtain ⟨y52,hc52⟩:=hc52
   have HC:=Lib.hid (copyData_any x ap k w _ d _ q H hs wr rd full (p + 4) i n (HB3.out.d0 ap))
   clear hb3
   go_wp2_with fail
   refine HC.out.mono ?_
   rintro e w4 ⟨rfl,h4⟩
   have H4:=Lib.hid h4
   clear h4
   go_wp2_with fail
   go_end0
   exact ⟨rfl,H4.out⟩
end Go.Proofs.YthpapbilhjobnaaGreatDoor
namespace Go.Proofs.YthpapbilhjobnaaGreatDoor
open Go.RowKit Pu
variable {c0 c1 c2 c3 c4 c5 c6 c7 c8 c9 c10 c11 c12 c13 c14 c15 c16 c17 c18 c19 c20 c21 c22 c23 c24 c25 c26 c27 c28 c29 c30 c31 c32 c33 c34 c35 c36 c37 c38 c39 c40 c41 c42 c43 c44 c45 c46 c47 c48 c49 c50 c51 c52 c53 c54 c55 c56 c57 c58 c59 c60 c61 c62 c63 c64 c65 c66 c67 c68 c69 c70 c71 c72 c73 c74 c75 c76 c77 c78 c79 c80 c81 c82 c83 c84 c85 c86 c87 c88 c89 c90 c91 c92 c93 c94 c95 c96 c97 c98 c99 c100 c101 c102 : Value}
theorem set_self {c : Array Value} {k : Nat} {v : Value} (h : c[k]? = some v) : c.setIfInBounds k v = c:=by
 refine Array.ext_getElem? fun j => ?_
 by_cases e : k = j
 ·subst e;rw [set_eq _ (get_lt h),h]
 ·rw [set_ne _ _ e]
theorem Tak.again {x : Pl} {w0 : World} {c0 : Array Value} {Y : List Bool} {w : World} {c : Array Value} {BB : List Bool} {p k : Nat} {v : Value} (h : Tak x w0 c0 Y w c BB p) (hk : c[k]? = some v) (ap : Apart x) (h5 : 5 ≤ k) : Tak x w0 c0 Y (w.setCell ⟨x.F,k,none⟩ v) c BB p:=by
 have hb:=h.blk.set k v
 rw [set_self hk] at hb
 have he : Ext (fun j => j = x.F) w (w.setCell ⟨x.F,k,none⟩ v):=(Ext.refl _ w).only _
 exact ⟨hb,h.same,h.rdr,h.bits,h.src.ext he (fun e => ap.FR e.symm) ap.sF,h.ends.ext he (fun j hj e => ap.E j hj (.inl e)),h.ext.trans (he.mono (fun _ _ e => .inl e)),h.z⟩
set_option maxRecDepth 100000 in
set_option maxHeartbeats 4000000 in
theorem need61_0 (x : Pl) (ap : Apart x) (w0 w : World) (c0 c : Array Value) (BB Y : List Bool) (p : Nat) (h : Tak x w0 c0 Y w c BB p) (hsz : c0.size = 1054) (hnil : c0[1048]? = some .nilIface) (hY : 3 ≤ Y.length) (hBB : BB.length ≤ 24) (Q : Exit → Act → World → Prop)
  (hK : ∀ (u3 u4 u5 u6 u7 u8 u9 u10 u11 u12 u13 u14 u15 u16 u17 : Value) (wx : World) (c' : Array Value) (B' : List Bool) (p' : Nat),Tak x w0 c0 Y wx c' B' p' → 3 ≤ B'.length → (B'.length < 3 + 8 ∨ B'.length = BB.length) → Q .normal ⟨List.toArray ((.pointer (some ⟨x.F,0,none⟩))::c1::c2::u3::u4::u5::u6::u7::u8::u9::u10::u11::u12::u13::u14::u15::u16::u17::c18::c19::c20::c21::c22::c23::c24::c25::c26::c27::c28::c29::c30::c31::c32::c33::c34::c35::c36::c37::c38::c39::c40::c41::c42::c43::c44::c45::c46::c47::c48::c49::c50::c51::c52::c53::c54::c55::c56::c57::c58::c59::c60::c61::c62::c63::c64::c65::c66::c67::c68::c69::c70::c71::c72::c73::c74::c75::c76::c77::c78::c79::c80::c81::c82::c83::c84::c85::c86::c87::c88::c89::c90::c91::c92::c93::c94::c95::c96::c97::c98::c99::c100::c101::c102::[]),[]⟩ wx)
  (hR : ∀ (u3 u4 u5 u6 u7 u8 u9 u10 u11 u12 u13 u14 u15 u16 u17 : Value) (wx wy : World) (c' : Array Value) (B' : List Bool) (p' : Nat),Tak x w0 c0 Y wy c' B' p' → x.ext ≠ [] → wx = wy.setCell ⟨x.F,1048,none⟩ (.iface 175 (.pointer (some x.U))) → Q .ret ⟨List.toArray ((.pointer (some ⟨x.F,0,none⟩))::c1::c2::u3::u4::u5::u6::u7::u8::u9::u10::u11::u12::u13::u14::u15::u16::u17::c18::c19::c20::c21::c22::c23::c24::c25::c26::c27::c28::c29::c30::c31::c32::c33::c34::c35::c36::c37::c38::c39::c40::c41::c42::c43::c44::c45::c46::c47::c48::c49::c50::c51::c52::c53::c54::c55::c56::c57::c58::c59::c60::c61::c62::c63::c64::c65::c66::c67::c68::c69::c70::c71::c72::c73::c74::c75::c76::c77::c78::c79::c80::c81::c82::c83::c84::c85::c86::c87::c88::c89::c90::c91::c92::c93::c94::c95::c96::c97::c98::c99::c100::c101::c102::[]),[]⟩ wx) :
  Code.wp Tryz.prog (blk61 0) Q ⟨List.toArray ((.pointer (some ⟨x.F,0,none⟩))::c1::c2::c3::c4::c5::c6::c7::c8::c9::c10::c11::c12::c13::c14::c15::c16::c17::c18::c19::c20::c21::c22::c23::c24::c25::c26::c27::c28::c29::c30::c31::c32::c33::c34::c35::c36::c37::c38::c39::c40::c41::c42::c43::c44::c45::c46::c47::c48::c49::c50::c51::c52::c53::c54::c55::c56::c57::c58::c59::c60::c61::c62::c63::c64::c65::c66::c67::c68::c69::c70::c71::c72::c73::c74::c75::c76::c77::c78::c79::c80::c81::c82::c83::c84::c85::c86::c87::c88::c89::c90::c91::c92::c93::c94::c95::c96::c97::c98::c99::c100::c101::c102::[]),[]⟩ w:=by
 have H:=Lib.hid h;have HKK:=Lib.hid hK;have HRR:=Lib.hid hR
 clear h hK hR
 conv => arg 2;whnf
 go_wp2_with fail
 obtain ⟨n0,hn0⟩ : ∃ n,BB.length = n:=⟨_,rfl⟩
 have HN0:=Lib.hid hn0
 rw [hn0] at hBB
 clear hn0
 obtain ⟨k0,hk0⟩ : ∃ k,64 - n0 = k:=⟨_,rfl⟩
 have HK0:=Lib.hid hk0
 clear hk0
 go_loopg [] k0 (fun k wx => ∃ (c' : Array Value) (B' : List Bool) (p' : Nat),Tak x w0 c0 Y wx c' B' p' ∧ (B'.length < 3 + 8 ∨ B'.length = n0) ∧ n0 ≤ B'.length ∧ k = 64 - B'.length)
 case atStart => exact ⟨c,BB,p,H.out,.inr HN0.out,by rw [HN0.out];exact Nat.le_refl _,by rw [HN0.out];exact HK0.out.symm⟩
 case round =>
  obtain ⟨c',B',p',hT,hb1,hb2,hk⟩:=hrel
  obtain ⟨wo,rfl⟩ : ∃ wo : World,wo = wr:=⟨_,rfl⟩
  obtain ⟨hc3,hc4⟩:=hT.cells
  have hf:=hT.blk.free
  obtain ⟨nb,hnb⟩ : ∃ n,B'.length = n:=⟨_,rfl⟩
  rw [hnb] at hc4 hb1 hb2 hk
  have HT:=Lib.hid hT;have HK:=Lib.hid hk;have HNB:=Lib.hid hnb;have HB1:=Lib.hid hb1
  have hnb24 : nb ≤ 31:=by omega
  clear hT hk hnb hb1 hc3
  rcases Nat.lt_or_ge nb 3 with hlt | hge
  ·have hn24 : nb ≤ 24:=by omega
   rcases Nat.lt_or_ge p' x.src.length with hp | hp
   ·have HM:=Lib.hid (HT.out.more ap hp (by rw [HNB.out];exact hn24))
    go_wp2_with fail
    refine HM.out.mono ?_
    rintro e w1 ⟨rfl,c1,hT1⟩
    have HT1:=Lib.hid hT1
    have hcn:=hT1.other (k:=1048) (by omega) hnil
    have hfr:=hT1.blk.free
    have hnil1 : c1[1048]? = some .nilIface:=by rw [← hT1.blk.cell];exact hcn
    clear hT1
    go_wp2_with fail
    go_roundg (64 - (nb + 8))
    case measure => have:=HK.out;omega
    case rel =>
     have hl : (B' ++ lsb x.src[p'].toNat 8).length = nb + 8:=by rw [List.length_append,length_lsb,HNB.out]
     exact ⟨c1,_,_,HT1.out.again hnil1 ap (by omega),.inl (by rw [hl];omega),by rw [hl];omega,by rw [hl]⟩
   ·obtain ⟨hx,hpe⟩:=HT.out.short (by omega) (by rw [HNB.out];omega)
    have HM:=Lib.hid (HT.out.over ap hpe)
    go_wp2_with fail
    refine HM.out.mono ?_
    rintro e w1 ⟨rfl,hT1⟩
    have hfr:=hT1.blk.free
    have hce : ∃ v,w1.cell? ⟨x.F,1048,none⟩ = some v:=by
     have hs:=hT1.same.1
     rw [hsz] at hs
     exact ⟨c'[1048]'(by omega),by rw [hT1.blk.cell,Array.getElem?_eq_getElem]⟩
    obtain ⟨ve,hce⟩:=hce
    have HT1:=Lib.hid hT1
    clear hT1
    go_wp2_with fail
    exact HRR.out _ _ _ _ _ _ _ _ _ _ _ _ _ _ _ _ w1 c' B' p' HT1.out hx rfl
  ·go_wp2_with fail
   exact HKK.out _ _ _ _ _ _ _ _ _ _ _ _ _ _ _ _ c' B' p' HT.out (by rw [HNB.out];exact hge) (by rw [HNB.out,HN0.out];exact HB1.out)
end Go.Proofs.YthpapbilhjobnaaGreatDoor
